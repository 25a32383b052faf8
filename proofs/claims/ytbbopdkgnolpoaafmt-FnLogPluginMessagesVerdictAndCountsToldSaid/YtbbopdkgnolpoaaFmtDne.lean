/-
  A new log, what it hands back in the end, and the small functions round it; conditions: those that each lemma names.
-/
import Derived.Test.YtbbopdkgnolpoaaFmtLog
import Derived.Test.YtbbopdkgnolpoaaFmtSrt
import Derived.Laws.EntriesVeiled
import Derived.Deep.RegionWith
namespace Go.Proofs.YtbbopdkgnolpoaaFmt
open Go.RowKit Go.MuLone

theorem addE (g j : Nat) : (⟨g, 0, none⟩ : Addr).add j = ⟨g, j, none⟩ := by unfold Addr.add; split <;> simp_all
theorem flat8 : ∀ (ms : List Mg) (i j : Nat) (m : Mg) (u : Value), ms[i]? = some m → m.cells[j]? = some u → (ms.flatMap Mg.cells)[i * 8 + j]? = some u
  | [], _, _, _, _, h, _ => by cases h
  | a :: r, 0, j, m, u, h, hu => by
    cases h
    rw [List.flatMap_cons, Nat.zero_mul, Nat.zero_add, List.getElem?_append_left (List.getElem?_eq_some_iff.1 hu).1, hu]
  | a :: r, i + 1, j, m, u, h, hu => by
    have := flat8 r i j m u h hu
    rw [List.flatMap_cons, List.getElem?_append_right (by simp [Mg.cells]; omega), ← this]
    congr 1
    simp [Mg.cells]
    omega
theorem flat_len (ms : List Mg) : (ms.flatMap Mg.cells).length = ms.length * 8 := by
  induction ms with
  | nil => rfl
  | cons a r ih => rw [List.flatMap_cons, List.length_append, ih, List.length_cons]; simp [Mg.cells]; omega
theorem mrow_of {w : World} {B g n cap : Nat} {ms : List Mg} (h : w.ownsRow B 33 8 (.slice (some ⟨g, 0, none⟩) n cap) n (ms.flatMap Mg.cells)) : MRow w g ms := fun i m hi j u hu => by
  have := h.cells (g := g) rfl _ _ (flat8 ms i j m u hi hu)
  rw [addE] at this
  exact this
theorem own_cases {w : World} {B n : Nat} {v : Value} {xs : List Value} (h : w.ownsRow B 33 8 v n xs) : (v = .slice none 0 0 ∧ n = 0) ∨ ∃ g cap, v = .slice (some ⟨g, 0, none⟩) n cap ∧ B ≤ g ∧ g < w.heap.size := by
  rcases h.2 with h | ⟨g, cap, cur, hv, hb, hg, _⟩
  · exact .inl h
  · exact .inr ⟨g, cap, hv, hb, (Array.getElem?_eq_some_iff.1 hg).1⟩
theorem grown_of_below {w w' : World} (h : Below w.heap.size w w') : w.grownBy w' none := ⟨h.os, h.tape, h.output, h.size, fun k hk _ => h.block k hk⟩
set_option maxHeartbeats 1000000 in
theorem sort_zero (g cap : Nat) (w : World) : Calls Tryf.prog 14 #[.iface 45 (.slice (some ⟨g, 0, none⟩) 0 cap)] w (Done0 w) := by
  have hme := meth_len g 0 cap
  go_enter Tryf.func14, Tryf.ntmps14
  go_wp2_with (first | (go_at_call 74; refine (len_any g 0 cap _).mono ?_; rintro e w' ⟨rfl, rfl⟩) | (go_at_call 19; refine (stable_none _ _).mono ?_; rintro e w2 ⟨rfl, hb2⟩))
  go_end0
  exact ⟨rfl, hb2⟩
/-- The sort of whatever row of messages a log owns. -/
theorem sort_own {B n : Nat} {v : Value} {ms : List Mg} {w : World} (h : w.ownsRow B 33 8 v ms.length (ms.flatMap Mg.cells)) (hn : ms.length = n) (hm : n ≤ 65536) : Calls Tryf.prog 14 #[.iface 45 v] w (Done0 w) := by
  rcases own_cases h with ⟨rfl, h0⟩ | ⟨g, cap, rfl, hBg, hgl⟩
  · exact sort_none w
  · rw [hn] at h ⊢
    by_cases h0 : 0 < n
    · exact sort_any g n cap ms hn hm h0 w (mrow_of h)
    · obtain rfl : n = 0 := by omega
      exact sort_zero g cap w
def DonePost (B bm bu bh : Nat) (ms : List Mg) (w : World) (e : Ending) (w' : World) : Prop := ∃ v, e = .returned v ∧ w'.ownsRow B 33 8 v ms.length (ms.flatMap Mg.cells) ∧ LK B bm bu bh w w'

set_option maxHeartbeats 2000000 in
set_option maxRecDepth 100000 in
theorem done_any (B bk bm bu bh : Nat) (he : Bool) (ms : List Mg) (w : World) (h : LogAt B bk bm bu bh he ms w) (hn : ms.length ≤ 65536) :
    Calls Tryf.prog 13 #[.pointer (some ⟨bu, 0, none⟩), .pointer (some ⟨bm, 0, none⟩)] w (DonePost B bm bu bh ms w) := by
  obtain ⟨n1, n2, n3, n4, n5, n6⟩ := h.ne
  obtain ⟨h1, h2, h3, v, h4, h5⟩ := h
  have cu : w.cell? ⟨bu, 0, none⟩ = some (.int .i32 0) := Lib.cell_of_heap h2 0
  have fu : w.frozen? ⟨bu, 0, none⟩ = false := Lib.frozen_of_heap h2 0
  obtain ⟨W, hW⟩ : ∃ W, W = w.setCell ⟨bu, 0, none⟩ (.int .i32 1) := ⟨_, rfl⟩
  have t2 := setc h2 (i := 0) (.int .i32 1)
  have t4 : (w.setCell ⟨bu, 0, none⟩ (.int .i32 1)).heap[bm]? = some (.cells #[v] 45 (0, 0)) := by rw [setf n4]; exact h4
  have t5 := own_set (i := 0) h5 h2 (by decide) (.int .i32 1)
  have k1 : LK B bm bu bh w (w.setCell ⟨bu, 0, none⟩ (.int .i32 1)) := lk_set (.inr (.inl rfl)) _
  rw [← hW] at t2 t4 t5 k1
  have cm : W.cell? ⟨bm, 0, none⟩ = some v := Lib.cell_of_heap t4 0
  have HS := Lib.hid (And.intro t2 (And.intro t4 (And.intro t5 (And.intro k1 hW))))
  clear h1 h2 h3 h4 h5 t2 t4 t5 k1 hW
  go_enter_defers Tryf.func13, Tryf.ntmps13
  go_wp2_with fail
  refine (lock_free Tryf.muLib ⟨bu, 0, none⟩ _ cu fu).mono ?_
  rintro e w' ⟨rfl, rfl⟩
  rw [← HS.out.2.2.2.2]
  go_upto_region 4 with (go_at_call 14; refine (sort_own HS.out.2.2.1 rfl hn).mono ?_; rintro e w2 ⟨rfl, hb2⟩)
  have l1 := (Array.getElem?_eq_some_iff.1 HS.out.1).1
  have l2 := (Array.getElem?_eq_some_iff.1 HS.out.2.1).1
  have s2 := (hb2.block _ l1).trans HS.out.1
  have s4 := (hb2.block _ l2).trans HS.out.2.1
  have cm2 : w2.cell? ⟨bm, 0, none⟩ = some v := Lib.cell_of_heap s4 0
  have c2 : w2.cell? ⟨bu, 0, none⟩ = some (.int .i32 1) := Lib.cell_of_heap s2 0
  have f2 : w2.frozen? ⟨bu, 0, none⟩ = false := Lib.frozen_of_heap s2 0
  have HF := Lib.hid (And.intro (own_set (i := 0) (HS.out.2.2.1.kept (grown_of_below hb2) (Classical.em _)) s2 (by decide) (.int .i32 0)) ((HS.out.2.2.2.1.trans (LK.below hb2)).trans (lk_set (i := 0) (.inr (.inl rfl)) (.int .i32 0))))
  clear hb2 s2 s4 l1 l2 cm cu fu
  go_wp2_with fail
  refine leaves_cons (f := 10) (args := #[.pointer (some ⟨bu, 0, none⟩)]) (by simp) (by simp [go_sem]) ?_
  refine (unlock_deferred Tryf.muLib ⟨bu, 0, none⟩ .returning _ c2 f2).mono ?_
  rintro e u' w'' ⟨rfl, rfl, rfl⟩
  exact ⟨_, results_tmp rfl _ _ _, v, rfl, HF.out.1, HF.out.2⟩

theorem pk (h : Array Obj) (a b c d e : Obj) (i : Nat) : (((((h.push a).push b).push c).push d).push e)[h.size + i]? = ([a, b, c, d, e] : List Obj)[i]? := by
  have e1 : ((((h.push a).push b).push c).push d).push e = h ++ #[a, b, c, d, e] := rfl
  rw [e1, Array.getElem?_append_right (by omega), Nat.add_sub_cancel_left]
  exact (Array.getElem?_toList (xs := #[a, b, c, d, e])).symm
theorem below3 (w : World) (o1 o2 o3 : Obj) : Below w.heap.size w (((w.alloc o1).alloc o2).alloc o3) :=
  (((Below.refl _ _).alloc (Nat.le_refl _) _).alloc (sz0 _ _) _).alloc (Nat.le_trans (sz0 _ _) (sz0 _ _)) _
def logV (bk bu bh bm : Nat) : Value := .agg #[.func (.func 8) #[] #[.pointer (some ⟨bk, 0, none⟩), .pointer (some ⟨bu, 0, none⟩), .pointer (some ⟨bh, 0, none⟩), .pointer (some ⟨bm, 0, none⟩)], .func (.func 11) #[] #[.pointer (some ⟨bu, 0, none⟩), .pointer (some ⟨bh, 0, none⟩)], .func (.func 12) #[] #[.pointer (some ⟨bu, 0, none⟩), .pointer (some ⟨bm, 0, none⟩)], .func (.func 13) #[] #[.pointer (some ⟨bu, 0, none⟩), .pointer (some ⟨bm, 0, none⟩)], .int .i8 3, .map none]
set_option maxHeartbeats 2000000 in
set_option maxRecDepth 100000 in
theorem new_log (w : World) : Calls Tryf.prog 6 #[.int .u8 0, .map none] w fun e w' => ∃ bk bu bh bm, e = .returned (logV bk bu bh bm) ∧ LogAt w.heap.size bk bm bu bh false [] w' ∧ w.heap.size ≤ bm ∧ w.heap.size ≤ bu ∧ w.heap.size ≤ bh ∧ Below w.heap.size w w' := by
  have hmf : ∀ (fn : Fn) (first cap : Array Value) (w : World), (Instr.makeFunc fn first cap).run Tryf.prog w = .ok (.func fn first cap) w := fun _ _ _ _ => rfl
  go_enter Tryf.func6, Tryf.ntmps6
  go_wp2
  refine bodyPost_ret (v := logV w.heap.size (w.heap.size + 3) (w.heap.size + 4) (w.heap.size + 2)) (by simp [results, Tryf.results6, go_sem, logV]) rfl ?_
  refine ⟨w.heap.size, w.heap.size + 3, w.heap.size + 4, w.heap.size + 2, rfl, ⟨?_, ?_, ?_, .slice none 0 0, ?_, ?_⟩, by omega, by omega, by omega, ?_⟩
  · exact pk w.heap _ _ _ _ _ 0
  · exact pk w.heap _ _ _ _ _ 3
  · exact pk w.heap _ _ _ _ _ 4
  · exact pk w.heap _ _ _ _ _ 2
  · exact ⟨by simp, .inl ⟨rfl, rfl⟩⟩
  · exact ((below3 w _ _ _).alloc (Nat.le_trans (sz0 _ _) (Nat.le_trans (sz0 _ _) (sz0 _ _))) _).alloc (Nat.le_trans (sz0 _ _) (Nat.le_trans (sz0 _ _) (Nat.le_trans (sz0 _ _) (sz0 _ _)))) _

/-- The tracker of no source: ten cells. -/
def trackV : Value := .agg #[.string ⟨#[]⟩, .string ⟨#[]⟩, .string ⟨#[]⟩, .int .i32 0, .int .i32 0, .int .i32 0, .int .i32 0, .bool false, .bool false, .bool false]
theorem tracker_any (w : World) : Calls Tryf.prog 20 #[.pointer none] w fun e w' => e = .returned trackV ∧ Below w.heap.size w w' := by
  go_enter Tryf.func20, Tryf.ntmps20
  go_wp2
  refine bodyPost_ret (v := trackV) (by simp [results, Tryf.results20, go_sem, trackV]) rfl ⟨rfl, (Below.refl _ _).alloc (Nat.le_refl _) _⟩
theorem loc_none (t : Nat) (w : World) (h : w.cell? ⟨t, 9, none⟩ = some (.bool false)) : Calls Tryf.prog 22 #[.pointer (some ⟨t, 0, none⟩), .agg #[.int .i32 0, .int .i32 0]] w fun e w' => e = .returned (.pointer none) ∧ w' = w.alloc (.cells #[.int .i32 0, .int .i32 0] 62) := by
  have ht := World.block_lt_of_cell? w _ h
  go_enter Tryf.func22, Tryf.ntmps22
  go_wp2
  go_ret
  exact ⟨rfl, rfl⟩
theorem errNew_any (t : ByteArray) (w : World) : Calls Tryf.prog 15 #[.string t] w fun e w' => e = .returned (.iface 68 (.pointer (some ⟨w.heap.size, 0, none⟩))) ∧ w' = w.alloc (.cells #[.string t] 70) := by
  go_enter Tryf.func15, Tryf.ntmps15
  go_wp2
  go_ret
  exact ⟨rfl, rfl⟩
theorem errText_any (pb : Nat) (t : ByteArray) (w : World) (h : w.cell? ⟨pb, 0, none⟩ = some (.string t)) : Calls Tryf.prog 79 #[.pointer (some ⟨pb, 0, none⟩)] w fun e w' => e = .returned (.string t) ∧ w = w' := by
  go_enter Tryf.func79, Tryf.ntmps79
  go_wp2
  go_ret
  exact ⟨rfl, rfl⟩
theorem meth_err (pb : Nat) (w : World) : (method 286 68 (.pointer (some ⟨pb, 0, none⟩)) "Error").run Tryf.prog w = .ok (79, .pointer (some ⟨pb, 0, none⟩)) w := by kernel_rfl
end Go.Proofs.YtbbopdkgnolpoaaFmt
