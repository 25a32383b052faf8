/-
  The contract of broadcastBuildResult after a build with one error, and of ZZbroadcast; conditions: those that each names.
-/
import Derived.Test.YtglchiomdojjoaaGreatFmtBcr
namespace Go.Proofs.YtglchiomdojjoaaGreatFmt
open Go.RowKit Go.Conc Go.Conc.Locks Go.Maps Go.Lib Go.WideMaps Go.Extern.Stop Go.Stop Go.Extern Go.MuLone

def FailPost (n : Nat) (pub : ByteArray) (m1 : Nat) (w : World) (e : Ending) (w' : World) : Prop :=
  e = .returned (.tuple #[]) ∧ HA n pub m1 #[] w' ∧ Lk 0 n w' ∧ Bk n w w'
set_option maxHeartbeats 16000000 in
set_option maxRecDepth 100000 in
theorem fail_any (ae : Option Addr) (ce : Nat) (n m1 N1 m2 N2 : Nat) (pub : ByteArray) (ss hs ts gs : List ByteArray) (w : World) (h : Cast n pub m1 N1 ss hs m2 N2 ts gs w) :
    Calls Tryz.prog 19 #[.pointer (some ⟨n + 2, 0, none⟩), .agg #[.slice ae 1 ce, .slice none 0 0, .slice none 0 0, .string ⟨#[]⟩, .map none], .map (some m2)] w (FailPost n pub m1 w) := by
  have HC := Lib.hid h
  clear h
  refine calls_of_wpN Tryz.func19 rfl ?_
  simp only [Tryz.ntmps19, List.size_toArray, List.length_cons, List.length_nil, Nat.reduceAdd, Nat.reduceSub, Array.replicate_succ,
     Array.replicate_zero, List.push_toArray, List.append_toArray, List.nil_append, List.cons_append]
  refine WpN.seqK fun K Q' hK => ?_
  go_wp2_with fail
  obtain ⟨W, hW⟩ : ∃ W, (w.alloc (.cells #[.pointer (some ⟨n + 2, 0, none⟩)] 26)).alloc (.cells #[.slice ae 1 ce, .slice none 0 0, .slice none 0 0, .string ⟨#[]⟩, .map none] 35) = W := ⟨_, rfl⟩
  have hB : Below w.heap.size w W := by rw [← hW]; exact ((Below.refl _ _).alloc (Nat.le_refl _) _).alloc (by simp) _
  have hb3 : W.heap[w.heap.size]? = some (.cells #[.pointer (some ⟨n + 2, 0, none⟩)] 26 (0, 0)) := by
    rw [← hW, Below.heap_alloc _ _ _ (by simp)]
    exact heap_alloc_new w _
  have hb4 : W.heap[w.heap.size + 1]? = some (.cells #[.slice ae 1 ce, .slice none 0 0, .slice none 0 0, .string ⟨#[]⟩, .map none] 35 (0, 0)) := by
    rw [← hW]
    have := heap_alloc_new (w.alloc (.cells #[.pointer (some ⟨n + 2, 0, none⟩)] 26)) (.cells #[.slice ae 1 ce, .slice none 0 0, .slice none 0 0, .string ⟨#[]⟩, .map none] 35)
    simpa using this
  rw [hW]
  clear hW
  obtain ⟨bx, hbx⟩ : ∃ bx, w.heap.size = bx := ⟨_, rfl⟩
  rw [hbx] at hb3 hb4 ⊢
  have hH : Held n pub m1 m1 N1 ss hs m2 N2 ts gs bx w (W.setCell ⟨n + 2, 17, none⟩ (.int .i32 1)) := by
    have ha := HC.out.ha.up hB
    have hap1 := (HC.out.m1.up hB).apart ha
    have hap2 := (HC.out.m2.up hB).apart ha
    have hnl := HC.out.ha.lt
    exact ⟨ha.set17 1, (HC.out.lk.up hB).set 1, (HC.out.m1.up hB).bk (Bk.set n 17 W _) hap1.1 hap1.2.2, (HC.out.m2.up hB).bk (Bk.set n 17 W _) hap2.1 hap2.2.2, (Bk.of n hB).trans (Bk.set n 17 W _), by rw [setf (by omega)]; exact hb3⟩
  have hb5 : (W.setCell ⟨n + 2, 17, none⟩ (.int .i32 1)).heap[bx + 1]? = some (.cells #[.slice ae 1 ce, .slice none 0 0, .slice none 0 0, .string ⟨#[]⟩, .map none] 35 (0, 0)) := by
    have hnl := HC.out.ha.lt
    rw [setf (by omega)]
    exact hb4
  have HLk := Lib.hid (lock_free Tryz.muLib ⟨n + 2, 17, none⟩ W (HC.out.lk.up hB).cell.1 (HC.out.lk.up hB).cell.2)
  have c3 : W.cell? ⟨bx, 0, none⟩ = some (.pointer (some ⟨n + 2, 0, none⟩)) := Lib.cell_of_heap hb3 0
  have HH := Lib.hid (And.intro hH hb5)
  clear hB hb3 hb4 hH hb5
  refine WpN.seqK fun K Q' hK => ?_
  go_wp2_with fail
  refine HLk.out.mono ?_
  rintro e w' ⟨rfl, hw⟩
  have hw2 := hw.symm
  clear hw c3 HLk
  subst hw2
  obtain ⟨W1, hW1⟩ : ∃ W1, W.setCell ⟨n + 2, 17, none⟩ (.int .i32 1) = W1 := ⟨_, rfl⟩
  rw [hW1] at HH ⊢
  clear hW1
  go_wp2_with fail
  refine WpN.seqK fun K Q' hK => ?_
  go_wp2_with fail
  refine WpN.seqK fun K Q' hK => ?_
  go_wp2_with fail
  refine WpN.seqK fun K Q' hK => ?_
  go_wp2_with fail
  refine WpN.seqK fun K Q' hK => ?_
  go_wp2_with fail
  refine WpN.seqK fun K Q' hK => ?_
  have c3 := HH.out.1.cell.1
  have c4 : W1.cell? ⟨bx + 1, 0, none⟩ = some (.slice ae 1 ce) := Lib.cell_of_heap HH.out.2 0
  go_wp2_with fail
  refine WpN.seq (WpN.seqK fun K Q' hK => ?_)
  go_wp2_with fail
  refine WpN.cond (t := false) rfl ?_
  refine WpN.of ?_
  rw [if_neg (by decide)]
  go_wp2_with fail
  refine WpN.of ?_
  have HUL := Lib.hid (unlock_held Tryz.muLib ⟨n + 2, 17, none⟩ W1 HH.out.1.lk.cell.1 HH.out.1.lk.cell.2)
  go_wp2_with fail
  refine HUL.out.mono ?_
  rintro e w' ⟨rfl, rfl⟩
  go_wp2_with fail
  go_end0
  exact ⟨rfl, HH.out.1.ha.set17 0, HH.out.1.lk.set 0, HH.out.1.bk.trans (Bk.set n 17 W1 _)⟩
end Go.Proofs.YtglchiomdojjoaaGreatFmt
