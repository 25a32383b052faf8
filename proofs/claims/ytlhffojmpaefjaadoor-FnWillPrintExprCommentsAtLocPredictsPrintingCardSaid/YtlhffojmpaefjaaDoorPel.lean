/-
  The contract of printing the comments at a place; conditions: those that each names.
-/
import Derived.Test.YtlhffojmpaefjaaDoorPec
namespace Go.Proofs.YtlhffojmpaefjaaDoor
open Go.RowKit

/-- What printing leaves. -/
def PelPost (B g m1 m2 : Nat) (mw : Bool) (l : List UInt8) (C P : DataW Unit) (nc np : Nat) (x : Int) (w' : World) : Prop :=
  match wl mw C P x with
  | true => ST B g m1 m2 mw (l ++ noteL) C (P.put (kx x) (.lit (.bool true))) nc (np + 1) w'
  | false => ST B g m1 m2 mw l C P nc np w'

def PelRel (B g m1 m2 : Nat) (l : List UInt8) (C P : DataW Unit) (nc np : Nat) (x : Int) (w : World) (s74 : Value) (wr : World) : Prop :=
  ∃ k : Nat, s74 = .int .i64 k ∧ Below B w wr ∧ wr.heap[w.heap.size]? = some (.cells #[.int .i32 x] 69 (0, 0)) ∧ B ≤ wr.heap.size ∧ ((k = 0 ∧ ST B g m1 m2 false l C P nc np wr) ∨ (k = 1 ∧ ST B g m1 m2 false (l ++ noteL) C P nc np wr))

set_option maxHeartbeats 4000000 in
set_option maxRecDepth 100000 in
theorem pel_any (B g m1 m2 : Nat) (mw : Bool) (l : List UInt8) (C P : DataW Unit) (nc np : Nat) (x : Int) (w : World) (hx : (Lit.int .i32 x).wf = true) (h : ST B g m1 m2 mw l C P nc np w) (hlen : l.length ≤ 4096) (hBw : B ≤ w.heap.size) (hn : np < 1048577) :
    Calls Tryd.prog 13 #[.pointer (some ⟨g, 0, none⟩), .agg #[.int .i32 x]] w fun e w' => e = .returned (.tuple #[]) ∧ PelPost B g m1 m2 mw l C P nc np x w' ∧ Below B w w' := by
  have hb : ∀ n, Below w.heap.size w ((w.alloc (.cells #[.int .i32 x] 69)).drewN n) := fun n => ((Below.refl _ _).alloc (Nat.le_refl _) _).trans ⟨rfl, rfl, rfl, Nat.le_refl _, fun _ _ => rfl⟩
  have h1 := fun n => ((h.up (hb n)).mc.run hx).1
  have h2 := fun n => (h.up (hb n)).mp.run hx
  have h3 := (h.mc.run hx).2
  unfold loc at h1 h2
  obtain ⟨cs, v, hB, hg, ho, h9, hown⟩ := h.ps
  have hgl := hlt hg
  have c28 : w.cell? ⟨g, 28, none⟩ = some (.bool mw) := (Lib.cell_of_heap hg 28).trans ho.c28
  have c5 : w.cell? ⟨g, 5, none⟩ = some (.map (some m1)) := (Lib.cell_of_heap hg 5).trans ho.c5
  have c6 : w.cell? ⟨g, 6, none⟩ = some (.map (some m2)) := (Lib.cell_of_heap hg 6).trans ho.c6
  have HB := Lib.hid (hb)
  have HB2 := Lib.hid (fun a b => show Below w.heap.size w (((w.alloc (.cells #[.int .i32 x] 69)).drewN a).drewN b) by rw [World.drewN_drewN]; exact hb (a + b))
  have HH := Lib.hid h
  clear hb ho h9 hown hg h
  unfold PelPost wl
  have q := run_neq_slice_nil (P := Tryd.prog)
  cases mw
  · rcases h3 with h3 | ⟨b, h3⟩
    · rw [h3] at h1 ⊢
      simp only [vC, isN] at h1 ⊢
      clear h2 h3
      go_enter Tryd.func13, Tryd.ntmps13
      go_wp2_with fail
      go_quiet (fail)
      go_wp2_with fail
      go_quiet (fail)
      go_wp2_with fail
      go_end0
      exact ⟨rfl, HH.out.up (HB2.out _ _), (HB2.out _ _).mono hBw⟩
    · rw [h3] at h1 ⊢
      simp only [vC, isN] at h1 ⊢
      obtain ⟨y, hy⟩ : ∃ y, bP P x = y := ⟨_, rfl⟩
      rw [hy] at h2 ⊢
      cases y
      · have hnt := HH.out.nt (kx x) b h3
        have HN := Lib.hid (And.intro hnt h3)
        clear h3 hy hnt
        go_enter Tryd.func13, Tryd.ntmps13
        go_wp2_with fail
        go_quiet (fail)
        revert nq
        intro n1
        go_wp2_with fail
        go_quiet (fail)
        go_wp2_with fail
        obtain ⟨wz, hz⟩ : ∃ wz, (w.alloc (Obj.cells #[Value.int IntKind.i32 x] 69)).drewN (n1 + nq) = wz := ⟨_, rfl⟩
        have hbz : Below w.heap.size w wz := by rw [← hz]; exact HB.out _
        have hbox : wz.heap[w.heap.size]? = some (.cells #[.int .i32 x] 69 (0, 0)) := by rw [← hz]; exact heap_alloc_new w _
        rw [hz]
        have HZ := Lib.hid (And.intro (HH.out.up hbz) (And.intro hbz (And.intro hbox (show B ≤ wz.heap.size from Nat.le_trans hBw hbz.size))))
        clear hz hbz hbox h1 h2 c28 c5 c6
        refine (save_any B g m1 m2 false l C P nc np wz HZ.out.1).mono ?_
        rintro e w' ⟨rfl, rfl⟩
        obtain ⟨cs2, v2, hB2, hg2, ho2, h92, hown2⟩ := HZ.out.1.ps
        obtain ⟨a2, c2, rfl⟩ : ∃ a c, v2 = .slice a l.length c := by
          rcases hown2.2 with ⟨e, e2⟩ | ⟨g, cap, cur, e, _⟩
          · have : l.length = 0 := by
              rw [Lib.byteCells_length] at e2
              exact e2
            exact ⟨none, 0, by rw [this]; exact e⟩
          · rw [Lib.byteCells_length] at e
            exact ⟨_, _, e⟩
        have c9 : wz.cell? ⟨g, 9, none⟩ = some (.slice a2 l.length c2) := (Lib.cell_of_heap hg2 9).trans h92
        have c68 : wz.cell? ⟨g, 68, none⟩ = some (.int .i64 (-1)) := (Lib.cell_of_heap hg2 68).trans ho2.c68
        have hm : ((-1 : Int) == (l.length : Int)) = false := by
          rw [beq_eq_false_iff_ne]
          omega
        clear hg2 ho2 h92 hown2
        go_wp2_with fail
        go_quiet (fail)
        go_wp2_with fail
        clear c9 c68 hm
        go_loopw [9, 74] (fun s9 s74 wr => PelRel B g m1 m2 l C P nc np x w s74 wr) (fun s9 s74 _ => 1 - (intOf s74).toNat)
        case atStart =>
          have hd : Below wz.heap.size wz (wz.drewN nq) := ⟨rfl, rfl, rfl, Nat.le_refl _, fun _ _ => rfl⟩
          exact ⟨0, rfl, ((HZ.out.2.1.mono hBw).trans (hd.mono HZ.out.2.2.2)), HZ.out.2.2.1, HZ.out.2.2.2, .inl ⟨rfl, HZ.out.1.up hd⟩⟩
        case round =>
          obtain ⟨k, rfl, hbr, hbox, hBr, ⟨rfl, hst⟩ | ⟨rfl, hst⟩⟩ := hrel
          · have hnr := (hst.nt (kx x) b HN.out.2).2
            have cb : wr.cell? ⟨b, 0, none⟩ = some (.string noteS) := (Lib.cell_of_heap hnr 0).trans rfl
            have HR := Lib.hid (And.intro hbr (And.intro hbox (And.intro hBr hst)))
            clear hbr hbox hBr hst hnr
            go_wp2_with fail
            refine (com_any B g m1 m2 l C P nc np wr HR.out.2.2.2 hlen HR.out.2.2.1).mono ?_
            rintro e w3 ⟨rfl, hst3, hb3, hk3⟩
            have HR3 := Lib.hid (And.intro (HR.out.1.trans hb3) (And.intro (hk3 _ _ _ HR.out.2.1) (And.intro (Nat.le_trans HR.out.2.2.1 hb3.size) hst3)))
            clear hst3 hb3 hk3
            go_wp2_with fail
            refine (indent_any B g m1 m2 _ C P nc np w3 HR3.out.2.2.2).mono ?_
            rintro e w4 ⟨rfl, rfl⟩
            go_wp2_with fail
            go_roundw
            case rel => exact ⟨1, by go_num, HR3.out.1, HR3.out.2.1, HR3.out.2.2.1, .inr ⟨rfl, HR3.out.2.2.2⟩⟩
            case measure => simp [intOf]
          · have c6 : wr.cell? ⟨g, 6, none⟩ = some (.map (some m2)) := by
              obtain ⟨cs, v, hB, hg, ho, h9, hown⟩ := hst.ps
              exact (Lib.cell_of_heap hg 6).trans ho.c6
            have cbx : wr.cell? ⟨w.heap.size, 0, none⟩ = some (.int .i32 x) := (Lib.cell_of_heap hbox 0).trans rfl
            have HR := Lib.hid (And.intro hbr (And.intro hst (And.intro hBr hx)))
            clear hbr hbox hBr hst hx
            obtain ⟨w5, hrun5, hown5, hgrow5⟩ := World.ownsMap.update (H := Unit) (show wr.drew.ownsMap Tryd.prog 69 (plainElem Tryd.prog 4) m2 np P from HR.out.2.1.mp) locK Tryd.underlying49 (by unfold maxLen; omega) (key_kx HR.out.2.2.2) (plainElem_bool Tryd.underlying4 true)
            have hd : Below wr.heap.size wr wr.drew := (Below.refl _ _).drew
            have hf : ST B g m1 m2 false (l ++ noteL) C (P.put (kx x) (.lit (.bool true))) nc (np + 1) w5 := ST.addP (HR.out.2.1.up hd) hown5 hgrow5
            have hf2 : Below B w w5 := (HR.out.1.trans (hd.mono HR.out.2.2.1)).grown hgrow5 (Nat.le_trans hBw HR.out.1.size) (fun k hk => by cases hk; exact HR.out.2.1.b2)
            have HF := Lib.hid (And.intro hf hf2)
            unfold loc at hrun5
            clear hd hf hf2 hown5 hgrow5
            go_wp2_with fail
            go_region
            all_goals (
              go_wp2_with fail
              refine (restore_any g w5).mono ?_
              rintro e w6 ⟨rfl, rfl⟩
              go_wp2_with fail
              go_end0
              exact ⟨rfl, HF.out.1, HF.out.2⟩)
      · clear h3 hy
        go_enter Tryd.func13, Tryd.ntmps13
        go_wp2_with fail
        go_quiet (fail)
        go_wp2_with fail
        go_quiet (fail)
        go_wp2_with fail
        go_end0
        exact ⟨rfl, HH.out.up (HB2.out _ _), (HB2.out _ _).mono hBw⟩
  · clear h1 h2 h3
    go_enter Tryd.func13, Tryd.ntmps13
    go_wp2_with fail
    refine bodyPost_ret (results_none rfl _ _ _) rfl ?_
    exact ⟨rfl, HH.out.up (HB.out 0), (HB.out 0).mono hBw⟩
end Go.Proofs.YtlhffojmpaefjaaDoor
