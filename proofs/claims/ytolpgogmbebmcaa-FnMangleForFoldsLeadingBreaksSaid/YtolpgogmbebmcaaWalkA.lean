/-
  The walk of FnDropFirstStatementCaseTable: it returns true for every input; conditions: those of the row.
-/
import Derived.Test.YtolpgogmbebmcaaDone
import Derived.Deep.DeepCutAuto
namespace Go.Proofs.Ytolpgogmbebmcaa
open Go.RowKit

/-- A block of two cells. -/
def Pair (w : World) (g : Nat) (t : TypeId) (a b : Value) : Prop := w.heap[g]? = some (.cells #[a, b] t (0, 0))
section
variable {w w' : World} {g : Nat} {t : TypeId} {a b : Value}
theorem Pair.lt (h : Pair w g t a b) : g < w.heap.size := (Array.getElem?_eq_some_iff.1 h).1
theorem Pair.c0 (h : Pair w g t a b) : w.cell? ⟨g, 0, none⟩ = some a := by rw [cell_of_row w g 0 _ t (0, 0) h]; rfl
theorem Pair.c1 (h : Pair w g t a b) : w.cell? ⟨g, 1, none⟩ = some b := by rw [cell_of_row w g 1 _ t (0, 0) h]; rfl
theorem Pair.frozen (h : Pair w g t a b) (i : Nat) : w.frozen? ⟨g, i, none⟩ = false := by unfold Pair at h; simp [World.frozen?, h]
theorem Pair.below {B : Nat} (h : Pair w g t a b) (hb : Below B w w') (hg : g < B) : Pair w' g t a b := (hb.block g hg).trans h
theorem Pair.alloc (h : Pair w g t a b) (o : Obj) : Pair (w.alloc o) g t a b := (Below.heap_alloc w o g h.lt).trans h
theorem Pair.new (w : World) (t : TypeId) (a b : Value) : Pair (w.alloc (.cells #[a, b] t)) w.heap.size t a b := heap_alloc_new w _
theorem Pair.set (h : Pair w g t a b) (x y : Value) : Pair ((w.setCell ⟨g, 0, none⟩ x).setCell ⟨g, 1, none⟩ y) g t x y := by
  unfold Pair at h ⊢
  simp [World.setCell, Array.getElem?_modify, h]
theorem Pair.store (h : Pair w g t a b) (v : Value) (hv : v.oneCell' = true) : (Go.store ⟨g, 0, none⟩ v).run Try.prog w = .ok () (w.setCell ⟨g, 0, none⟩ v) := by
  rw [run_store Try.prog w _ v _ hv]
  simp [h.c0, h.frozen]
end

set_option maxHeartbeats 400000 in
theorem build_nil (w : World) : Calls Try.prog 9 #[.slice none 0 0] w fun e w' => e = .returned (.slice none 0 0) ∧ w = w' := by
  have hnl := fun wx (a : Option Addr) (n c : Nat) => Lib.run_eql_slice_nil (P := Try.prog) wx 23 22 a n c 0 0 Try.underlying23
  go_enter Try.func9, Try.ntmps9
  go_wp2
  go_ret
  exact ⟨rfl, rfl⟩

def Built (n : Nat) (zs : List Int) (w : World) (e : Ending) (w' : World) : Prop :=
  ∃ A D, e = .returned (.slice A n n) ∧ ((A = none ∧ n = 0) ∨ (A = some ⟨w.heap.size, 0, none⟩ ∧ Row w' w.heap.size 32 (n * 2) (sc D (fun i => (i : Int) + 1)))) ∧ (∀ i, i < n → IsKind w' (w.heap.size + 1) (norm (zs.getD i 0)) (D i)) ∧ Below w.heap.size w w'
theorem build_any (A : Option Addr) (n cap : Nat) (zs : List Int) (w : World) (hn : n ≤ 65536) (hr : IsRow .i8 w A n cap zs) : Calls Try.prog 9 #[.slice A n cap] w (Built n zs w) := by
  rcases hr with ⟨rfl, rfl, rfl, rfl⟩ | ⟨x, rfl, h1, h2, h3, h4, h5⟩
  · refine (build_nil w).mono ?_
    rintro e w' ⟨rfl, rfl⟩
    exact ⟨none, fun _ => .nilIface, rfl, .inl ⟨rfl, rfl⟩, fun i hi => absurd hi (Nat.not_lt_zero _), Below.refl _ _⟩
  · refine (build_some x n cap zs w hn (by omega) h4 h5).mono ?_
    rintro e w' ⟨D, rfl, hR, hK, hb⟩
    exact ⟨_, D, rfl, .inr ⟨rfl, hR⟩, hK, hb⟩

theorem IsRow.below {k : IntKind} {w w' : World} {A : Option Addr} {n cap : Nat} {zs : List Int} (h : IsRow k w A n cap zs) (hb : Below w.heap.size w w') : IsRow k w' A n cap zs := by
  rcases h with h | ⟨x, h0, h1, h2, h3, h4, h5⟩
  · exact .inl h
  · refine .inr ⟨x, h0, h1, h2, h3, fun i hi => ?_, h5⟩
    have := h4 i hi
    rw [hb.cell (World.block_lt_of_cell? w _ this), this]

theorem kt26 : ∀ k, k < 25 → kt k = 26 → k = 0 := by decide
theorem kind_other {w : World} {B k : Nat} {v : Value} (h : IsKind w B k v) (hk : k ≠ 0) : v = .nilIface ∨ ∃ T q, v = .iface T (.pointer q) ∧ ¬ T = 26 := by
  rcases h with ⟨_, rfl⟩ | ⟨hl, b, rfl, _⟩
  · exact .inl rfl
  · exact .inr ⟨_, _, rfl, fun e => hk (kt26 k hl e)⟩

/-- The second's kind, if there is a second. -/
def second (n : Nat) (zs : List Int) : Nat := if 2 ≤ n then norm (zs.getD 1 0) else 0

/-- What the block's building leaves. -/
theorem body_of_built {w w2 : World} {n : Nat} {zs : List Int} {A : Option Addr} {D : Nat → Value} (hn : n ≤ 65536) (hA : (A = none ∧ n = 0) ∨ (A = some ⟨w.heap.size + 1, 0, none⟩ ∧ Row w2 (w.heap.size + 1) 32 (n * 2) (sc D (fun i => (i : Int) + 1))))
    (hK : ∀ i, i < n → IsKind w2 (w.heap.size + 1 + 1) (norm (zs.getD i 0)) (D i)) (hs : w.heap.size + 1 ≤ w2.heap.size) (x y : Value) :
    Body w.heap.size (w2.heap.size + 1) (((w2.alloc (.cells #[.slice A n n, .int .i32 0] 36)).setCell ⟨w.heap.size, 0, none⟩ x).setCell ⟨w.heap.size, 1, none⟩ y) n (second n zs) (.iface 26 (.pointer (some ⟨w2.heap.size, 0, none⟩))) (.pointer (some ⟨w2.heap.size, 0, none⟩)) := by
  have hB : Blk (((w2.alloc (.cells #[.slice A n n, .int .i32 0] 36)).setCell ⟨w.heap.size, 0, none⟩ x).setCell ⟨w.heap.size, 1, none⟩ y) w2.heap.size (.slice A n n) 0 :=
    Blk.far (Blk.far (heap_alloc_new w2 _) (by show w2.heap.size ≠ w.heap.size; omega) _) (by show w2.heap.size ≠ w.heap.size; omega) _
  by_cases h0 : n = 0
  · subst h0
    exact .inr (.inl ⟨_, A, 0, rfl, rfl, rfl, hB⟩)
  · rcases hA with ⟨_, h⟩ | ⟨rfl, hR⟩
    · exact absurd h h0
    · have hl := hR.lt
      refine .inl ⟨_, w.heap.size + 1, D, rfl, rfl, by omega, by omega, by omega, by omega, by omega, by omega, by omega, hB, ((hR.alloc _).far (by show w.heap.size + 1 ≠ w.heap.size; omega) _).far (by show w.heap.size + 1 ≠ w.heap.size; omega) _, fun h2 => ?_⟩
      unfold second
      rw [if_pos h2]
      exact ((((hK 1 (by omega)).below ((Below.refl _ _).alloc (Nat.le_refl _) _)).setCell (p := ⟨w.heap.size, 0, none⟩) (by show w.heap.size < _; omega) _).setCell (p := ⟨w.heap.size, 1, none⟩) (by show w.heap.size < _; omega) _).mono (Nat.zero_le _)

def CutBody (w : World) (n : Nat) (zs : List Int) (p : Value) (wx : World) : Prop :=
  ∃ bd, Pair wx w.heap.size 32 bd (.int .i32 16777216) ∧ Body w.heap.size wx.heap.size wx n (second n zs) bd p ∧ bd.oneCell' = true ∧ Below w.heap.size w wx
def CutRepl (w : World) (h : Bool) (wx : World) : Prop :=
  ∃ rd rl, Pair wx w.heap.size 32 rd (.int .i32 rl) ∧ Repl h rd rl ∧ rd.oneCell' = true ∧ Below w.heap.size w wx

set_option maxHeartbeats 4000000 in
set_option maxRecDepth 100000 in
theorem fnDropFirstStatementCaseTable_walk (a0 : Int) (a1 : Option Addr) (len1 cap1 : Nat) (z1 : List Int) (a2 : Bool) (a3 : Int) (w : World) (w0 : (Lit.int .i8 a0).wf = true) (w1 : IsRow .i8 w a1 len1 cap1 z1) (w3 : (Lit.int .i8 a3).wf = true) :
    Calls Try.prog 3 #[.int .i8 a0, .slice a1 len1 cap1, .bool a2, .int .i8 a3] w fun e w' => e = .returned (.bool true) ∧ Below w.heap.size w w' := by
  obtain ⟨l0, u0⟩ := bounds_i8 w0
  obtain ⟨l3, u3⟩ := bounds_i8 w3
  clear w0 w3
  have HR := Lib.hid w1
  clear w1
  by_cases hbig : 1048576 < len1
  · go_enter Try.func3, Try.ntmps3
    go_wp2_with (go_at_call 7; refine (zz7_large _ _ _ _ _ _ _ hbig).mono ?_; rintro e w' ⟨rfl, rfl⟩)
    go_ret
    exact ⟨rfl, Below.refl _ _⟩
  have hle : len1 ≤ 1048576 := by omega
  clear hbig
  by_cases hmid : 65536 < len1
  · go_enter Try.func3, Try.ntmps3
    go_wp2_with (go_at_call 7; refine (zz7_small _ _ _ _ _ _ _ hle).mono ?_; rintro e w' ⟨rfl, rfl⟩)
    go_ret
    exact ⟨rfl, Below.refl _ _⟩
  have hn : len1 ≤ 65536 := by omega
  clear hmid
  go_enter Try.func3, Try.ntmps3
  go_upto_if 28 with (first | (go_at_call 7; refine (zz7_small _ _ _ _ _ _ _ hle).mono ?_; rintro e w' ⟨rfl, rfl⟩) | (go_at_call 8; refine (norm_any a0 _ l0 u0).mono ?_; rintro e w' ⟨rfl, rfl⟩))
  go_cut [10] (fun s10 wx => CutBody w len1 z1 s10 wx)
  case first =>
    have hp := Pair.new w 32 .nilIface (.int .i32 0)
    by_cases h0 : norm a0 = 0
    · have hd : ((norm a0 : Int) == 0) = true := by rw [h0]; rfl
      clear h0
      go_wp2_with fail
      refine (build_any a1 len1 cap1 z1 _ hn (HR.out.below ((Below.refl _ _).alloc (Nat.le_refl _) _))).mono ?_
      rintro e w2 ⟨A, D, rfl, hA, hK, hb2⟩
      have hp2 := hp.below hb2 (by simp)
      have hs2 := hb2.size
      simp only [World.size_alloc] at hs2
      have q0 := (hp2.alloc (.cells #[.slice A len1 len1, .int .i32 0] 36)).c0
      have q1 := (hp2.alloc (.cells #[.slice A len1 len1, .int .i32 0] 36)).c1
      have f0 := (hp2.alloc (.cells #[.slice A len1 len1, .int .i32 0] 36)).frozen 0
      have f1 := (hp2.alloc (.cells #[.slice A len1 len1, .int .i32 0] 36)).frozen 1
      clear hd hp
      go_wp2_with fail
      go_meet
      refine ⟨_, (hp2.alloc _).set _ _, ?_, rfl, ?_⟩
      · simpa using body_of_built hn (by simpa using hA) (by simpa using hK) (by omega) _ _
      · exact (((((Below.refl _ _).alloc (Nat.le_refl _) _).trans (hb2.mono (by simp))).alloc (by omega) _).setCell (p := ⟨w.heap.size, 0, none⟩) (Nat.le_refl _) _).setCell (p := ⟨w.heap.size, 1, none⟩) (Nat.le_refl _) _
    · have hd : ((norm a0 : Int) == 0) = false := by simp; omega
      have H0 := Lib.hid h0
      clear h0
      go_wp2_with fail
      refine (make_any (norm a0) (norm_le a0) _ _).mono ?_
      rintro e w2 ⟨v, rfl, hv, hb2⟩
      have hp2 := hp.below hb2 (by simp)
      have q1 := hp2.c1
      have f1 := hp2.frozen 1
      have hst := hp2.store v hv.one
      clear hd hp
      go_wp2_with fail
      go_meet
      refine ⟨v, hp2.set _ _, .inr (.inr ⟨rfl, kind_other hv H0.out⟩), hv.one, ?_⟩
      exact ((((Below.refl _ _).alloc (Nat.le_refl _) _).trans (hb2.mono (by simp))).setCell (p := ⟨w.heap.size, 0, none⟩) (Nat.le_refl _) _).setCell (p := ⟨w.heap.size, 1, none⟩) (Nat.le_refl _) _
  case rest =>
    obtain ⟨wb, rfl⟩ : ∃ wb : World, wb = wc := ⟨_, rfl⟩
    obtain ⟨bd, hpb, hbody, hone, hbw⟩ := hcut
    have HP := Lib.hid hpb
    have HB := Lib.hid hbody
    have HW := Lib.hid hbw
    clear hpb hbody hbw
    go_upto_if 40 with fail
    go_cut [] (fun wx => CutRepl wb a2 wx)
    case first =>
      have hp := Pair.new wb 32 .nilIface (.int .i32 0)
      cases a2
      · go_wp2_with fail
        go_meet
        exact ⟨_, _, hp, .inl ⟨rfl, rfl⟩, rfl, (Below.refl _ _).alloc (Nat.le_refl _) _⟩
      · go_wp2_with fail
        refine (norm_any a3 _ l3 u3).mono ?_
        rintro e w' ⟨rfl, rfl⟩
        obtain ⟨k, hk, hk2, hkl⟩ : ∃ k : Nat, (norm a3 : Int) % 25 = (k : Int) ∧ (norm a3 : Int).tmod 25 = (k : Int) ∧ k ≤ 24 := ⟨norm a3 % 25, by omega, by rw [Int.tmod_eq_emod_of_nonneg (by omega)]; omega, by omega⟩
        go_wp2_with fail
        refine (make_any k (by omega) _ _).mono ?_
        rintro e w2 ⟨v, rfl, hv, hb2⟩
        have hp2 := hp.below hb2 (by simp)
        have q1 := hp2.c1
        have f1 := hp2.frozen 1
        have hst := hp2.store v hv.one
        clear hp hk hk2
        go_wp2_with fail
        go_meet
        refine ⟨v, 16777217, hp2.set _ _, .inr ⟨rfl, rfl, ?_⟩, hv.one, ?_⟩
        · rcases hv with ⟨h, _⟩ | ⟨_, b, rfl, _⟩
          · omega
          · exact ⟨_, _, rfl⟩
        · exact ((((Below.refl _ _).alloc (Nat.le_refl _) _).trans (hb2.mono (by simp))).setCell (p := ⟨wb.heap.size, 0, none⟩) (Nat.le_refl _) _).setCell (p := ⟨wb.heap.size, 1, none⟩) (Nat.le_refl _) _
    case rest =>
      obtain ⟨wd, rfl⟩ : ∃ wd : World, wd = wc := ⟨_, rfl⟩
      obtain ⟨rd, rl, hpr, hrepl, hone2, hbw2⟩ := hcut
      have HP2 := Lib.hid hpr
      have HW2 := Lib.hid hbw2
      clear hpr hbw2
      have hb0 : Below w.heap.size w wd := HW.out.trans (HW2.out.mono HW.out.size)
      have HRd := Lib.hid (HR.out.below hb0)
      have HW3 := Lib.hid hb0
      clear hb0
      go_upto_if 48 with fail
      go_cut [14] (fun s14 wx => wx = wd ∧ s14 = .bool (decide (20 ≤ second len1 z1)))
      case first =>
        by_cases h2 : 2 ≤ len1
        · obtain ⟨x, c, hx, hc, hb⟩ : ∃ x c, a1 = some x ∧ wd.cell? (x.add 1) = some (.int .i8 c) ∧ c = z1.getD 1 0 ∧ -128 ≤ c ∧ c ≤ 127 := by
            rcases HRd.out with ⟨_, h, _⟩ | ⟨x, h0, h1, _, h3, h4, h5⟩
            · omega
            · exact ⟨x, _, h0, h4 1 (by omega), rfl, bounds_i8 (h5 _ (by rw [List.getD_eq_getElem?_getD, List.getElem?_eq_getElem (by omega)]; exact List.getElem_mem _))⟩
          subst hx
          obtain ⟨hcz, cl, ch⟩ := hb
          have HC := Lib.hid hcz
          clear hcz
          have hc2 : wd.cell? { block := x.block, off := x.off + 1 } = some (.int .i8 c) := by simpa [Addr.add] using hc
          clear hc
          go_wp2_with fail
          refine (norm_any c _ cl ch).mono ?_
          rintro e w' ⟨rfl, rfl⟩
          go_wp2_with fail
          refine (model_any (norm c) _).mono ?_
          rintro e w' ⟨rfl, rfl⟩
          go_wp2_with fail
          go_meet
          refine ⟨rfl, ?_⟩
          unfold second
          rw [if_pos h2, HC.out]
        · have h2' : decide ((2 : Int) ≤ (len1 : Int)) = false := by simp; omega
          go_wp2_with fail
          go_meet
          refine ⟨rfl, ?_⟩
          unfold second
          rw [if_neg h2]
          rfl
      case rest =>
        obtain ⟨hwe, rfl⟩ := hcut
        obtain rfl : wd = wc := hwe.symm
        have hpb : Pair wd w.heap.size 32 bd (.int .i32 16777216) := HP.out.below HW2.out HP.out.lt
        have q0 := hpb.c0
        have q1 := hpb.c1
        have r0 := HP2.out.c0
        have r1 := HP2.out.c1
        clear hpb
        go_wp2_with fail
        refine (drop12_any w.heap.size wb.heap.size len1 (second len1 z1) a2 bd u10 rd rl _ (HB.out.same HW2.out) hrepl HW2.out.size HW3.out.size).mono ?_
        rintro e w5 ⟨v, l, rfl, hv, hd, hb5⟩
        have hp5 := Pair.new w5 32 .nilIface (.int .i32 0)
        have s1 := hp5.c1
        have s2 := hp5.frozen 1
        have hst := hp5.store v hv
        have u1 : ((w5.alloc (.cells #[.nilIface, .int .i32 0] 32)).setCell ⟨w5.heap.size, 0, none⟩ v).cell? ⟨w5.heap.size, 0, none⟩ = some v := World.cell?_setCell_same _ _ _ hp5.c0
        have HD := Lib.hid hd
        have H5 := Lib.hid hb5
        clear hd hb5 hp5 q0 q1 r0 r1
        go_wp2_with fail
        have hsz := HW2.out.size
        have hsz5 := H5.out.size
        have hszd := HW3.out.size
        refine (check13_any wb.heap.size len1 _ a2 v l u10 _ (by omega) (HD.out.same fun i hi => ?_)).mono ?_
        · have hl5 : wb.heap.size ≤ w5.heap.size := by omega
          rw [Below.heap_alloc _ _ i (by omega)]
        · rintro e w6 ⟨rfl, hb6⟩
          go_wp2_with fail
          go_ret
          refine ⟨rfl, HW3.out.trans (H5.out.trans (Below.trans ?_ (hb6.mono ?_)))⟩
          · exact (Below.refl _ _).alloc (by omega) _
          · simp; omega

end Go.Proofs.Ytolpgogmbebmcaa
