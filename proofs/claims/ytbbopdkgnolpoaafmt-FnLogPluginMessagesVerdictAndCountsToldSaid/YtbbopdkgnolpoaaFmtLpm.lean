/-
  The contract of logPluginMessages without a source: what the log holds behind it; conditions: those that each lemma names.
-/
import Derived.Test.YtbbopdkgnolpoaaFmtDne
namespace Go.Proofs.YtbbopdkgnolpoaaFmt
open Go.RowKit

theorem LogAt.grown {B bk bm bu bh : Nat} {he : Bool} {ms : List Mg} {w w' : World} {row : Option Nat} (h : LogAt B bk bm bu bh he ms w) (k : w.grownBy w' row) (hr : ∀ j, row = some j → ∀ cs t fz, w.heap[j]? ≠ some (.cells cs t fz)) : LogAt B bk bm bu bh he ms w' := by
  obtain ⟨h1, h2, h3, v, h4, h5⟩ := h
  have up : ∀ {b : Nat} {cs : Array Value} {t : TypeId} {fz : Nat × Nat}, w.heap[b]? = some (.cells cs t fz) → w'.heap[b]? = some (.cells cs t fz) := fun hb => by
    rw [k.block _ (Array.getElem?_eq_some_iff.1 hb).1 (fun e => hr _ e.symm _ _ _ hb), hb]
  refine ⟨up h1, up h2, up h3, v, up h4, h5.kept (row := row) k ?_⟩
  rcases h5.2 with ⟨rfl, _⟩ | ⟨g, cap, cur, rfl, _, hg, _⟩
  · exact .inl rfl
  · exact .inr fun e => hr g e.symm _ _ _ hg
theorem LogAt.kept {B bk bm bu bh : Nat} {he : Bool} {ms : List Mg} {w w' : World} (h : LogAt B bk bm bu bh he ms w) (k : Below w.heap.size w w') : LogAt B bk bm bu bh he ms w' := h.grown (grown_of_below k) (by simp)
theorem LogAt.drewn {B bk bm bu bh : Nat} {he : Bool} {ms : List Mg} {w : World} (h : LogAt B bk bm bu bh he ms w) : LogAt B bk bm bu bh he ms w.drew := ⟨h.k, h.u, h.h, h.m⟩
theorem LK.drewn (B bm bu bh : Nat) (w : World) : LK B bm bu bh w w.drew := ⟨rfl, rfl, rfl, Nat.le_refl _, fun _ _ h _ _ _ _ => h⟩
theorem LogAt.not_type {B bk bm bu bh : Nat} {he : Bool} {ms : List Mg} {w : World} (h : LogAt B bk bm bu bh he ms w) {j : Nat} {cs : Array Value} {t : TypeId} {fz : Nat × Nat} (hj : w.heap[j]? = some (.cells cs t fz)) (h1 : t ≠ 45) (h2 : t ≠ 52) (h3 : t ≠ 4) : j ≠ bm ∧ j ≠ bu ∧ j ≠ bh := by
  obtain ⟨g1, g2, g3, v, g4, g5⟩ := h
  refine ⟨?_, ?_, ?_⟩ <;> (rintro rfl; simp_all)
theorem LK.cells {B bk bm bu bh : Nat} {he : Bool} {ms : List Mg} {a b : World} (hl : LogAt B bk bm bu bh he ms a) (h : LK B bm bu bh a b) {j : Nat} {cs : Array Value} {t : TypeId} {fz : Nat × Nat} (hj : a.heap[j]? = some (.cells cs t fz)) (h1 : t ≠ 45) (h2 : t ≠ 52) (h3 : t ≠ 4) (h4 : t ≠ 33) : b.heap[j]? = some (.cells cs t fz) := by
  obtain ⟨n1, n2, n3⟩ := hl.not_type hj h1 h2 h3
  exact h.block _ _ hj n1 n2 n3 (fun _ _ _ e => by cases e; exact h4 rfl)
theorem LK.belowB {B bm bu bh : Nat} {a b : World} (h : LK B bm bu bh a b) (hB : B ≤ a.heap.size) (h1 : B ≤ bm) (h2 : B ≤ bu) (h3 : B ≤ bh) : Below B a b :=
  ⟨h.os, h.tape, h.output, h.size, fun i hi => by
    have hb : a.heap[i]? = some a.heap[i] := Array.getElem?_eq_getElem (by omega)
    rw [h.block i _ hb (by omega) (by omega) (by omega) (fun hx => by omega), ← hb]⟩
abbrev BoxAt (bk bu bh bm x : Nat) (w : World) : Prop := w.heap[x]? = some (.cells #[.func (.func 8) #[] #[.pointer (some ⟨bk, 0, none⟩), .pointer (some ⟨bu, 0, none⟩), .pointer (some ⟨bh, 0, none⟩), .pointer (some ⟨bm, 0, none⟩)], .func (.func 11) #[] #[.pointer (some ⟨bu, 0, none⟩), .pointer (some ⟨bh, 0, none⟩)], .func (.func 12) #[] #[.pointer (some ⟨bu, 0, none⟩), .pointer (some ⟨bm, 0, none⟩)], .func (.func 13) #[] #[.pointer (some ⟨bu, 0, none⟩), .pointer (some ⟨bm, 0, none⟩)], .int .i8 3, .map none] 41 (0, 0))

def fixM (name : ByteArray) (m : Mg) : Mg := if m.nm.data.toList = [] then { m with nm := name } else m
def anyE (ms : List Mg) : Bool := ms.any fun m => m.kd == 0
/-- A warning or an error without a detail. -/
def Plain (m : Mg) : Prop := m.ud = none ∧ (m.kd = 0 ∨ m.kd = 1)
def thV : Option (Nat × ByteArray) → Value
  | none => .nilIface
  | some (b, _) => .iface 68 (.pointer (some ⟨b, 0, none⟩))
def thM (name : ByteArray) : Option (Nat × ByteArray) → List Mg
  | none => []
  | some (b, t) => [⟨name, some b, t, 0⟩]
def LpmPost (B bk bm bu bh : Nat) (name : ByteArray) (ms : List Mg) (th : Option (Nat × ByteArray)) (w : World) (e : Ending) (w' : World) : Prop :=
  ∃ he, e = .returned (.bool (anyE ms || th.isSome)) ∧ LogAt B bk bm bu bh he (ms.map (fixM name) ++ thM name th) w' ∧ LK B bm bu bh w w'

/-- The loop under way. -/
def LRel (B bk bm bu bh S T : Nat) (name : ByteArray) (ms : List Mg) (k : Nat) (w wr : World) : Prop :=
  ∃ he, LogAt B bk bm bu bh he ((ms.take k).map (fixM name)) wr ∧ LK B bm bu bh w wr ∧ BoxAt bk bu bh bm S wr ∧ wr.heap[S + 1]? = some (.cells #[.int .i32 0, .int .i32 0] 62 (0, 0)) ∧
    wr.heap[T]? = some (.cells #[.string ⟨#[]⟩, .string ⟨#[]⟩, .string ⟨#[]⟩, .int .i32 0, .int .i32 0, .int .i32 0, .int .i32 0, .bool false, .bool false, .bool false] 76 (0, 0))
theorem take_next {α : Type} {l : List α} {k : Nat} {x : α} (h : l[k]? = some x) : l.take (k + 1) = l.take k ++ [x] := by
  obtain ⟨hk, rfl⟩ := List.getElem?_eq_some_iff.1 h
  rw [List.take_succ_eq_append_getElem hk]
theorem anyE_next {ms : List Mg} {k : Nat} {m : Mg} (h : ms[k]? = some m) : anyE (ms.take (k + 1)) = (anyE (ms.take k) || (m.kd == 0)) := by
  rw [take_next h]
  unfold anyE
  simp
theorem LRel.next {B bk bm bu bh S T : Nat} {name : ByteArray} {ms : List Mg} {k : Nat} {w wr W w' : World} {he he' : Bool} {m m' : Mg} (hm : ms[k]? = some m) (hl : LogAt B bk bm bu bh he ((ms.take k).map (fixM name)) wr) (hk : LK B bm bu bh w wr) (hx : BoxAt bk bu bh bm S wr)
    (hr : wr.heap[S + 1]? = some (.cells #[.int .i32 0, .int .i32 0] 62 (0, 0))) (ht : wr.heap[T]? = some (.cells #[.string ⟨#[]⟩, .string ⟨#[]⟩, .string ⟨#[]⟩, .int .i32 0, .int .i32 0, .int .i32 0, .int .i32 0, .bool false, .bool false, .bool false] 76 (0, 0)))
    (hb : Below wr.heap.size wr W) (hl' : LogAt B bk bm bu bh he' ((ms.take k).map (fixM name) ++ [m']) w') (hk' : LK B bm bu bh W w') (hf : fixM name m = m') : LRel B bk bm bu bh S T name ms (k + 1) w w' := by
  have hlW := hl.kept hb
  have up : ∀ {b : Nat} {o : Obj}, wr.heap[b]? = some o → W.heap[b]? = some o := fun h => (hb.block _ (Array.getElem?_eq_some_iff.1 h).1).trans h
  refine ⟨he', ?_, (hk.trans (LK.below hb)).trans hk', hk'.cells hlW (up hx) (by decide) (by decide) (by decide) (by decide), hk'.cells hlW (up hr) (by decide) (by decide) (by decide) (by decide), hk'.cells hlW (up ht) (by decide) (by decide) (by decide) (by decide)⟩
  rw [take_next hm, List.map_append, List.map_cons, List.map_nil, hf]
  exact hl'

set_option maxHeartbeats 4000000 in
set_option maxRecDepth 100000 in
theorem lpm_any (B bk bm bu bh gm cap : Nat) (name : ByteArray) (ms : List Mg) (n : Nat) (th : Option (Nat × ByteArray)) (w : World) (hlog : LogAt B bk bm bu bh false [] w) (hB : B ≤ w.heap.size) (h1 : B ≤ bm) (h2 : B ≤ bu) (h3 : B ≤ bh)
    (hrow : MRow w gm ms) (hgm : gm < B) (hn : ms.length = n) (hn2 : n ≤ 4096) (hp : ∀ m ∈ ms, Plain m) (hth : ∀ b t, th = some (b, t) → w.heap[b]? = some (.cells #[.string t] 70 (0, 0))) :
    Calls Tryf.prog 16 #[.nilIface, logV bk bu bh bm, .string name, .slice (some ⟨gm, 0, none⟩) n cap, thV th, .pointer none, .agg #[.int .i32 0, .int .i32 0]] w (LpmPost B bk bm bu bh name ms th w) := by
  unfold logV
  have HA := Lib.hid (And.intro hlog (And.intro hB (And.intro h1 (And.intro h2 (And.intro h3 (And.intro hrow (And.intro hgm (And.intro hn (And.intro hp hth)))))))))
  clear hlog hB h1 h2 h3 hrow hgm hn hp hth
  obtain ⟨tv, htv⟩ : ∃ v, thV th = v := ⟨_, rfl⟩
  rw [htv]
  have HV := Lib.hid htv
  clear htv
  go_enter Tryf.func16, Tryf.ntmps16
  go_upto_region 2 with fail
  obtain ⟨wa, hwa⟩ : ∃ wa, wa = w.alloc (.cells #[.func (.func 8) #[] #[.pointer (some ⟨bk, 0, none⟩), .pointer (some ⟨bu, 0, none⟩), .pointer (some ⟨bh, 0, none⟩), .pointer (some ⟨bm, 0, none⟩)], .func (.func 11) #[] #[.pointer (some ⟨bu, 0, none⟩), .pointer (some ⟨bh, 0, none⟩)], .func (.func 12) #[] #[.pointer (some ⟨bu, 0, none⟩), .pointer (some ⟨bm, 0, none⟩)], .func (.func 13) #[] #[.pointer (some ⟨bu, 0, none⟩), .pointer (some ⟨bm, 0, none⟩)], .int .i8 3, .map none] 41) := ⟨_, rfl⟩
  have xa : BoxAt bk bu bh bm w.heap.size wa := by rw [hwa]; exact heap_alloc_new w _
  have ba : Below w.heap.size w wa := by rw [hwa]; exact (Below.refl _ _).alloc (Nat.le_refl _) _
  have sa : wa.heap.size = w.heap.size + 1 := by rw [hwa]; simp
  rw [← hwa]
  obtain ⟨wb, hwb⟩ : ∃ wb, wb = wa.alloc (.cells #[.int .i32 0, .int .i32 0] 62) := ⟨_, rfl⟩
  have xb : wb.heap[w.heap.size + 1]? = some (.cells #[.int .i32 0, .int .i32 0] 62 (0, 0)) := by rw [hwb, ← sa]; exact heap_alloc_new wa _
  have bb : Below wa.heap.size wa wb := by rw [hwb]; exact (Below.refl _ _).alloc (Nat.le_refl _) _
  have sb : wb.heap.size = w.heap.size + 2 := by rw [hwb]; simp [sa]
  rw [← hwb]
  have HB := Lib.hid (And.intro ((bb.block _ (by omega)).trans xa) (And.intro xb (ba.trans (bb.mono (by omega)))))
  clear hwa hwb xa xb ba bb sa
  go_upto_region 3 with (go_at_call 20; refine (tracker_any _).mono ?_; rintro e w1 ⟨rfl, hb1⟩; have hz1 := hb1.size; unfold trackV)
  obtain ⟨wt, hwt⟩ : ∃ wt, wt = w1.alloc (.cells #[.string ⟨#[]⟩, .string ⟨#[]⟩, .string ⟨#[]⟩, .int .i32 0, .int .i32 0, .int .i32 0, .int .i32 0, .bool false, .bool false, .bool false] 76) := ⟨_, rfl⟩
  have xt : wt.heap[w1.heap.size]? = some (.cells #[.string ⟨#[]⟩, .string ⟨#[]⟩, .string ⟨#[]⟩, .int .i32 0, .int .i32 0, .int .i32 0, .int .i32 0, .bool false, .bool false, .bool false] 76 (0, 0)) := by rw [hwt]; exact heap_alloc_new w1 _
  have bt : Below w1.heap.size w1 wt := by rw [hwt]; exact (Below.refl _ _).alloc (Nat.le_refl _) _
  rw [← hwt]
  have bbt := hb1.trans (bt.mono hz1)
  have bwt := HB.out.2.2.trans (bbt.mono (by omega))
  have hrel0 : LRel B bk bm bu bh w.heap.size w1.heap.size name ms 0 w wt :=
    ⟨false, HA.out.1.kept bwt, LK.below bwt, (bbt.block _ (by omega)).trans HB.out.1, (bbt.block _ (by omega)).trans HB.out.2.1, xt⟩
  have HR := Lib.hid hrel0
  clear hwt xt bt bbt bwt hrel0 hb1 sb
  go_wp2_with fail
  go_loopw [15, 26] (fun s15 s26 wr => ∃ k : Nat, k ≤ n ∧ s26 = .int .i64 k ∧ s15 = .bool (anyE (ms.take k)) ∧ LRel B bk bm bu bh w.heap.size w1.heap.size name ms k w wr) (fun _ s26 _ => n - (intOf s26).toNat)
  case atStart => exact ⟨0, Nat.zero_le _, rfl, rfl, HR.out⟩
  case round =>
    obtain ⟨k, hk, rfl, rfl, he, hl, hK, hx, hr, ht⟩ := hrel
    have hbB := hK.belowB HA.out.2.1 HA.out.2.2.1 HA.out.2.2.2.1 HA.out.2.2.2.2.1
    have hrow := HA.out.2.2.2.2.2.1.below hbB HA.out.2.2.2.2.2.2.1
    have H := Lib.hid (And.intro hl (And.intro hK (And.intro hx (And.intro hr (And.intro ht hrow)))))
    have lr := (Array.getElem?_eq_some_iff.1 hr).1
    have lt := (Array.getElem?_eq_some_iff.1 ht).1
    have lx := (Array.getElem?_eq_some_iff.1 hx).1
    have hB2 : B ≤ wr.heap.size := by have := HA.out.2.1; have := hK.size; omega
    have hgl : gm < wr.heap.size := by have := HA.out.2.2.2.2.2.2.1; omega
    clear hl hK hbB
    by_cases hlt : k < n
    · obtain ⟨m, hm⟩ : ∃ m, ms[k]? = some m := ⟨_, List.getElem?_eq_getElem (show k < ms.length by have := HA.out.2.2.2.2.2.2.2.1; omega)⟩
      obtain ⟨a0, a1, a2, a3, a4, a5, a6, a7⟩ := hrow.at hm
      have hpl := HA.out.2.2.2.2.2.2.2.2.1 m (List.mem_of_getElem? hm)
      obtain ⟨nm, ud, tx, kd⟩ := m
      obtain ⟨rfl, hkd⟩ := hpl
      simp only [udV] at a0 a1 a2 a3 a4 a5 a6 a7
      have e1 := anyE_next hm
      have HM := Lib.hid (And.intro hm e1)
      have b0 := Lib.cell_of_heap hx 0
      have r0 := Lib.cell_of_heap hr 0
      have r1 := Lib.cell_of_heap hr 1
      have t9 := Lib.cell_of_heap ht 9
      simp only [List.getElem?_toArray, List.getElem?_cons_zero, List.getElem?_cons_succ] at b0 r0 r1 t9
      clear hx hr ht hrow hm e1
      have hlen : ((ms.take k).map (fixM name)).length ≤ 65536 := by rw [List.length_map, List.length_take]; omega
      by_cases hnm : nm.data.toList = []
      · have q1 : nm.toList.isEmpty = true := by rw [Lib.toList_data, hnm]; rfl
        have HN := Lib.hid hnm
        clear hnm
        rcases hkd with rfl | rfl
        · go_wp2_with fail
          refine wp_loop_rounds 1 ?_
          rw [rounds_succ]
          go_upto_region 22 with (go_at_call 22; refine (loc_none w1.heap.size _ (Lib.cell_of_heap ((heap_alloc_old wr _ lt).trans H.out.2.2.2.2.1) 9)).mono ?_; rintro e wl ⟨rfl, rfl⟩)
          go_wp2_with (go_at_call 8; refine (add_err0 B bk bm bu bh he _ name tx _ (H.out.1.kept (((Below.refl _ _).alloc (Nat.le_refl _) _).alloc (sz0 _ _) _)) (by simp; omega) hlen).mono ?_; rintro e w3 ⟨rfl, hl3, hk3⟩)
          have hnext := LRel.next HM.out.1 H.out.1 H.out.2.1 H.out.2.2.1 H.out.2.2.2.1 H.out.2.2.2.2.1 (((Below.refl _ _).alloc (Nat.le_refl _) _).alloc (sz0 _ _) _) hl3 hk3 (by unfold fixM; rw [if_pos HN.out])
          have HX := Lib.hid hnext
          clear hl3 hk3 hnext
          go_roundw
          case rel => exact ⟨k + 1, by omega, by go_num, by rw [HM.out.2]; simp, HX.out⟩
          case measure => simp [intOf]; omega
        · go_wp2_with fail
          refine wp_loop_rounds 1 ?_
          rw [rounds_succ]
          go_upto_region 22 with (go_at_call 22; refine (loc_none w1.heap.size _ (Lib.cell_of_heap ((heap_alloc_old wr _ lt).trans H.out.2.2.2.2.1) 9)).mono ?_; rintro e wl ⟨rfl, rfl⟩)
          go_wp2_with (go_at_call 8; refine (add_warn0 B bk bm bu bh he _ name tx _ (H.out.1.kept (((Below.refl _ _).alloc (Nat.le_refl _) _).alloc (sz0 _ _) _)) (by simp; omega) hlen).mono ?_; rintro e w3 ⟨rfl, hl3, hk3⟩)
          have hnext := LRel.next HM.out.1 H.out.1 H.out.2.1 H.out.2.2.1 H.out.2.2.2.1 H.out.2.2.2.2.1 (((Below.refl _ _).alloc (Nat.le_refl _) _).alloc (sz0 _ _) _) hl3 hk3 (by unfold fixM; rw [if_pos HN.out])
          have HX := Lib.hid hnext
          clear hl3 hk3 hnext
          go_roundw
          case rel => exact ⟨k + 1, by omega, by go_num, by rw [HM.out.2]; simp, HX.out⟩
          case measure => simp [intOf]; omega
      · have q1 : nm.toList.isEmpty = false := by
          rw [Lib.toList_data]
          cases hcc : nm.data.toList with
          | nil => exact absurd hcc hnm
          | cons => rfl
        have HN := Lib.hid hnm
        clear hnm
        rcases hkd with rfl | rfl
        · go_wp2_with fail
          refine wp_loop_rounds 1 ?_
          rw [rounds_succ]
          go_upto_region 22 with (go_at_call 22; refine (loc_none w1.heap.size _ (Lib.cell_of_heap ((heap_alloc_old wr _ lt).trans H.out.2.2.2.2.1) 9)).mono ?_; rintro e wl ⟨rfl, rfl⟩)
          go_wp2_with (go_at_call 8; refine (add_err0 B bk bm bu bh he _ nm tx _ (H.out.1.kept (((Below.refl _ _).alloc (Nat.le_refl _) _).alloc (sz0 _ _) _)) (by simp; omega) hlen).mono ?_; rintro e w3 ⟨rfl, hl3, hk3⟩)
          have hnext := LRel.next HM.out.1 H.out.1 H.out.2.1 H.out.2.2.1 H.out.2.2.2.1 H.out.2.2.2.2.1 (((Below.refl _ _).alloc (Nat.le_refl _) _).alloc (sz0 _ _) _) hl3 hk3 (by unfold fixM; rw [if_neg HN.out])
          have HX := Lib.hid hnext
          clear hl3 hk3 hnext
          go_roundw
          case rel => exact ⟨k + 1, by omega, by go_num, by rw [HM.out.2]; simp, HX.out⟩
          case measure => simp [intOf]; omega
        · go_wp2_with fail
          refine wp_loop_rounds 1 ?_
          rw [rounds_succ]
          go_upto_region 22 with (go_at_call 22; refine (loc_none w1.heap.size _ (Lib.cell_of_heap ((heap_alloc_old wr _ lt).trans H.out.2.2.2.2.1) 9)).mono ?_; rintro e wl ⟨rfl, rfl⟩)
          go_wp2_with (go_at_call 8; refine (add_warn0 B bk bm bu bh he _ nm tx _ (H.out.1.kept (((Below.refl _ _).alloc (Nat.le_refl _) _).alloc (sz0 _ _) _)) (by simp; omega) hlen).mono ?_; rintro e w3 ⟨rfl, hl3, hk3⟩)
          have hnext := LRel.next HM.out.1 H.out.1 H.out.2.1 H.out.2.2.1 H.out.2.2.2.1 H.out.2.2.2.2.1 (((Below.refl _ _).alloc (Nat.le_refl _) _).alloc (sz0 _ _) _) hl3 hk3 (by unfold fixM; rw [if_neg HN.out])
          have HX := Lib.hid hnext
          clear hl3 hk3 hnext
          go_roundw
          case rel => exact ⟨k + 1, by omega, by go_num, by rw [HM.out.2]; simp, HX.out⟩
          case measure => simp [intOf]; omega
    · obtain rfl : k = n := by omega
      have hall : ms.take k = ms := List.take_of_length_le (by have := HA.out.2.2.2.2.2.2.2.1; omega)
      have hlen : (ms.map (fixM name)).length ≤ 65536 := by rw [List.length_map]; have := HA.out.2.2.2.2.2.2.2.1; omega
      have HALL := Lib.hid hall
      clear hall hrow hr ht
      have hV := HV.out
      cases th with
      | none =>
        obtain rfl : tv = .nilIface := hV.symm
        clear hV hx
        rw [HALL.out]
        go_wp2_with fail
        go_ret
        have hfin := H.out.1
        rw [HALL.out] at hfin
        exact ⟨he, by simp, by simpa [thM] using hfin, H.out.2.1⟩
      | some p =>
        obtain ⟨pb, t⟩ := p
        obtain rfl : tv = .iface 68 (.pointer (some ⟨pb, 0, none⟩)) := hV.symm
        clear hV
        have hpb := HA.out.2.2.2.2.2.2.2.2.2 pb t rfl
        have hpw := H.out.2.1.cells HA.out.1 hpb (by decide) (by decide) (by decide) (by decide)
        have cp : wr.cell? ⟨pb, 0, none⟩ = some (.string t) := Lib.cell_of_heap hpw 0
        have b0 := Lib.cell_of_heap hx 0
        have r0 := Lib.cell_of_heap H.out.2.2.2.1 0
        have r1 := Lib.cell_of_heap H.out.2.2.2.1 1
        simp only [List.getElem?_toArray, List.getElem?_cons_zero, List.getElem?_cons_succ] at b0 r0 r1
        have hme := meth_err pb
        clear hx hpb hpw
        have hl2 := H.out.1
        rw [HALL.out] at hl2 ⊢
        have HL2 := Lib.hid hl2
        clear hl2
        go_upto_region 27 with (go_at_call 79; refine (errText_any pb t _ cp).mono ?_; rintro e w2 ⟨rfl, rfl⟩)
        clear cp hme
        go_region_with (first | (go_at_call 22; refine (loc_none w1.heap.size _ (Lib.cell_of_heap (by first | exact H.out.2.2.2.2.1 | exact (show wr.drew.heap[w1.heap.size]? = _ from H.out.2.2.2.2.1)) 9)).mono ?_; rintro e wl ⟨rfl, rfl⟩) | (go_at_call 8; refine (add_err1 B bk bm bu bh he _ name t pb _ (by first | exact HL2.out.kept ((Below.refl _ _).alloc (Nat.le_refl _) _).drew | exact HL2.out.kept ((Below.refl _ _).alloc (Nat.le_refl _) _)) (by simp; omega) hlen).mono ?_; rintro e w3 ⟨rfl, hl3, hk3⟩))
        all_goals
          have hk4 : LK B bm bu bh w w3 := by first | exact (H.out.2.1.trans (LK.below ((Below.refl _ _).alloc (Nat.le_refl _) _).drew)).trans hk3 | exact (H.out.2.1.trans (LK.below ((Below.refl _ _).alloc (Nat.le_refl _) _))).trans hk3
          clear hk3 b0 r0 r1
          go_wp2_with fail
          go_ret
          exact ⟨true, by simp, hl3, hk4⟩
end Go.Proofs.YtbbopdkgnolpoaaFmt
