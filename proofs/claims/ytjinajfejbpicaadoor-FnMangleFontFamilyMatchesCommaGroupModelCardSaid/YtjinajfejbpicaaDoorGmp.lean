/-
  The contracts of making the map of generic names and of asking whether a name is generic; conditions: none.
-/
import Derived.Test.YtjinajfejbpicaaDoorBtk
import Derived.Maps.Own
namespace Go.Proofs.YtjinajfejbpicaaDoor
open Go.RowKit Go.Maps

def GmEnd (w : World) (e : Ending) (w' : World) : Prop := ∃ b, e = .returned (.map (some b)) ∧ MapB genD b w' ∧ Below w.heap.size w w'
noncomputable def Rb (v : Value) : Option (DataW Unit × List MemPlace) := plainElem Tryd.prog 4 v
theorem Rb_true : Rb (.bool true) = some (.lit (.bool true), []) := plainElem_bool Tryd.underlying4 true
theorem upd_next {w0 w : World} {b n : Nat} {D : DataW Unit} (h : w.ownsMap Tryd.prog 9 Rb b n D) (hb : Below w0.heap.size w0 w) (hbb : w0.heap.size ≤ b) (hn : n < 100) (s : ByteArray) (hs : s.size < 100) :
    ∃ w', (Instr.mapUpdate 34 (.map (some b)) (.string s) (.bool true)).run Tryd.prog w = .ok () w' ∧ w'.ownsMap Tryd.prog 9 Rb b (n + 1) (D.put (.string s.data.toList) (.lit (.bool true))) ∧ Below w0.heap.size w0 w' := by
  obtain ⟨w', h1, h2, h3⟩ := h.update (string_keyed Tryd.underlying9) Tryd.underlying34 (by unfold maxLen; omega) (WideMaps.keyOf_string_mk (s := s) Tryd.underlying9 (by unfold maxLen; omega)) Rb_true
  exact ⟨w', h1, h2, hb.grown h3 hb.size (fun k hk => by cases hk; exact hbb)⟩

set_option maxHeartbeats 4000000 in
set_option maxRecDepth 100000 in
theorem gm_any (w : World) : Calls Tryd.prog 15 #[] w (GmEnd w) := by
  have hmm := @run_makeMap Tryd.prog
  have o0 := World.ownsMap_made w Tryd.prog 9 Rb
  have b0 : Below w.heap.size w (w.alloc (.map #[] 0)) := (Below.refl _ _).alloc (Nat.le_refl _) _
  obtain ⟨w1, r1, o1, b1⟩ := upd_next o0 b0 (Nat.le_refl _) (by decide) ⟨#[115, 101, 114, 105, 102]⟩ (by decide)
  obtain ⟨w2, r2, o2, b2⟩ := upd_next o1 b1 (Nat.le_refl _) (by decide) ⟨#[115, 97, 110, 115, 45, 115, 101, 114, 105, 102]⟩ (by decide)
  obtain ⟨w3, r3, o3, b3⟩ := upd_next o2 b2 (Nat.le_refl _) (by decide) ⟨#[99, 117, 114, 115, 105, 118, 101]⟩ (by decide)
  obtain ⟨w4, r4, o4, b4⟩ := upd_next o3 b3 (Nat.le_refl _) (by decide) ⟨#[102, 97, 110, 116, 97, 115, 121]⟩ (by decide)
  obtain ⟨w5, r5, o5, b5⟩ := upd_next o4 b4 (Nat.le_refl _) (by decide) ⟨#[109, 111, 110, 111, 115, 112, 97, 99, 101]⟩ (by decide)
  obtain ⟨w6, r6, o6, b6⟩ := upd_next o5 b5 (Nat.le_refl _) (by decide) ⟨#[115, 121, 115, 116, 101, 109, 45, 117, 105]⟩ (by decide)
  obtain ⟨w7, r7, o7, b7⟩ := upd_next o6 b6 (Nat.le_refl _) (by decide) ⟨#[101, 109, 111, 106, 105]⟩ (by decide)
  obtain ⟨w8, r8, o8, b8⟩ := upd_next o7 b7 (Nat.le_refl _) (by decide) ⟨#[109, 97, 116, 104]⟩ (by decide)
  obtain ⟨w9, r9, o9, b9⟩ := upd_next o8 b8 (Nat.le_refl _) (by decide) ⟨#[102, 97, 110, 103, 115, 111, 110, 103]⟩ (by decide)
  obtain ⟨w10, r10, o10, b10⟩ := upd_next o9 b9 (Nat.le_refl _) (by decide) ⟨#[117, 105, 45, 115, 101, 114, 105, 102]⟩ (by decide)
  obtain ⟨w11, r11, o11, b11⟩ := upd_next o10 b10 (Nat.le_refl _) (by decide) ⟨#[117, 105, 45, 115, 97, 110, 115, 45, 115, 101, 114, 105, 102]⟩ (by decide)
  obtain ⟨w12, r12, o12, b12⟩ := upd_next o11 b11 (Nat.le_refl _) (by decide) ⟨#[117, 105, 45, 109, 111, 110, 111, 115, 112, 97, 99, 101]⟩ (by decide)
  obtain ⟨w13, r13, o13, b13⟩ := upd_next o12 b12 (Nat.le_refl _) (by decide) ⟨#[117, 105, 45, 114, 111, 117, 110, 100, 101, 100]⟩ (by decide)
  have HZ := Lib.hid (And.intro o13 b13)
  clear o0 b0 o1 b1 o2 b2 o3 b3 o4 b4 o5 b5 o6 b6 o7 b7 o8 b8 o9 b9 o10 b10 o11 b11 o12 b12 o13 b13
  go_enter Tryd.func15, Tryd.ntmps15
  go_wp2_with fail
  go_ret
  refine ⟨_, rfl, ⟨Rb, 13, ?_, ?_, plainElem_bool Tryd.underlying4 false⟩, HZ.out.2⟩
  · have h := HZ.out.1
    have e : genD = ((((((((((((((.map [] : DataW Unit).put (.string [115, 101, 114, 105, 102]) (.lit (.bool true))).put (.string [115, 97, 110, 115, 45, 115, 101, 114, 105, 102]) (.lit (.bool true))).put (.string [99, 117, 114, 115, 105, 118, 101]) (.lit (.bool true))).put (.string [102, 97, 110, 116, 97, 115, 121]) (.lit (.bool true))).put (.string [109, 111, 110, 111, 115, 112, 97, 99, 101]) (.lit (.bool true))).put (.string [115, 121, 115, 116, 101, 109, 45, 117, 105]) (.lit (.bool true))).put (.string [101, 109, 111, 106, 105]) (.lit (.bool true))).put (.string [109, 97, 116, 104]) (.lit (.bool true))).put (.string [102, 97, 110, 103, 115, 111, 110, 103]) (.lit (.bool true))).put (.string [117, 105, 45, 115, 101, 114, 105, 102]) (.lit (.bool true))).put (.string [117, 105, 45, 115, 97, 110, 115, 45, 115, 101, 114, 105, 102]) (.lit (.bool true))).put (.string [117, 105, 45, 109, 111, 110, 111, 115, 112, 97, 99, 101]) (.lit (.bool true))).put (.string [117, 105, 45, 114, 111, 117, 110, 100, 101, 100]) (.lit (.bool true))) := by kernel_rfl
    rw [e]
    exact h
  · intro v z hz
    unfold Rb plainElem at hz
    rw [Tryd.underlying4] at hz
    cases v <;> simp at hz
    exact ⟨_, rfl, hz.symm⟩

def genKeys : List (List UInt8) := [[115, 101, 114, 105, 102], [115, 97, 110, 115, 45, 115, 101, 114, 105, 102], [99, 117, 114, 115, 105, 118, 101], [102, 97, 110, 116, 97, 115, 121], [109, 111, 110, 111, 115, 112, 97, 99, 101], [115, 121, 115, 116, 101, 109, 45, 117, 105], [101, 109, 111, 106, 105], [109, 97, 116, 104], [102, 97, 110, 103, 115, 111, 110, 103], [117, 105, 45, 115, 101, 114, 105, 102], [117, 105, 45, 115, 97, 110, 115, 45, 115, 101, 114, 105, 102], [117, 105, 45, 109, 111, 110, 111, 115, 112, 97, 99, 101], [117, 105, 45, 114, 111, 117, 110, 100, 101, 100]]
def genSorted : List (List UInt8) := [[99, 117, 114, 115, 105, 118, 101], [101, 109, 111, 106, 105], [102, 97, 110, 103, 115, 111, 110, 103], [102, 97, 110, 116, 97, 115, 121], [109, 97, 116, 104], [109, 111, 110, 111, 115, 112, 97, 99, 101], [115, 97, 110, 115, 45, 115, 101, 114, 105, 102], [115, 101, 114, 105, 102], [115, 121, 115, 116, 101, 109, 45, 117, 105], [117, 105, 45, 109, 111, 110, 111, 115, 112, 97, 99, 101], [117, 105, 45, 114, 111, 117, 110, 100, 101, 100], [117, 105, 45, 115, 97, 110, 115, 45, 115, 101, 114, 105, 102], [117, 105, 45, 115, 101, 114, 105, 102]]
theorem G_mem (l : List UInt8) : G l = decide (l ∈ genKeys) := by
  have key : ∀ (L : List (Lit × DataW Unit)) (K : List (List UInt8)), L = K.map (fun k => (Lit.string k, DataW.lit (.bool true))) → bitOf ((DataW.map L).atKey (.string l) (.lit (.bool false))) = decide (l ∈ K) := by
    intro L K e
    subst e
    unfold DataW.atKey
    simp only
    induction K with
    | nil => rfl
    | cons k K ih =>
      rw [List.map_cons, List.find?_cons]
      by_cases h : k = l
      · subst h
        have : Lit.sameKey (.string k) (.string k) = true := by simp [Lit.sameKey]
        rw [this]
        simp [bitOf]
      · have : Lit.sameKey (.string k) (.string l) = false := by simpa [Lit.sameKey] using h
        rw [this]
        have h2 : decide (l ∈ k :: K) = decide (l ∈ K) := by
          have : (l ∈ k :: K) ↔ l ∈ K := by
            rw [List.mem_cons]
            exact ⟨fun e => e.resolve_left (fun e => h e.symm), .inr⟩
          exact decide_eq_decide.2 this
        rw [h2]
        exact ih
  unfold G look
  rw [genD_eq]
  refine (key genL genSorted (by kernel_rfl)).trans (decide_eq_decide.2 ?_)
  have : genSorted.Perm genKeys := by decide +kernel
  exact this.mem_iff

set_option maxHeartbeats 4000000 in
set_option maxRecDepth 100000 in
theorem isGen_any (s : ByteArray) (w : World) : Calls Tryd.prog 23 #[.string s] w fun e w' => e = .returned (.bool (G s.data.toList)) ∧ w' = w := by
  have key : ∀ k : List UInt8, (s.toList == k) = decide (s.data.toList = k) := fun k => by
    rw [Lib.toList_data]
    by_cases h : s.data.toList = k
    · rw [decide_eq_true h, h]; simp
    · rw [decide_eq_false h, beq_eq_false_iff_ne]; exact h
  have k0 := key [115, 101, 114, 105, 102]
  have k1 := key [115, 97, 110, 115, 45, 115, 101, 114, 105, 102]
  have k2 := key [99, 117, 114, 115, 105, 118, 101]
  have k3 := key [102, 97, 110, 116, 97, 115, 121]
  have k4 := key [109, 111, 110, 111, 115, 112, 97, 99, 101]
  have k5 := key [115, 121, 115, 116, 101, 109, 45, 117, 105]
  have k6 := key [101, 109, 111, 106, 105]
  have k7 := key [109, 97, 116, 104]
  have k8 := key [102, 97, 110, 103, 115, 111, 110, 103]
  have k9 := key [117, 105, 45, 115, 101, 114, 105, 102]
  have k10 := key [117, 105, 45, 115, 97, 110, 115, 45, 115, 101, 114, 105, 102]
  have k11 := key [117, 105, 45, 109, 111, 110, 111, 115, 112, 97, 99, 101]
  have k12 := key [117, 105, 45, 114, 111, 117, 110, 100, 101, 100]
  have hG := G_mem s.data.toList
  have HG := Lib.hid hG
  clear key hG
  by_cases c0 : s.data.toList = [115, 101, 114, 105, 102]
  · rw [decide_eq_true c0] at k0
    have HC := Lib.hid c0
    clear c0
    go_enter Tryd.func23, Tryd.ntmps23
    go_wp2_with fail
    go_ret
    refine ⟨?_, rfl⟩
    rw [HG.out, HC.out]
    rfl
  rw [decide_eq_false c0] at k0
  by_cases c1 : s.data.toList = [115, 97, 110, 115, 45, 115, 101, 114, 105, 102]
  · rw [decide_eq_true c1] at k1
    have HC := Lib.hid c1
    clear c1
    go_enter Tryd.func23, Tryd.ntmps23
    go_wp2_with fail
    go_ret
    refine ⟨?_, rfl⟩
    rw [HG.out, HC.out]
    rfl
  rw [decide_eq_false c1] at k1
  by_cases c2 : s.data.toList = [99, 117, 114, 115, 105, 118, 101]
  · rw [decide_eq_true c2] at k2
    have HC := Lib.hid c2
    clear c2
    go_enter Tryd.func23, Tryd.ntmps23
    go_wp2_with fail
    go_ret
    refine ⟨?_, rfl⟩
    rw [HG.out, HC.out]
    rfl
  rw [decide_eq_false c2] at k2
  by_cases c3 : s.data.toList = [102, 97, 110, 116, 97, 115, 121]
  · rw [decide_eq_true c3] at k3
    have HC := Lib.hid c3
    clear c3
    go_enter Tryd.func23, Tryd.ntmps23
    go_wp2_with fail
    go_ret
    refine ⟨?_, rfl⟩
    rw [HG.out, HC.out]
    rfl
  rw [decide_eq_false c3] at k3
  by_cases c4 : s.data.toList = [109, 111, 110, 111, 115, 112, 97, 99, 101]
  · rw [decide_eq_true c4] at k4
    have HC := Lib.hid c4
    clear c4
    go_enter Tryd.func23, Tryd.ntmps23
    go_wp2_with fail
    go_ret
    refine ⟨?_, rfl⟩
    rw [HG.out, HC.out]
    rfl
  rw [decide_eq_false c4] at k4
  by_cases c5 : s.data.toList = [115, 121, 115, 116, 101, 109, 45, 117, 105]
  · rw [decide_eq_true c5] at k5
    have HC := Lib.hid c5
    clear c5
    go_enter Tryd.func23, Tryd.ntmps23
    go_wp2_with fail
    go_ret
    refine ⟨?_, rfl⟩
    rw [HG.out, HC.out]
    rfl
  rw [decide_eq_false c5] at k5
  by_cases c6 : s.data.toList = [101, 109, 111, 106, 105]
  · rw [decide_eq_true c6] at k6
    have HC := Lib.hid c6
    clear c6
    go_enter Tryd.func23, Tryd.ntmps23
    go_wp2_with fail
    go_ret
    refine ⟨?_, rfl⟩
    rw [HG.out, HC.out]
    rfl
  rw [decide_eq_false c6] at k6
  by_cases c7 : s.data.toList = [109, 97, 116, 104]
  · rw [decide_eq_true c7] at k7
    have HC := Lib.hid c7
    clear c7
    go_enter Tryd.func23, Tryd.ntmps23
    go_wp2_with fail
    go_ret
    refine ⟨?_, rfl⟩
    rw [HG.out, HC.out]
    rfl
  rw [decide_eq_false c7] at k7
  by_cases c8 : s.data.toList = [102, 97, 110, 103, 115, 111, 110, 103]
  · rw [decide_eq_true c8] at k8
    have HC := Lib.hid c8
    clear c8
    go_enter Tryd.func23, Tryd.ntmps23
    go_wp2_with fail
    go_ret
    refine ⟨?_, rfl⟩
    rw [HG.out, HC.out]
    rfl
  rw [decide_eq_false c8] at k8
  by_cases c9 : s.data.toList = [117, 105, 45, 115, 101, 114, 105, 102]
  · rw [decide_eq_true c9] at k9
    have HC := Lib.hid c9
    clear c9
    go_enter Tryd.func23, Tryd.ntmps23
    go_wp2_with fail
    go_ret
    refine ⟨?_, rfl⟩
    rw [HG.out, HC.out]
    rfl
  rw [decide_eq_false c9] at k9
  by_cases c10 : s.data.toList = [117, 105, 45, 115, 97, 110, 115, 45, 115, 101, 114, 105, 102]
  · rw [decide_eq_true c10] at k10
    have HC := Lib.hid c10
    clear c10
    go_enter Tryd.func23, Tryd.ntmps23
    go_wp2_with fail
    go_ret
    refine ⟨?_, rfl⟩
    rw [HG.out, HC.out]
    rfl
  rw [decide_eq_false c10] at k10
  by_cases c11 : s.data.toList = [117, 105, 45, 109, 111, 110, 111, 115, 112, 97, 99, 101]
  · rw [decide_eq_true c11] at k11
    have HC := Lib.hid c11
    clear c11
    go_enter Tryd.func23, Tryd.ntmps23
    go_wp2_with fail
    go_ret
    refine ⟨?_, rfl⟩
    rw [HG.out, HC.out]
    rfl
  rw [decide_eq_false c11] at k11
  by_cases c12 : s.data.toList = [117, 105, 45, 114, 111, 117, 110, 100, 101, 100]
  · rw [decide_eq_true c12] at k12
    have HC := Lib.hid c12
    clear c12
    go_enter Tryd.func23, Tryd.ntmps23
    go_wp2_with fail
    go_ret
    refine ⟨?_, rfl⟩
    rw [HG.out, HC.out]
    rfl
  rw [decide_eq_false c12] at k12
  have hno : G s.data.toList = false := by
    rw [HG.out]
    refine decide_eq_false ?_
    unfold genKeys
    simp only [List.mem_cons, List.not_mem_nil, or_false, not_or]
    exact ⟨c0, c1, c2, c3, c4, c5, c6, c7, c8, c9, c10, c11, c12⟩
  have HN := Lib.hid hno
  clear c0 c1 c2 c3 c4 c5 c6 c7 c8 c9 c10 c11 c12 hno HG
  go_enter Tryd.func23, Tryd.ntmps23
  go_wp2_with fail
  go_ret
  rw [HN.out]
  exact ⟨rfl, rfl⟩
end Go.Proofs.YtjinajfejbpicaaDoor
