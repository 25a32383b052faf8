/-
  The contract of lowestCommonAncestorDirectory over entries whose marked paths are clean; conditions: the sizes named, what the listed tables hold.
-/
import Derived.Test.YtcpaepfhjhcaoaaDoorCon
import Derived.Test.YtcpaepfhjhcaoaaDoorCom
import Derived.Deep.DeepCutAuto
import Derived.Deep.CutBlock
import Derived.BigQuiet
import Derived.Deep.QuietTactic
namespace Go.Proofs.YtcpaepfhjhcaoaaDoor
open Go.RowKit

/-- The components of a path. -/
def cmp (l : Bs) : List Bs := (Lib.Pa.els l).filter fun x => !x.isEmpty
theorem cmp_D {cs : List Bs} (h : Comps cs) : cmp (D cs) = cs := by
  have h47 : ∀ x ∈ cs, 47 ∉ x := fun x hx => no47 h hx
  have hf : cs.filter (fun x => !x.isEmpty) = cs := by
    rw [List.filter_eq_self]
    intro x hx
    have := (h x hx).1
    cases x with
    | nil => exact absurd rfl this
    | cons a r => rfl
  unfold cmp
  by_cases h0 : cs = []
  · subst h0
    rfl
  · rw [D_T h0]
    cases cs with
    | nil => exact absurd rfl h0
    | cons x r =>
      rw [T, Lib.Pa.els_slash, els_T r (fun y hy => h47 y (List.mem_cons_of_mem _ hy)) x (h47 x (by simp)), List.filter_cons]
      exact hf
/-- The marked paths. -/
def autos (es : List (ByteArray × Bool)) : List ByteArray := (es.filter fun p => p.2).map Prod.fst
theorem autos_next {es : List (ByteArray × Bool)} {k : Nat} {p : ByteArray} {b : Bool} (h : es[k]? = some (p, b)) : autos (es.take (k + 1)) = autos (es.take k) ++ (if b then [p] else []) := by
  obtain ⟨hk, he⟩ := List.getElem?_eq_some_iff.1 h
  unfold autos
  rw [List.take_succ_eq_append_getElem hk, List.filter_append, List.map_append, he]
  cases b <;> rfl
theorem autos_all {es : List (ByteArray × Bool)} {k : Nat} (h : es.length ≤ k) : autos (es.take k) = autos es := by rw [List.take_of_length_le h]
theorem autos_len (es : List (ByteArray × Bool)) (k : Nat) : (autos (es.take k)).length ≤ k := by
  unfold autos
  rw [List.length_map]
  have := List.length_filter_le (fun p : ByteArray × Bool => p.2) (es.take k)
  rw [List.length_take] at this
  omega
/-- The directory of a clean path, as components. -/
def dirC (p : ByteArray) : List Bs := (cmp p.data.toList).dropLast
/-- The answer's text. -/
def low0 (ps : List ByteArray) : Bs := match ps with
  | [] => []
  | p :: r => D (cutAll (dirC p) (r.map dirC))
theorem infoStr : (Tryd.prog.info? 9).map (fun i => (i.zero, i.size, i.bytes)) = some (some (.string ⟨#[]⟩), 1, 16) := by kernel_rfl
theorem one_at (w : World) (v : Value) (t : TypeId) : ∀ j u, [v][j]? = some u → (w.alloc (.cells #[v] t)).cell? ((⟨w.heap.size, 0, none⟩ : Addr).add j) = some u := by
  intro j u hu
  cases j with
  | zero =>
    have : v = u := by simpa using hu
    subst this
    rw [Addr.add_zero']
    go_simp
  | succ j => simp at hu
theorem own_up {w w' : World} {base e size g n cap B : Nat} {xs : List Value} (h : w.ownsRow base e size (.slice (some ⟨g, 0, none⟩) n cap) n xs) (hb : Below B w w') (hg : g < B) : w'.ownsRow base e size (.slice (some ⟨g, 0, none⟩) n cap) n xs := by
  refine ⟨h.1, ?_⟩
  rcases h.2 with ⟨h1, _⟩ | ⟨g', cap', cur, h1, h2, h3, h4⟩
  · cases h1
  · injection h1 with h5 h6 h7
    injection h5 with h5
    injection h5 with h5
    subst h5
    subst h7
    exact .inr ⟨g, cap, cur, rfl, h2, (hb.block g hg).trans h3, h4⟩
theorem one_at1 (w : World) (o : Obj) (v : Value) (t : TypeId) : ∀ j u, [v][j]? = some u → ((w.alloc o).alloc (.cells #[v] t)).cell? ((⟨w.heap.size + 1, 0, none⟩ : Addr).add j) = some u := by
  have h := one_at (w.alloc o) v t
  rw [show (w.alloc o).heap.size = w.heap.size + 1 by simp] at h
  exact h
/-- While the marked paths are gathered. -/
def AbsRel (es : List (ByteArray × Bool)) (n : Nat) (w : World) (s5 s26 : Value) (wr : World) : Prop :=
  ∃ k : Nat, k ≤ n ∧ s26 = .int .i64 k ∧ s5 = .slice (some ⟨w.heap.size, 0, none⟩) (autos (es.take k)).length n ∧ wr.ownsRow w.heap.size 9 1 (.slice (some ⟨w.heap.size, 0, none⟩) (autos (es.take k)).length n) (autos (es.take k)).length ((autos (es.take k)).map Value.string) ∧ Below w.heap.size w wr
/-- What holds at the door. -/
structure Low (b g n : Nat) (es : List (ByteArray × Bool)) (w : World) : Prop where
  row : EntRow w g es
  len : es.length = n
  n : n ≤ 8192
  clean : ∀ p ∈ es, p.2 = true → CleanP p.1.data.toList
  size : ∀ p ∈ es, p.2 = true → p.1.size ≤ 2097152
  k : w.cell? ⟨b, 4, none⟩ = some (.int .u8 0)
  tab : Lib.Utf8Tabs 0 1 w

theorem auto_ok {b g n : Nat} {es : List (ByteArray × Bool)} {w : World} (h : Low b g n es w) {p : ByteArray} (hp : p ∈ autos es) : Comps (cmp p.data.toList) ∧ p.data.toList = D (cmp p.data.toList) ∧ p.size ≤ 2097152 := by
  obtain ⟨x, hx, rfl⟩ := List.mem_map.1 hp
  obtain ⟨h1, h2⟩ := List.mem_filter.1 hx
  obtain ⟨cs, hc, he⟩ := h.clean x h1 h2
  rw [he, cmp_D hc]
  exact ⟨hc, rfl, h.size x h1 h2⟩
theorem own_cell {w : World} {base e g n cap : Nat} {L : List ByteArray} (h : w.ownsRow base e 1 (.slice (some ⟨g, 0, none⟩) n cap) n (L.map Value.string)) {j : Nat} {p : ByteArray} (hj : L[j]? = some p) : w.cell? ⟨g, j, none⟩ = some (.string p) := by
  have := h.cells (g := g) rfl j (.string p) (by rw [List.getElem?_map, hj]; rfl)
  have e : (⟨g, 0, none⟩ : Addr).add j = ⟨g, j, none⟩ := by
    unfold Addr.add
    split
    · next h0 => rw [h0]
    · simp
  rwa [e] at this
theorem own_lt {w : World} {base e size g n cap : Nat} {xs : List Value} (h : w.ownsRow base e size (.slice (some ⟨g, 0, none⟩) n cap) n xs) : g < w.heap.size := by
  rcases h.2 with ⟨h1, _⟩ | ⟨g', cap', cur, h1, h2, h3, h4⟩
  · cases h1
  · injection h1 with h5 h6 h7
    injection h5 with h5
    injection h5 with h5
    subst h5
    exact (Array.getElem?_eq_some_iff.1 h3).1

theorem below_drewN {B : Nat} {a w : World} (h : Below B a w) (n : Nat) : Below B a (w.drewN n) := by
  induction n with
  | zero => exact h
  | succ n ih => exact ih.drew
theorem own_cap {w : World} {base e size g n cap : Nat} {xs : List Value} (h : w.ownsRow base e size (.slice (some ⟨g, 0, none⟩) n cap) n xs) : n ≤ cap := by
  rcases h.2 with ⟨h1, _⟩ | ⟨g', cap', cur, h1, h2, h3, h4, _⟩
  · cases h1
  · injection h1 with h5 h6 h7
    omega
theorem comps_cut : ∀ {Ds : List (List Bs)} {s : List Bs}, Comps s → (∀ d ∈ Ds, Comps d) → Comps (cutAll s Ds)
  | [], s, h, _ => h
  | d :: Ds, s, _, hd => comps_cut (Ds := Ds) ((hd d (by simp)).take _) (fun x hx => hd x (List.mem_cons_of_mem _ hx))
theorem cut_next {s : List Bs} {ps : List ByteArray} {j : Nat} {p : ByteArray} (h : ps[j]? = some p) : cutAll s ((ps.take (j + 1)).map dirC) = (dirC p).take (lc (dirC p) (cutAll s ((ps.take j).map dirC))) := by
  obtain ⟨hk, he⟩ := List.getElem?_eq_some_iff.1 h
  rw [List.take_succ_eq_append_getElem hk, List.map_append, he]
  exact cutAll_snoc _ _ _
def Fine (l : Bs) : Prop := ∀ c ∈ l, c ≠ 92 ∧ c < 128
theorem T_fine : ∀ {l : List Bs}, Comps l → Fine (T l)
  | [], _ => fun c hc => by cases hc
  | x :: r, h => by
    intro c hc
    rw [T] at hc
    rcases List.mem_cons.1 hc with rfl | hc
    · decide
    · rcases List.mem_append.1 hc with hc | hc
      · exact ((h x (by simp)).2.2.2 c hc).2
      · exact T_fine (fun y hy => h y (List.mem_cons_of_mem _ hy)) c hc
theorem D_fine {l : List Bs} (h : Comps l) : Fine (D l) := by
  unfold D
  split
  · intro c hc
    obtain rfl : c = 47 := by simpa using hc
    decide
  · exact T_fine h
theorem fine_at {A : ByteArray} {i : Nat} (h : Fine A.data.toList) (hi : i < A.size) : ((A[i].toNat : Int) == 92) = false ∧ A[i].toNat < 128 := by
  obtain ⟨h1, h2⟩ := h A[i] (List.mem_of_getElem? (at_of hi rfl))
  refine ⟨?_, UInt8.lt_iff_toNat_lt.1 h2⟩
  rw [beq_eq_false_iff_ne]
  intro e
  exact h1 (UInt8.toNat_inj.1 (by show A[i].toNat = 92; omega))
theorem scan_step {A B : ByteArray} {i ls R : Nat} (hA : i < A.size) (hB : i < B.size) (h : scan (A.data.toList.drop i) (B.data.toList.drop i) i ls = R) : scan (A[i] :: A.data.toList.drop (i + 1)) (B[i] :: B.data.toList.drop (i + 1)) i ls = R := by
  rw [drop_cons hA, drop_cons hB] at h
  exact h
theorem scan_lo {x y : UInt8} {a b : Bs} {i ls R : Nat} (h : scan (x :: a) (y :: b) i ls = R) (h1 : ((x.toNat : Int) == 47) = false) (_ : ((y.toNat : Int) == 47) = false) (h3 : (((low x).toNat : Int) == ((low y).toNat : Int)) = false) : R = fin ls := by
  rw [scan, if_neg (fun e => notB 47 47 rfl h1 e.1), if_pos (.inr (low_ne h3))] at h
  exact h.symm
theorem scan_on {x y : UInt8} {a b : Bs} {i ls R : Nat} (h : scan (x :: a) (y :: b) i ls = R) (h1 : ((x.toNat : Int) == 47) = false) (h2 : ((y.toNat : Int) == 47) = false) (h3 : (((low x).toNat : Int) == ((low y).toNat : Int)) = true) : scan a b (i + 1) ls = R := by
  rw [scan, if_neg (fun e => notB 47 47 rfl h1 e.1), if_neg] at h
  · exact h
  · rintro ((e | e) | e)
    · exact notB 47 47 rfl h1 e
    · exact notB 47 47 rfl h2 e
    · exact e (low_eq h3)
theorem scan_r {x y : UInt8} {a b : Bs} {i ls R : Nat} (h : scan (x :: a) (y :: b) i ls = R) (h1 : ((x.toNat : Int) == 47) = false) (h2 : ((y.toNat : Int) == 47) = true) : R = fin ls := by
  rw [scan, if_neg (fun e => notB 47 47 rfl h1 e.1), if_pos (.inl (.inr (isB 47 47 rfl h2)))] at h
  exact h.symm
theorem scan_l {x y : UInt8} {a b : Bs} {i ls R : Nat} (h : scan (x :: a) (y :: b) i ls = R) (h1 : ((x.toNat : Int) == 47) = true) (h2 : ((y.toNat : Int) == 47) = false) : R = fin ls := by
  rw [scan, if_neg (fun e => notB 47 47 rfl h2 e.2), if_pos (.inl (.inl (isB 47 47 rfl h1)))] at h
  exact h.symm
theorem scan_both {x y : UInt8} {a b : Bs} {i ls R : Nat} (h : scan (x :: a) (y :: b) i ls = R) (h1 : ((x.toNat : Int) == 47) = true) (h2 : ((y.toNat : Int) == 47) = true) : scan a b (i + 1) i = R := by
  rw [scan, if_pos ⟨isB 47 47 rfl h1, isB 47 47 rfl h2⟩] at h
  exact h
theorem scan_endB {A B : ByteArray} {ls R : Nat} (hA : B.size < A.size) (h : scan (A.data.toList.drop B.size) (B.data.toList.drop B.size) B.size ls = R) : scan (A[B.size] :: A.data.toList.drop (B.size + 1)) [] B.size ls = R := by
  rw [drop_cons hA, drop_end (Nat.lt_irrefl _)] at h
  exact h
theorem scan_eb {x : UInt8} {a : Bs} {i ls R : Nat} (h : scan (x :: a) [] i ls = R) (h1 : ((x.toNat : Int) == 47) = false) : R = fin ls := by
  rw [scan, if_neg (notB 47 47 rfl h1)] at h
  exact h.symm
theorem scan_ebs {x : UInt8} {a : Bs} {i ls R : Nat} (h : scan (x :: a) [] i ls = R) (h1 : ((x.toNat : Int) == 47) = true) : R = i := by
  rw [scan, if_pos (isB 47 47 rfl h1)] at h
  exact h.symm
theorem scan_endA {A B : ByteArray} {ls R : Nat} (hB : A.size < B.size) (h : scan (A.data.toList.drop A.size) (B.data.toList.drop A.size) A.size ls = R) : scan [] (B[A.size] :: B.data.toList.drop (A.size + 1)) A.size ls = R := by
  rw [drop_cons hB, drop_end (Nat.lt_irrefl _)] at h
  exact h
theorem scan_ea {y : UInt8} {b : Bs} {i ls R : Nat} (h : scan [] (y :: b) i ls = R) (h1 : ((y.toNat : Int) == 47) = false) : R = fin ls := by
  rw [scan, if_neg (notB 47 47 rfl h1)] at h
  exact h.symm
theorem scan_eas {y : UInt8} {b : Bs} {i ls R : Nat} (h : scan [] (y :: b) i ls = R) (h1 : ((y.toNat : Int) == 47) = true) : R = i := by
  rw [scan, if_pos (isB 47 47 rfl h1)] at h
  exact h.symm
theorem scan_end2 {A B : ByteArray} {ls R : Nat} (hAB : A.size = B.size) (h : scan (A.data.toList.drop A.size) (B.data.toList.drop A.size) A.size ls = R) : R = A.size := by
  rw [drop_end (Nat.lt_irrefl _), drop_end (by omega)] at h
  exact h.symm
theorem fin_zero {R : Nat} (h : R = fin 0) : R = 1 := h
theorem fin_pos {R ls : Nat} (h : R = fin ls) (h0 : ¬ ls = 0) : R = ls := by
  rw [h]
  unfold fin
  rw [if_neg h0]
theorem take_root {A : ByteArray} {ls : Nat} (h : A.data.toList[0]? = some 47) (h0 : 0 < ls) : (A.extract 0 ls).data.toList[0]? = some 47 := by
  rw [Lib.extract_data, List.drop_zero, List.getElem?_take_of_lt (by omega)]
  exact h
theorem dec_emp (w : World) (hT : Lib.Utf8Tabs 0 1 w) : Calls Tryd.prog 22 #[.string ByteArray.empty] w fun e w' => e = .returned (.tuple #[.int .i32 65533, .int .i64 0]) ∧ Below w.heap.size w w' := by
  have h := dec_end ByteArray.empty w hT
  have e : ByteArray.empty.extract ByteArray.empty.size ByteArray.empty.size = ByteArray.empty := by decide
  rwa [e] at h
theorem len_T_take (n : Nat) (l : List Bs) : (T (l.take n)).length ≤ (T l).length := by
  have e : T l = T (l.take n) ++ T (l.drop n) := by rw [← T_append, List.take_append_drop]
  rw [e, List.length_append]
  omega
theorem len_D_pos (l : List Bs) : 1 ≤ (D l).length := by
  unfold D
  split
  · exact Nat.le_refl _
  · next h =>
    cases l with
    | nil => exact absurd rfl h
    | cons x r => rw [T, List.length_cons]; omega
theorem len_D_take (n : Nat) (l : List Bs) : (D (l.take n)).length ≤ (D l).length := by
  by_cases h : l.take n = []
  · rw [h]
    exact len_D_pos l
  · have h2 : l ≠ [] := by rintro rfl; simp at h
    rw [D_T h, D_T h2]
    exact len_T_take n l
theorem cut_len {M : Nat} : ∀ {Ds : List (List Bs)} {s : List Bs}, (D s).length ≤ M → (∀ d ∈ Ds, (D d).length ≤ M) → (D (cutAll s Ds)).length ≤ M
  | [], s, h, _ => h
  | d :: Ds, s, _, hd => cut_len (Ds := Ds) (Nat.le_trans (len_D_take _ d) (hd d (by simp))) (fun x hx => hd x (List.mem_cons_of_mem _ hx))
theorem len_dir {p : ByteArray} (h : Comps (cmp p.data.toList) ∧ p.data.toList = D (cmp p.data.toList) ∧ p.size ≤ 2097152) : (D (dirC p)).length ≤ 2097152 := by
  obtain ⟨_, h1, h2⟩ := h
  rw [Lib.size_eq, h1] at h2
  unfold dirC
  rw [List.dropLast_eq_take]
  exact Nat.le_trans (len_D_take _ _) h2
/-- The outer loop over the marked paths behind the first. -/
def LowRel (p0 : ByteArray) (ps : List ByteArray) (wc : World) (gk : Nat) (s8 s52 : Value) (wx : World) : Prop :=
  ∃ j, j ≤ ps.length ∧ gk = ps.length - j ∧ s52 = .int .i64 (j : Nat) ∧ s8 = .string (S (D (cutAll (dirC p0) ((ps.take j).map dirC)))) ∧ Below wc.heap.size wc wx
/-- The inner loop over the bytes. -/
def InRel (A B : ByteArray) (R : Nat) (wc : World) (gi : Nat) (s8 s12 s13 s14 : Value) (wx : World) : Prop :=
  ∃ i ls, s8 = .string B ∧ s12 = .int .i64 (ls : Nat) ∧ s13 = .int .i64 (i : Nat) ∧ s14 = .int .i64 (i : Nat) ∧ i ≤ A.size ∧ i ≤ B.size ∧ ls ≤ i ∧ (0 < i → ls < i) ∧ scan (A.data.toList.drop i) (B.data.toList.drop i) i ls = R ∧ gi = A.size - i ∧ Below wc.heap.size wc wx
theorem low_end {p0 p : ByteArray} {ps : List ByteArray} {j R r : Nat} {A : ByteArray} {cur : List Bs} (hsn : cutAll (dirC p0) ((ps.take (j + 1)).map dirC) = (dirC p).take (lc (dirC p) cur)) (hsc : A.data.toList.take R = D ((dirC p).take (lc (dirC p) cur))) (hr : R = r) : Value.string (A.extract 0 r) = .string (S (D (cutAll (dirC p0) ((ps.take (j + 1)).map dirC)))) := by
  rw [hsn, ← hsc, extract_S, List.drop_zero, Nat.sub_zero, hr]

theorem low_all {p0 p : ByteArray} {ps : List ByteArray} {j R : Nat} {A : ByteArray} {cur : List Bs} (hsn : cutAll (dirC p0) ((ps.take (j + 1)).map dirC) = (dirC p).take (lc (dirC p) cur)) (hsc : A.data.toList.take R = D ((dirC p).take (lc (dirC p) cur))) (hr : R = A.size) : Value.string A = .string (S (D (cutAll (dirC p0) ((ps.take (j + 1)).map dirC)))) := by
  rw [hsn, ← hsc, hr, List.take_of_length_le (by rw [← Lib.size_eq]; exact Nat.le_refl _), S_L]

set_option maxHeartbeats 100000000 in
set_option maxRecDepth 100000 in
theorem lowest_any (b g n c : Nat) (es : List (ByteArray × Bool)) (w : World) (h : Low b g n es w) :
    Calls Tryd.prog 16 #[.iface 72 (.pointer (some ⟨b, 0, none⟩)), .slice (some ⟨g, 0, none⟩) n c] w fun e w' => e = .returned (.string (S (low0 (autos es)))) ∧ Below w.heap.size w w' := by
  have hn := h.n
  have H := Lib.hid h
  obtain ⟨i0, hi, hz0, hz1, hz2⟩ := info_parts infoStr
  have HI := Lib.hid (And.intro hi (And.intro hz0 (And.intro hz1 hz2)))
  clear h hi hz0 hz1 hz2
  go_enter Tryd.func16, Tryd.ntmps16
  go_wp2_with (at_make; refine wpList_make_own _ rfl _ _ 22 rfl w.heap.size 9 i0 (.string ⟨#[]⟩) 1 Tryd.underlying22 HI.out.1 HI.out.2.1 HI.out.2.2.1 _ _ _ n rfl rfl (by omega) (by rw [HI.out.2.2.2]; omega) (by unfold maxLen; omega) (Nat.le_refl _) ?_; intro w3 hown hgrow)
  have HO := Lib.hid (And.intro hown ((Below.refl w.heap.size w).grown hgrow (Nat.le_refl _) (fun k hk => by cases hk)))
  clear hown hgrow
  go_loopw [5, 26] (fun s5 s26 wr => AbsRel es n w s5 s26 wr) (fun _ s26 _ => n - (intOf s26).toNat)
  case atStart => exact ⟨0, Nat.zero_le _, rfl, rfl, HO.out.1, HO.out.2⟩
  case round =>
    obtain ⟨k, hk, rfl, rfl, hown, hbw⟩ := hrel
    have HR := Lib.hid (And.intro hown hbw)
    clear hown hbw HO
    have hml := autos_len es k
    by_cases hlt : k < n
    · obtain ⟨⟨p, q⟩, hp⟩ : ∃ p, es[k]? = some p := ⟨_, List.getElem?_eq_getElem (by rw [H.out.len]; exact hlt)⟩
      obtain ⟨e0, e1, e2⟩ := (H.out.row k (p, q) hp)
      have g0 := (HR.out.2.cell (World.block_lt_of_cell? w _ e0)).trans e0
      have g1 := (HR.out.2.cell (World.block_lt_of_cell? w _ e1)).trans e1
      have g2 := (HR.out.2.cell (World.block_lt_of_cell? w _ e2)).trans e2
      have HN := Lib.hid (autos_next hp)
      obtain ⟨L, hL⟩ : ∃ L, autos (es.take k) = L := ⟨_, rfl⟩
      rw [hL] at HR HN hml ⊢
      clear e0 e1 e2 hp hL
      cases q
      · go_wp2_with fail
        go_roundw
        case rel =>
          refine ⟨k + 1, by omega, by go_num, ?_, ?_, ?_⟩
          · rw [HN.out]; simp
          · rw [HN.out]; simpa using HR.out.1.alloc _
          · exact HR.out.2.alloc HR.out.2.size _
        case measure => simp [intOf]; omega
      · go_wp2_with (at_builtin; refine wpList_append_fits _ rfl _ _ 22 rfl w.heap.size 9 i0 1 Tryd.underlying22 HI.out.1 HI.out.2.2.1 w.heap.size L.length n (L.map Value.string) rfl ((HR.out.1.alloc _).alloc _) ⟨wr.heap.size + 1, 0, none⟩ 1 1 [.string p] rfl rfl (one_at1 _ _ _ _) (by intro u hu; simp at hu; subst hu; rfl) (by omega) ?_; intro w4 hown4 hg4)
        have hb4 := (((HR.out.2.alloc HR.out.2.size (.cells #[.string p, .int .u32 0, .bool true] 36)).alloc (Nat.le_trans HR.out.2.size (by simp)) (.cells #[.string p] 9)).grown hg4 (Nat.le_trans HR.out.2.size (by simp; omega)) (fun k hk => by cases hk; exact Nat.le_refl _))
        have HR4 := Lib.hid (And.intro hown4 hb4)
        clear hown4 hg4 hb4
        go_roundw
        case rel =>
          refine ⟨k + 1, by omega, by go_num, ?_, ?_, HR4.out.2⟩
          · rw [HN.out]; simp
          · rw [HN.out]; simpa using HR4.out.1
        case measure => simp [intOf]; omega
    · obtain rfl : k = n := by omega
      rw [autos_all (by rw [H.out.len]; exact Nat.le_refl _)] at HR hml ⊢
      cases hps : autos es with
      | nil =>
        rw [hps] at HR hml
        have HE := Lib.hid hps
        clear hps
        go_wp2_with fail
        go_ret
        refine ⟨?_, HR.out.2⟩
        rw [HE.out]
        rfl
      | cons p0 ps =>
        rw [hps] at HR hml
        have HE := Lib.hid hps
        have HA := Lib.hid (fun p (hp : p ∈ p0 :: ps) => auto_ok H.out (show p ∈ autos es by rw [hps]; exact hp))
        clear hps hml
        have hpl : (p0 :: ps).length = ps.length + 1 := rfl
        rw [hpl] at HR ⊢
        clear hpl
        go_upto_region 10 with fail
        go_cut [8] (fun s8 wx => s8 = .string (S (D (dirC p0))) ∧ Below w.heap.size w wx ∧ wx.ownsRow w.heap.size 9 1 (.slice (some ⟨w.heap.size, 0, none⟩) (ps.length + 1) k) (ps.length + 1) ((p0 :: ps).map Value.string))
        case first =>
          have c0 := own_cell HR.out.1 (j := 0) rfl
          have m1 := meth_dir b
          have m2 := nil_dir b
          have HU := Lib.hid (fun (wx : World) (h : Below w.heap.size w wx) => (h.cell (p := ⟨b, 4, none⟩) (World.block_lt_of_cell? w _ H.out.k)).trans H.out.k)
          have HD := Lib.hid (HA.out p0 (by simp))
          go_wp2_with fail
          go_region_with (go_at_call 81; refine (mDir_any b p0 (cmp p0.data.toList) _ (by have := HD.out.2.2; omega) HD.out.2.1 HD.out.1 (HU.out _ HR.out.2.drew)).mono ?_; rintro e w5 ⟨rfl, hb5⟩)
          all_goals (
            go_wp2_with fail
            go_meet
            exact ⟨rfl, HR.out.2.drew.trans (hb5.mono HR.out.2.size), own_up HR.out.1 ((Below.refl _ _).drew.trans hb5) (own_lt HR.out.1)⟩)
        case rest =>
          obtain ⟨rfl, hbw, hown⟩ := hcut
          have HR2 := Lib.hid (And.intro hbw hown)
          have hpk := own_cap hown
          clear hbw hown HR
          have q0 : (((ps.length : Int) + 1) == 0) = false := by rw [beq_eq_false_iff_ne]; omega
          cases ps with
          | nil =>
            by_cases hk1 : k = 1
            all_goals (
              go_wp2_with fail
              go_loopw [8, 52] (fun s8 s52 wx => s8 = .string (S (D (dirC p0))) ∧ s52 = .int .i64 0 ∧ wx = wc) (fun _ _ _ => 0)
              case atStart => exact ⟨rfl, rfl, rfl⟩
              case round =>
                obtain ⟨rfl, rfl, rfl⟩ := hrel
                go_wp2_with fail
                go_ret
                refine ⟨?_, HR2.out.1⟩
                rw [HE.out]
                rfl)
          | cons p1 pr =>
            obtain ⟨ps, hps⟩ : ∃ ps, p1 :: pr = ps := ⟨_, rfl⟩
            have hk1 : ¬ k = 1 := by rw [List.length_cons] at hpk; omega
            rw [hps] at HR2 HE HA hpk q0 ⊢
            clear hps
            go_wp2_with fail
            clear q0 hk1
            go_loopg [8, 52] ps.length (fun gk s8 s52 wx => LowRel p0 ps wc gk s8 s52 wx)
            case atStart => exact ⟨0, Nat.zero_le _, rfl, rfl, rfl, Below.refl _ _⟩
            case round =>
              obtain ⟨j, hj, rfl, rfl, rfl, hbw⟩ := hrel
              have HW := Lib.hid hbw
              clear hbw
              have hc0 := Lib.hid (HA.out p0 (by simp)).1.dropLast
              have hcur : Comps (cutAll (dirC p0) ((ps.take j).map dirC)) := comps_cut hc0.out (fun d hd => by
                obtain ⟨x, hx, rfl⟩ := List.mem_map.1 hd
                exact (HA.out x (List.mem_cons_of_mem _ (List.mem_of_mem_take hx))).1.dropLast)
              by_cases hlt : j < ps.length
              case neg =>
                obtain rfl : j = ps.length := by omega
                rw [List.take_of_length_le (Nat.le_refl _)] at hcur ⊢
                clear hcur
                go_wp2_with fail
                go_ret
                refine ⟨?_, HR2.out.1.trans (HW.out.mono HR2.out.1.size)⟩
                rw [HE.out]
                rfl
              obtain ⟨p, hp⟩ : ∃ p, ps[j]? = some p := ⟨_, List.getElem?_eq_getElem hlt⟩
              have hpa := HA.out p (List.mem_cons_of_mem _ (List.mem_of_getElem? hp))
              have hsn := cut_next (s := dirC p0) hp
              have hcl : (D (cutAll (dirC p0) ((ps.take j).map dirC))).length ≤ 2097152 := cut_len (len_dir (HA.out p0 (by simp))) (fun d hd => by
                obtain ⟨x, hx, rfl⟩ := List.mem_map.1 hd
                exact len_dir (HA.out x (List.mem_cons_of_mem _ (List.mem_of_mem_take hx))))
              obtain ⟨cur, hcu⟩ : ∃ cur, cutAll (dirC p0) ((ps.take j).map dirC) = cur := ⟨_, rfl⟩
              rw [hcu] at hcur hsn hcl ⊢
              have HL := Lib.hid (And.intro (len_dir hpa) hcl)
              clear hcu hcl
              have hrow := own_up HR2.out.2 HW.out (own_lt HR2.out.2)
              have c0 := own_cell hrow (j := j + 1) (p := p) (by rw [List.getElem?_cons_succ]; exact hp)
              have c1 : wr.cell? ⟨w.heap.size, 1 + j, none⟩ = some (.string p) := by rw [Nat.add_comm]; exact c0
              have HWW := HR2.out.1.trans (HW.out.mono HR2.out.1.size)
              have m1 := meth_dir b
              have hk4 := (HWW.cell (p := ⟨b, 4, none⟩) (World.block_lt_of_cell? w _ H.out.k)).trans H.out.k
              have hT := Lib.hid (fun (wx : World) (h : Below wc.heap.size wc wx) => Utf8Tabs_below H.out.tab (HR2.out.1.trans (h.mono HR2.out.1.size)))
              have HD := Lib.hid (fun wx hk => mDir_any b p (cmp p.data.toList) wx (by have := hpa.2.2; omega) hpa.2.1 hpa.1 hk)
              have hca : Comps (dirC p) := hpa.1.dropLast
              have HS := Lib.hid (And.intro hsn (And.intro hca hcur))
              clear hp hpa hsn hrow c0 HWW
              go_wp2_with fail
              refine (HD.out _ hk4).mono ?_
              rintro e w5 ⟨rfl, hb5⟩
              have HW5 := Lib.hid (HW.out.trans (hb5.mono HW.out.size))
              clear hb5 hk4 c1 m1
              have hscan := scan_D (dirC p) cur hca hcur
              have hfa := D_fine hca
              have hfb := D_fine hcur
              obtain ⟨A, hA⟩ : ∃ A, S (D (dirC p)) = A := ⟨_, rfl⟩
              obtain ⟨B, hB⟩ : ∃ B, S (D cur) = B := ⟨_, rfl⟩
              have hAd : A.data.toList = D (dirC p) := by rw [← hA, S_data]
              have hBd : B.data.toList = D cur := by rw [← hB, S_data]
              have hA0 := at_root hAd
              have hB0 := at_root hBd
              rw [← hAd, ← hBd] at hscan
              rw [← hAd] at hfa
              rw [← hBd] at hfb
              have hAe : S (D ((cmp p.data.toList).dropLast)) = A := hA
              rw [hAe]
              rw [hB]
              have hAs : 0 < A.size := by rw [Lib.size_eq]; exact (List.getElem?_eq_some_iff.1 hA0).1
              have hAz : A.size ≤ 2097152 ∧ B.size ≤ 2097152 := ⟨by rw [Lib.size_eq, hAd]; exact HL.out.1, by rw [Lib.size_eq, hBd]; exact HL.out.2⟩
              obtain ⟨hz1, hz2⟩ := hAz
              obtain ⟨R, hR⟩ : ∃ R, scan A.data.toList B.data.toList 0 0 = R := ⟨_, rfl⟩
              rw [hR] at hscan
              have HF := Lib.hid (And.intro hfa (And.intro hfb (And.intro hA0 (And.intro hscan hR))))
              clear hfa hfb hA0 hB0 hscan hR hAe hA hB hAd hBd hca hcur
              focus
               go_wp2_with fail
               go_loopg [8, 12, 13, 14] A.size (fun gi s8 s12 s13 s14 wx => InRel A B R wc gi s8 s12 s13 s14 wx)
               case atStart => exact ⟨0, 0, rfl, rfl, rfl, rfl, Nat.zero_le _, Nat.zero_le _, Nat.le_refl _, fun h => absurd h (Nat.lt_irrefl _), HF.out.2.2.2.2, rfl, HW5.out⟩
               case round =>
                obtain ⟨i, ls, rfl, rfl, rfl, rfl, hiA, hiB, hls, hls2, hsc, rfl, hbw⟩ := hrel
                have HW6 := Lib.hid hbw
                have HSC := Lib.hid hsc
                clear hbw hsc
                by_cases ltA : i < A.size
                · have fa := fine_at HF.out.1 ltA
                  have a92 := fa.1
                  by_cases ltB : i < B.size
                  · have fb := fine_at HF.out.2.1 ltB
                    have b92 := fb.1
                    have ha := fa.2
                    have hb := fb.2
                    have HX := Lib.hid (scan_step ltA ltB HSC.out)
                    cases b1 : ((A[i].toNat : Int) == 47)
                    · cases b2 : ((B[i].toNat : Int) == 47)
                      · cases b3 : (((low A[i]).toNat : Int) == ((low B[i]).toNat : Int))
                        · have b4 : (((low A[i]).toNat : Int) != ((low B[i]).toNat : Int)) = true := by unfold bne; rw [b3]; rfl
                          have HRF := Lib.hid (scan_lo HX.out b1 b2 b3)
                          by_cases hl0 : ls = 0
                          · subst hl0
                            have HRR := Lib.hid (fin_zero HRF.out)
                            go_wp2_with fail
                            refine (dec_at A i ltA fa.2 _).mono ?_
                            rintro e w7 ⟨rfl, hw7⟩
                            subst hw7
                            go_wp2_with fail
                            refine (dec_at B i ltB fb.2 _).mono ?_
                            rintro e w8 ⟨rfl, hw8⟩
                            subst hw8
                            go_wp2_with fail
                            refine (low32 A[i] ha _).mono ?_
                            rintro e w9 ⟨rfl, hw9⟩
                            subst hw9
                            go_wp2_with fail
                            refine (low32 B[i] hb _).mono ?_
                            rintro e w9 ⟨rfl, hw9⟩
                            subst hw9
                            go_wp2_with fail
                            refine (con_empty _ (by simp) _).mono ?_
                            rintro e w10 ⟨rfl, hb10⟩
                            have HW9 := Lib.hid (HW6.out.trans (hb10.mono HW6.out.size))
                            clear hb10
                            go_wp2_with fail
                            go_roundg (ps.length - (j + 1))
                            case measure => omega
                            case rel => exact ⟨j + 1, by omega, rfl, by go_num, low_end HS.out.1 HF.out.2.2.2.1 HRR.out, HW9.out⟩
                          · have HRR := Lib.hid (fin_pos HRF.out hl0)
                            have hlsA : ls < A.size := by omega
                            have h47 := Lib.hid (take_root HF.out.2.2.1 (show 0 < ls by omega))
                            go_wp2_with fail
                            refine (dec_at A i ltA fa.2 _).mono ?_
                            rintro e w7 ⟨rfl, hw7⟩
                            subst hw7
                            go_wp2_with fail
                            refine (dec_at B i ltB fb.2 _).mono ?_
                            rintro e w8 ⟨rfl, hw8⟩
                            subst hw8
                            go_wp2_with fail
                            refine (low32 A[i] ha _).mono ?_
                            rintro e w9 ⟨rfl, hw9⟩
                            subst hw9
                            go_wp2_with fail
                            refine (low32 B[i] hb _).mono ?_
                            rintro e w9 ⟨rfl, hw9⟩
                            subst hw9
                            go_wp2_with fail
                            refine (con_slash _ h47.out _).mono ?_
                            rintro e w10 ⟨rfl, hb10⟩
                            have HW9 := Lib.hid (HW6.out.trans (hb10.mono HW6.out.size))
                            clear hb10
                            go_wp2_with fail
                            go_roundg (ps.length - (j + 1))
                            case measure => omega
                            case rel => exact ⟨j + 1, by omega, rfl, by go_num, low_end HS.out.1 HF.out.2.2.2.1 HRR.out, HW9.out⟩
                        · have b4 : (((low A[i]).toNat : Int) != ((low B[i]).toNat : Int)) = false := by unfold bne; rw [b3]; rfl
                          have HY := Lib.hid (scan_on HX.out b1 b2 b3)
                          go_wp2_with fail
                          refine (dec_at A i ltA fa.2 _).mono ?_
                          rintro e w7 ⟨rfl, hw7⟩
                          subst hw7
                          go_wp2_with fail
                          refine (dec_at B i ltB fb.2 _).mono ?_
                          rintro e w8 ⟨rfl, hw8⟩
                          subst hw8
                          go_wp2_with fail
                          refine (low32 A[i] ha _).mono ?_
                          rintro e w9 ⟨rfl, hw9⟩
                          subst hw9
                          go_wp2_with fail
                          refine (low32 B[i] hb _).mono ?_
                          rintro e w9 ⟨rfl, hw9⟩
                          subst hw9
                          go_wp2_with fail
                          go_roundg (A.size - (i + 1))
                          case measure => omega
                          case rel => exact ⟨i + 1, ls, rfl, by go_num, by go_num, by go_num, by omega, by omega, by omega, fun _ => by omega, HY.out, rfl, HW6.out⟩
                      · have b5 : True := trivial
                        have HRF := Lib.hid (scan_r HX.out b1 b2)
                        by_cases hl0 : ls = 0
                        · subst hl0
                          have HRR := Lib.hid (fin_zero HRF.out)
                          go_wp2_with fail
                          refine (dec_at A i ltA fa.2 _).mono ?_
                          rintro e w7 ⟨rfl, hw7⟩
                          subst hw7
                          go_wp2_with fail
                          refine (dec_at B i ltB fb.2 _).mono ?_
                          rintro e w8 ⟨rfl, hw8⟩
                          subst hw8
                          go_wp2_with fail
                          refine (con_empty _ (by simp) _).mono ?_
                          rintro e w10 ⟨rfl, hb10⟩
                          have HW9 := Lib.hid (HW6.out.trans (hb10.mono HW6.out.size))
                          clear hb10
                          go_wp2_with fail
                          go_roundg (ps.length - (j + 1))
                          case measure => omega
                          case rel => exact ⟨j + 1, by omega, rfl, by go_num, low_end HS.out.1 HF.out.2.2.2.1 HRR.out, HW9.out⟩
                        · have HRR := Lib.hid (fin_pos HRF.out hl0)
                          have hlsA : ls < A.size := by omega
                          have h47 := Lib.hid (take_root HF.out.2.2.1 (show 0 < ls by omega))
                          go_wp2_with fail
                          refine (dec_at A i ltA fa.2 _).mono ?_
                          rintro e w7 ⟨rfl, hw7⟩
                          subst hw7
                          go_wp2_with fail
                          refine (dec_at B i ltB fb.2 _).mono ?_
                          rintro e w8 ⟨rfl, hw8⟩
                          subst hw8
                          go_wp2_with fail
                          refine (con_slash _ h47.out _).mono ?_
                          rintro e w10 ⟨rfl, hb10⟩
                          have HW9 := Lib.hid (HW6.out.trans (hb10.mono HW6.out.size))
                          clear hb10
                          go_wp2_with fail
                          go_roundg (ps.length - (j + 1))
                          case measure => omega
                          case rel => exact ⟨j + 1, by omega, rfl, by go_num, low_end HS.out.1 HF.out.2.2.2.1 HRR.out, HW9.out⟩
                    · cases b2 : ((B[i].toNat : Int) == 47)
                      · have b5 : True := trivial
                        have HRF := Lib.hid (scan_l HX.out b1 b2)
                        by_cases hl0 : ls = 0
                        · subst hl0
                          have HRR := Lib.hid (fin_zero HRF.out)
                          go_wp2_with fail
                          refine (dec_at A i ltA fa.2 _).mono ?_
                          rintro e w7 ⟨rfl, hw7⟩
                          subst hw7
                          go_wp2_with fail
                          refine (dec_at B i ltB fb.2 _).mono ?_
                          rintro e w8 ⟨rfl, hw8⟩
                          subst hw8
                          go_wp2_with fail
                          refine (con_empty _ (by simp) _).mono ?_
                          rintro e w10 ⟨rfl, hb10⟩
                          have HW9 := Lib.hid (HW6.out.trans (hb10.mono HW6.out.size))
                          clear hb10
                          go_wp2_with fail
                          go_roundg (ps.length - (j + 1))
                          case measure => omega
                          case rel => exact ⟨j + 1, by omega, rfl, by go_num, low_end HS.out.1 HF.out.2.2.2.1 HRR.out, HW9.out⟩
                        · have HRR := Lib.hid (fin_pos HRF.out hl0)
                          have hlsA : ls < A.size := by omega
                          have h47 := Lib.hid (take_root HF.out.2.2.1 (show 0 < ls by omega))
                          go_wp2_with fail
                          refine (dec_at A i ltA fa.2 _).mono ?_
                          rintro e w7 ⟨rfl, hw7⟩
                          subst hw7
                          go_wp2_with fail
                          refine (dec_at B i ltB fb.2 _).mono ?_
                          rintro e w8 ⟨rfl, hw8⟩
                          subst hw8
                          go_wp2_with fail
                          refine (con_slash _ h47.out _).mono ?_
                          rintro e w10 ⟨rfl, hb10⟩
                          have HW9 := Lib.hid (HW6.out.trans (hb10.mono HW6.out.size))
                          clear hb10
                          go_wp2_with fail
                          go_roundg (ps.length - (j + 1))
                          case measure => omega
                          case rel => exact ⟨j + 1, by omega, rfl, by go_num, low_end HS.out.1 HF.out.2.2.2.1 HRR.out, HW9.out⟩
                      · have b5 : True := trivial
                        have HY := Lib.hid (scan_both HX.out b1 b2)
                        go_wp2_with fail
                        refine (dec_at A i ltA fa.2 _).mono ?_
                        rintro e w7 ⟨rfl, hw7⟩
                        subst hw7
                        go_wp2_with fail
                        refine (dec_at B i ltB fb.2 _).mono ?_
                        rintro e w8 ⟨rfl, hw8⟩
                        subst hw8
                        go_wp2_with fail
                        go_roundg (A.size - (i + 1))
                        case measure => omega
                        case rel => exact ⟨i + 1, i, rfl, by go_num, by go_num, by go_num, by omega, by omega, by omega, fun _ => by omega, HY.out, rfl, HW6.out⟩
                  · obtain rfl : i = B.size := by omega
                    have HX := Lib.hid (scan_endB ltA HSC.out)
                    cases b1 : ((A[B.size].toNat : Int) == 47)
                    · have b5 : True := trivial
                      have HRF := Lib.hid (scan_eb HX.out b1)
                      by_cases hl0 : ls = 0
                      · subst hl0
                        have HRR := Lib.hid (fin_zero HRF.out)
                        go_wp2_with fail
                        refine (dec_at A B.size ltA fa.2 _).mono ?_
                        rintro e w7 ⟨rfl, hw7⟩
                        subst hw7
                        go_wp2_with fail
                        refine (dec_emp _ (hT.out _ HW6.out)).mono ?_
                        rintro e w8 ⟨rfl, hb8⟩
                        have HW8 := Lib.hid (HW6.out.trans (hb8.mono HW6.out.size))
                        clear hb8
                        go_wp2_with fail
                        refine (con_empty _ (by simp) _).mono ?_
                        rintro e w10 ⟨rfl, hb10⟩
                        have HW9 := Lib.hid (HW8.out.trans (hb10.mono HW8.out.size))
                        clear hb10
                        go_wp2_with fail
                        go_roundg (ps.length - (j + 1))
                        case measure => omega
                        case rel => exact ⟨j + 1, by omega, rfl, by go_num, low_end HS.out.1 HF.out.2.2.2.1 HRR.out, HW9.out⟩
                      · have HRR := Lib.hid (fin_pos HRF.out hl0)
                        have hlsA : ls < A.size := by omega
                        have h47 := Lib.hid (take_root HF.out.2.2.1 (show 0 < ls by omega))
                        go_wp2_with fail
                        refine (dec_at A B.size ltA fa.2 _).mono ?_
                        rintro e w7 ⟨rfl, hw7⟩
                        subst hw7
                        go_wp2_with fail
                        refine (dec_emp _ (hT.out _ HW6.out)).mono ?_
                        rintro e w8 ⟨rfl, hb8⟩
                        have HW8 := Lib.hid (HW6.out.trans (hb8.mono HW6.out.size))
                        clear hb8
                        go_wp2_with fail
                        refine (con_slash _ h47.out _).mono ?_
                        rintro e w10 ⟨rfl, hb10⟩
                        have HW9 := Lib.hid (HW8.out.trans (hb10.mono HW8.out.size))
                        clear hb10
                        go_wp2_with fail
                        go_roundg (ps.length - (j + 1))
                        case measure => omega
                        case rel => exact ⟨j + 1, by omega, rfl, by go_num, low_end HS.out.1 HF.out.2.2.2.1 HRR.out, HW9.out⟩
                    · have HRR := Lib.hid (scan_ebs HX.out b1)
                      go_wp2_with fail
                      refine (dec_at A B.size ltA fa.2 _).mono ?_
                      rintro e w7 ⟨rfl, hw7⟩
                      subst hw7
                      go_wp2_with fail
                      refine (dec_emp _ (hT.out _ HW6.out)).mono ?_
                      rintro e w8 ⟨rfl, hb8⟩
                      have HW8 := Lib.hid (HW6.out.trans (hb8.mono HW6.out.size))
                      clear hb8
                      go_wp2_with fail
                      go_roundg (ps.length - (j + 1))
                      case measure => omega
                      case rel => exact ⟨j + 1, by omega, rfl, by go_num, low_end HS.out.1 HF.out.2.2.2.1 HRR.out, HW8.out⟩
                · obtain rfl : i = A.size := by omega
                  by_cases ltB : A.size < B.size
                  · have fb := fine_at HF.out.2.1 ltB
                    have b92 := fb.1
                    have HX := Lib.hid (scan_endA ltB HSC.out)
                    cases b2 : ((B[A.size].toNat : Int) == 47)
                    · have b5 : True := trivial
                      have HRF := Lib.hid (scan_ea HX.out b2)
                      by_cases hl0 : ls = 0
                      · subst hl0
                        have HRR := Lib.hid (fin_zero HRF.out)
                        go_wp2_with fail
                        refine (dec_emp _ (hT.out _ HW6.out)).mono ?_
                        rintro e w7 ⟨rfl, hb7⟩
                        have HW7 := Lib.hid (HW6.out.trans (hb7.mono HW6.out.size))
                        clear hb7
                        go_wp2_with fail
                        refine (dec_at B A.size ltB fb.2 _).mono ?_
                        rintro e w8 ⟨rfl, hw8⟩
                        subst hw8
                        go_wp2_with fail
                        refine (con_empty _ (by simp) _).mono ?_
                        rintro e w10 ⟨rfl, hb10⟩
                        have HW9 := Lib.hid (HW7.out.trans (hb10.mono HW7.out.size))
                        clear hb10
                        go_wp2_with fail
                        go_roundg (ps.length - (j + 1))
                        case measure => omega
                        case rel => exact ⟨j + 1, by omega, rfl, by go_num, low_end HS.out.1 HF.out.2.2.2.1 HRR.out, HW9.out⟩
                      · have HRR := Lib.hid (fin_pos HRF.out hl0)
                        have hlsA : ls < A.size := by omega
                        have h47 := Lib.hid (take_root HF.out.2.2.1 (show 0 < ls by omega))
                        go_wp2_with fail
                        refine (dec_emp _ (hT.out _ HW6.out)).mono ?_
                        rintro e w7 ⟨rfl, hb7⟩
                        have HW7 := Lib.hid (HW6.out.trans (hb7.mono HW6.out.size))
                        clear hb7
                        go_wp2_with fail
                        refine (dec_at B A.size ltB fb.2 _).mono ?_
                        rintro e w8 ⟨rfl, hw8⟩
                        subst hw8
                        go_wp2_with fail
                        refine (con_slash _ h47.out _).mono ?_
                        rintro e w10 ⟨rfl, hb10⟩
                        have HW9 := Lib.hid (HW7.out.trans (hb10.mono HW7.out.size))
                        clear hb10
                        go_wp2_with fail
                        go_roundg (ps.length - (j + 1))
                        case measure => omega
                        case rel => exact ⟨j + 1, by omega, rfl, by go_num, low_end HS.out.1 HF.out.2.2.2.1 HRR.out, HW9.out⟩
                    · have HRR := Lib.hid (scan_eas HX.out b2)
                      go_wp2_with fail
                      refine (dec_emp _ (hT.out _ HW6.out)).mono ?_
                      rintro e w7 ⟨rfl, hb7⟩
                      have HW7 := Lib.hid (HW6.out.trans (hb7.mono HW6.out.size))
                      clear hb7
                      go_wp2_with fail
                      refine (dec_at B A.size ltB fb.2 _).mono ?_
                      rintro e w8 ⟨rfl, hw8⟩
                      subst hw8
                      go_wp2_with fail
                      go_roundg (ps.length - (j + 1))
                      case measure => omega
                      case rel => exact ⟨j + 1, by omega, rfl, by go_num, low_all HS.out.1 HF.out.2.2.2.1 HRR.out, HW7.out⟩
                  · have hAB : A.size = B.size := by omega
                    have HRR := Lib.hid (scan_end2 hAB HSC.out)
                    have HAB := Lib.hid hAB
                    clear hiA hiB
                    go_wp2_with fail
                    refine (dec_emp _ (hT.out _ HW6.out)).mono ?_
                    rintro e w7 ⟨rfl, hb7⟩
                    have HW7 := Lib.hid (HW6.out.trans (hb7.mono HW6.out.size))
                    clear hb7
                    go_wp2_with fail
                    refine (dec_emp _ (hT.out _ HW7.out)).mono ?_
                    rintro e w8 ⟨rfl, hb8⟩
                    have HW8 := Lib.hid (HW7.out.trans (hb8.mono HW7.out.size))
                    clear hb8
                    go_wp2_with fail
                    go_roundg (ps.length - (j + 1))
                    case measure => omega
                    case rel => exact ⟨j + 1, by omega, rfl, by go_num, low_end HS.out.1 HF.out.2.2.2.1 (HRR.out.trans HAB.out), HW8.out⟩
end Go.Proofs.YtcpaepfhjhcaoaaDoor
