/-
  Plain facts on the listing page: what it is, byte by byte, its pieces' lengths and how many tags a line holds; no program in sight (conditions: those that each lemma names).
-/
import Derived.Test.YtpjpdeecpobmlaaFmtEnt
import Derived.Lib.CleanLen
import Derived.Lib.Join
import Derived.Sort.KeysCollected
namespace Go.Proofs.YtpjpdeecpobmlaaFmt
open Go.RowKit

/-! ### The pieces between the slashes -/
theorem els_none : ∀ a : List UInt8, (47 : UInt8) ∉ a → Lib.Pa.els a = [a]
  | [], _ => rfl
  | c :: t, h => by
    have hc : ¬ c = 47 := fun e => h (by simp [e])
    have ht : (47 : UInt8) ∉ t := fun e => h (by simp [e])
    unfold Lib.Pa.els
    rw [if_neg hc, els_none t ht]
theorem els_cut : ∀ (a b : List UInt8), (47 : UInt8) ∉ a → Lib.Pa.els (a ++ 47 :: b) = a :: Lib.Pa.els b
  | [], b, _ => by rw [List.nil_append, Lib.Pa.els, if_pos rfl]
  | c :: t, b, h => by
    have hc : ¬ c = 47 := fun e => h (by simp [e])
    have ht : (47 : UInt8) ∉ t := fun e => h (by simp [e])
    rw [List.cons_append, Lib.Pa.els, if_neg hc, els_cut t b ht]
theorem els_ne (l : List UInt8) : Lib.Pa.els l ≠ [] := by
  cases l with
  | nil => simp [Lib.Pa.els]
  | cons c t =>
    unfold Lib.Pa.els
    split
    · simp
    · split <;> simp
theorem els_sum : ∀ l : List UInt8, Lib.lens (Lib.Pa.els l) + (Lib.Pa.els l).length = l.length + 1
  | [] => rfl
  | c :: t => by
    have ih := els_sum t
    by_cases hc : c = 47
    · rw [Lib.Pa.els, if_pos hc]
      simp only [Lib.lens, List.map_cons, List.sum_cons, List.length_nil, List.length_cons] at ih ⊢
      omega
    · rw [Lib.Pa.els, if_neg hc]
      cases he : Lib.Pa.els t with
      | nil => exact absurd he (els_ne t)
      | cons e r =>
        rw [he] at ih
        simp only [Lib.lens, List.map_cons, List.sum_cons, List.length_cons] at ih ⊢
        omega

theorem join_le (xs : List (List UInt8)) : (Lib.join xs [47]).length ≤ Lib.lens xs + xs.length := by
  cases xs with
  | nil => simp [Lib.join_nil]
  | cons x r =>
    rw [Lib.join_length]
    simp only [List.length_cons, List.length_nil]
    omega
theorem lens_get (xs : List (List UInt8)) (i : Nat) (x : List UInt8) (h : xs[i]? = some x) : x.length ≤ Lib.lens xs := by
  have h1 := Lib.lens_take_succ xs i x h
  have h2 := Lib.lens_take_le xs (i + 1)
  omega

/-! ### The page -/
def k0 : List UInt8 := [60, 33, 100, 111, 99, 116, 121, 112, 101, 32, 104, 116, 109, 108, 62, 10]
def k1 : List UInt8 := [60, 109, 101, 116, 97, 32, 99, 104, 97, 114, 115, 101, 116, 61, 34, 117, 116, 102, 56, 34, 62, 10]
def k2 : List UInt8 := [60, 115, 116, 121, 108, 101, 62, 10]
def k3 : List UInt8 := [98, 111, 100, 121, 32, 123, 32, 109, 97, 114, 103, 105, 110, 58, 32, 51, 48, 112, 120, 59, 32, 99, 111, 108, 111, 114, 58, 32, 35, 50, 50, 50, 59, 32, 98, 97, 99, 107, 103, 114, 111, 117, 110, 100, 58, 32, 35, 102, 102, 102, 59, 32, 102, 111, 110, 116, 58, 32, 49, 54, 112, 120, 47, 50, 50, 112, 120, 32, 115, 97, 110, 115, 45, 115, 101, 114, 105, 102, 59, 32, 125, 10]
def k4 : List UInt8 := [97, 32, 123, 32, 99, 111, 108, 111, 114, 58, 32, 105, 110, 104, 101, 114, 105, 116, 59, 32, 116, 101, 120, 116, 45, 100, 101, 99, 111, 114, 97, 116, 105, 111, 110, 58, 32, 110, 111, 110, 101, 59, 32, 125, 10]
def k5 : List UInt8 := [97, 58, 104, 111, 118, 101, 114, 32, 123, 32, 116, 101, 120, 116, 45, 100, 101, 99, 111, 114, 97, 116, 105, 111, 110, 58, 32, 117, 110, 100, 101, 114, 108, 105, 110, 101, 59, 32, 125, 10]
def k6 : List UInt8 := [97, 58, 118, 105, 115, 105, 116, 101, 100, 32, 123, 32, 99, 111, 108, 111, 114, 58, 32, 35, 55, 55, 55, 59, 32, 125, 10]
def k7 : List UInt8 := [64, 109, 101, 100, 105, 97, 32, 40, 112, 114, 101, 102, 101, 114, 115, 45, 99, 111, 108, 111, 114, 45, 115, 99, 104, 101, 109, 101, 58, 32, 100, 97, 114, 107, 41, 32, 123, 10]
def k8 : List UInt8 := [32, 32, 98, 111, 100, 121, 32, 123, 32, 99, 111, 108, 111, 114, 58, 32, 35, 102, 102, 102, 59, 32, 98, 97, 99, 107, 103, 114, 111, 117, 110, 100, 58, 32, 35, 50, 50, 50, 59, 32, 125, 10]
def k9 : List UInt8 := [32, 32, 97, 58, 118, 105, 115, 105, 116, 101, 100, 32, 123, 32, 99, 111, 108, 111, 114, 58, 32, 35, 97, 97, 97, 59, 32, 125, 10]
def k10 : List UInt8 := [125, 10]
def k11 : List UInt8 := [60, 47, 115, 116, 121, 108, 101, 62, 10]
def k12 : List UInt8 := [60, 116, 105, 116, 108, 101, 62, 68, 105, 114, 101, 99, 116, 111, 114, 121, 58, 32]
def k13 : List UInt8 := [60, 47, 116, 105, 116, 108, 101, 62, 10]
def k14 : List UInt8 := [60, 104, 49, 62, 68, 105, 114, 101, 99, 116, 111, 114, 121, 58, 32]
def k15 : List UInt8 := [60, 97, 32, 104, 114, 101, 102, 61, 34]
def k16 : List UInt8 := [47, 34, 62]
def k17 : List UInt8 := [47]
def k18 : List UInt8 := [60, 47, 97, 62]
def k19 : List UInt8 := [60, 47, 104, 49, 62, 10]
def d0 : List UInt8 := [60, 100, 105, 118, 62, 240, 159, 147, 129, 32, 60, 97, 32, 104, 114, 101, 102, 61, 34]
def p1 : List UInt8 := [34, 62, 46, 46, 47, 60, 47, 97, 62, 60, 47, 100, 105, 118, 62, 10]
def d1 : List UInt8 := [47, 34, 62]
def d2 : List UInt8 := [47, 60, 47, 97, 62, 60, 47, 100, 105, 118, 62, 10]
def f0 : List UInt8 := [60, 100, 105, 118, 62, 240, 159, 147, 132, 32, 60, 97, 32, 104, 114, 101, 102, 61, 34]
def f1 : List UInt8 := [34, 62]
def f2 : List UInt8 := [60, 47, 97, 62, 60, 47, 100, 105, 118, 62, 10]

def top (q : List UInt8) : List UInt8 := k0 ++ k1 ++ k2 ++ k3 ++ k4 ++ k5 ++ k6 ++ k7 ++ k8 ++ k9 ++ k10 ++ k11 ++ k12 ++ esc false (if q = [] then [47] else 47 :: q ++ [47]) ++ k13 ++ k14
def parts (q : List UInt8) : List (List UInt8) := if q = [] then [[]] else Lib.Pa.els (47 :: q)
def partOut (ps : List (List UInt8)) (i : Nat) : List UInt8 :=
  (if i + 1 < ps.length then k15 ++ esc true (Lib.join (ps.take (i + 1)) [47]) ++ k16 else []) ++ esc false (ps.getD i []) ++ k17 ++ (if i + 1 < ps.length then k18 else [])
def partsOut (ps : List (List UInt8)) (k : Nat) : List UInt8 := (List.range k).flatMap (partOut ps)
def parent (q : List UInt8) : List UInt8 := if Lib.Pa.dir (47 :: q) = [47] then [47] else Lib.Pa.dir (47 :: q) ++ [47]
def lineP (x : List UInt8) : List UInt8 := d0 ++ x ++ p1
def lineD2 (x y : List UInt8) : List UInt8 := d0 ++ x ++ d1 ++ y ++ d2
def lineF2 (x y : List UInt8) : List UInt8 := f0 ++ x ++ f1 ++ y ++ f2
def up (q : List UInt8) : List UInt8 := if q = [] then [] else lineP (esc true (parent q))
def headL (q : List UInt8) : List UInt8 := top q ++ partsOut (parts q) (parts q).length ++ k19 ++ up q
def lineD (q e : List UInt8) : List UInt8 := lineD2 (esc true (Lib.Pa.joinL [47 :: q, e])) (esc false e)
def lineF (q e : List UInt8) : List UInt8 := lineF2 (esc true (Lib.Pa.joinL [47 :: q, e])) (esc false e)
def page (q : List UInt8) (ds fs : List (List UInt8)) : List UInt8 := headL q ++ ds.flatMap (lineD q) ++ fs.flatMap (lineF q)

/-! ### Lengths -/
theorem joinL_le (q e : List UInt8) : (Lib.Pa.joinL [47 :: q, e]).length ≤ q.length + e.length + 3 := by
  have := Lib.Pa.joinL_length_le [47 :: q, e]
  simp only [Lib.Pa.lens, List.map_cons, List.map_nil, List.sum_cons, List.sum_nil, List.length_cons, List.length_nil] at this
  omega
theorem lineD_le (q e : List UInt8) (h : q.length + e.length + 16 ≤ 1048576) : (lineD q e).length ≤ 16777216 := by
  have h1 := esc_length true (Lib.Pa.joinL [47 :: q, e])
  have h2 := esc_length false e
  have h3 := joinL_le q e
  simp only [lineD, lineD2, d0, d1, d2, List.length_append, List.length_cons, List.length_nil]
  omega
theorem lineF_le (q e : List UInt8) (h : q.length + e.length + 16 ≤ 1048576) : (lineF q e).length ≤ 16777216 := by
  have h1 := esc_length true (Lib.Pa.joinL [47 :: q, e])
  have h2 := esc_length false e
  have h3 := joinL_le q e
  simp only [lineF, lineF2, f0, f1, f2, List.length_append, List.length_cons, List.length_nil]
  omega
theorem flat_le {α : Type} (f : α → List UInt8) (M : Nat) : ∀ ks : List α, (∀ k ∈ ks, (f k).length ≤ M) → (ks.flatMap f).length ≤ ks.length * M
  | [], _ => by simp
  | k :: r, h => by
    rw [List.flatMap_cons, List.length_append, List.length_cons, Nat.add_mul, Nat.one_mul]
    have h1 := h k (by simp)
    have h2 := flat_le f M r (fun x hx => h x (by simp [hx]))
    omega
theorem top_le (q : List UInt8) (h : q.length ≤ 4096) : (top q).length ≤ 32768 := by
  have h1 := esc_length false (if q = [] then [47] else 47 :: q ++ [47])
  have h2 : (if q = [] then [47] else 47 :: q ++ [47] : List UInt8).length ≤ q.length + 2 := by
    split
    · simp
    · simp
  unfold top
  generalize hz : (if q = [] then [47] else 47 :: q ++ [47] : List UInt8) = z at h1 h2 ⊢
  simp only [k0, k1, k2, k3, k4, k5, k6, k7, k8, k9, k10, k11, k12, k13, k14, List.length_append, List.length_cons, List.length_nil]
  omega
theorem parts_sum (q : List UInt8) : Lib.lens (parts q) + (parts q).length ≤ q.length + 2 := by
  unfold parts
  split
  · simp [Lib.lens]
  · have := els_sum (47 :: q)
    rw [List.length_cons] at this
    omega
theorem parts_pos (q : List UInt8) : 0 < (parts q).length := by
  unfold parts
  split
  · simp
  · exact List.length_pos_iff.2 (els_ne _)
theorem join_take_le (ps : List (List UInt8)) (i : Nat) : (Lib.join (ps.take i) [47]).length ≤ Lib.lens ps + ps.length := by
  have h1 := join_le (ps.take i)
  have h2 := Lib.lens_take_le ps i
  have h3 : (ps.take i).length ≤ ps.length := by rw [List.length_take]; omega
  omega
theorem getD_le (ps : List (List UInt8)) (i : Nat) : (ps.getD i []).length ≤ Lib.lens ps := by
  rw [List.getD_eq_getElem?_getD]
  cases h : ps[i]? with
  | none => simp
  | some x => exact lens_get ps i x h
theorem partOut_le (ps : List (List UInt8)) (i : Nat) (h : Lib.lens ps + ps.length ≤ 4098) : (partOut ps i).length ≤ 65536 := by
  have h1 := esc_length true (Lib.join (ps.take (i + 1)) [47])
  have h2 := join_take_le ps (i + 1)
  have h3 := esc_length false (ps.getD i [])
  have h4 := getD_le ps i
  unfold partOut
  split <;> simp only [k15, k16, k17, k18, List.length_append, List.length_cons, List.length_nil] <;> omega
theorem partsOut_le (ps : List (List UInt8)) (h : Lib.lens ps + ps.length ≤ 4098) (k : Nat) (hk : k ≤ ps.length) : (partsOut ps k).length ≤ 268566528 := by
  have := flat_le (partOut ps) 65536 (List.range k) (fun i _ => partOut_le ps i h)
  rw [List.length_range] at this
  unfold partsOut
  omega
theorem partsOut_succ (ps : List (List UInt8)) (k : Nat) : partsOut ps (k + 1) = partsOut ps k ++ partOut ps k := by
  unfold partsOut
  rw [List.range_succ, List.flatMap_append]
  simp
theorem dir_le (q : List UInt8) : (Lib.Pa.dir (47 :: q)).length ≤ q.length + 2 := by
  have h1 := Lib.Pa.clean_length_le_succ (Lib.Pa.split (47 :: q)).1
  have h2 := Lib.Pa.split_fst_le (47 :: q)
  rw [List.length_cons] at h2
  unfold Lib.Pa.dir
  omega
theorem parent_le (q : List UInt8) : (parent q).length ≤ q.length + 3 := by
  have h1 := dir_le q
  unfold parent
  split
  · simp
  · rw [List.length_append, List.length_cons, List.length_nil]; omega
theorem up_le (q : List UInt8) (h : q.length ≤ 4096) : (up q).length ≤ 32768 := by
  have h1 := esc_length true (parent q)
  have h2 := parent_le q
  unfold up
  split
  · simp
  · simp only [lineP, d0, p1, List.length_append, List.length_cons, List.length_nil]; omega
theorem headL_le (q : List UInt8) (h : q.length ≤ 4096) : (headL q).length ≤ 536870912 := by
  have h1 := top_le q h
  have h2 := parts_sum q
  have h3 := partsOut_le (parts q) (by omega) _ (Nat.le_refl _)
  have h4 := up_le q h
  simp only [headL, k19, List.length_append, List.length_cons, List.length_nil]
  omega

/-! ### How many tags -/
theorem count_esc (q : Bool) (l : List UInt8) (c : UInt8) (h : ∀ b, c ∉ ent q b) : (esc q l).count c = 0 := List.count_eq_zero.2 (esc_no q c h l)
theorem lineD_lt (q e : List UInt8) : (lineD q e).count 60 = 4 := by
  have h1 := count_esc true (Lib.Pa.joinL [47 :: q, e]) 60 (no60 true)
  have h2 := count_esc false e 60 (no60 false)
  simp only [lineD, lineD2, List.count_append, h1, h2]
  decide
theorem lineD_gt (q e : List UInt8) : (lineD q e).count 62 = 4 := by
  have h1 := count_esc true (Lib.Pa.joinL [47 :: q, e]) 62 (no62 true)
  have h2 := count_esc false e 62 (no62 false)
  simp only [lineD, lineD2, List.count_append, h1, h2]
  decide
theorem lineF_lt (q e : List UInt8) : (lineF q e).count 60 = 4 := by
  have h1 := count_esc true (Lib.Pa.joinL [47 :: q, e]) 60 (no60 true)
  have h2 := count_esc false e 60 (no60 false)
  simp only [lineF, lineF2, List.count_append, h1, h2]
  decide
theorem lineF_gt (q e : List UInt8) : (lineF q e).count 62 = 4 := by
  have h1 := count_esc true (Lib.Pa.joinL [47 :: q, e]) 62 (no62 true)
  have h2 := count_esc false e 62 (no62 false)
  simp only [lineF, lineF2, List.count_append, h1, h2]
  decide
theorem flat_count {α : Type} (f : α → List UInt8) (c : UInt8) (m : Nat) (h : ∀ k, (f k).count c = m) : ∀ ks : List α, (ks.flatMap f).count c = m * ks.length
  | [] => by simp
  | k :: r => by
    rw [List.flatMap_cons, List.count_append, h, flat_count f c m h r, List.length_cons, Nat.mul_add]
    omega
theorem page_count (q : List UInt8) (ds fs : List (List UInt8)) (c : UInt8) (hc : c = 60 ∨ c = 62) : (page q ds fs).count c = (headL q).count c + 4 * (ds.length + fs.length) := by
  have h1 : ∀ e, (lineD q e).count c = 4 := by
    intro e
    rcases hc with rfl | rfl
    · exact lineD_lt q e
    · exact lineD_gt q e
  have h2 : ∀ e, (lineF q e).count c = 4 := by
    intro e
    rcases hc with rfl | rfl
    · exact lineF_lt q e
    · exact lineF_gt q e
  rw [page, List.count_append, List.count_append, flat_count _ c 4 h1, flat_count _ c 4 h2]
  omega

end Go.Proofs.YtpjpdeecpobmlaaFmt
