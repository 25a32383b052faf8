/-
  The walk of FnFileInAncestorKeepsAncestor; conditions: what the listed tables hold.
-/
import Derived.Test.YtcpaepfhjhcaoaaDoorWalkA
namespace Go.Proofs.YtcpaepfhjhcaoaaDoor
open Go.RowKit

/-- The entries' cells in a row. -/
def entFlat : List (ByteArray × Bool) → List Value
  | [] => []
  | p :: r => .string p.1 :: .int .u32 0 :: .bool p.2 :: entFlat r
theorem entFlat_get : ∀ (es : List (ByteArray × Bool)) (i : Nat), (entFlat es)[i]? = es[i / 3]?.map fun p => if i % 3 = 0 then Value.string p.1 else if i % 3 = 1 then .int .u32 0 else .bool p.2
  | [], i => by simp [entFlat]
  | p :: r, 0 => rfl
  | p :: r, 1 => rfl
  | p :: r, 2 => rfl
  | p :: r, i + 3 => by
    have e1 : (i + 3) / 3 = i / 3 + 1 := by omega
    have e2 : (i + 3) % 3 = i % 3 := by omega
    rw [e1, e2, List.getElem?_cons_succ]
    exact entFlat_get r i
theorem entFlat_append : ∀ a b : List (ByteArray × Bool), entFlat (a ++ b) = entFlat a ++ entFlat b
  | [], _ => rfl
  | p :: a, b => by rw [List.cons_append, entFlat, entFlat, entFlat_append a b]; rfl
theorem entFlat_len : ∀ a : List (ByteArray × Bool), (entFlat a).length = a.length * 3
  | [] => rfl
  | p :: a => by rw [entFlat, List.length_cons, List.length_cons, List.length_cons, entFlat_len a, List.length_cons]; omega
theorem own_ent {w : World} {g n c : Nat} {f : Nat → ByteArray × Bool} (h : Row w g 36 (c * 3) (entF f n)) (hn : n ≤ c) (hc : c ≤ maxLen) (es : List (ByteArray × Bool)) (hl : es.length = n) (hf : ∀ i p, es[i]? = some p → f i = p) :
    w.ownsRow g 36 3 (.slice (some ⟨g, 0, none⟩) n c) n (entFlat es) := by
  obtain ⟨cs, h1, h2, h3⟩ := h
  refine ⟨by rw [entFlat_len, hl], .inr ⟨g, c, cs, rfl, Nat.le_refl _, h1, hn, hc, h2, ?_⟩⟩
  apply List.ext_getElem?
  intro i
  rw [entFlat_get]
  by_cases hi : i < n * 3
  · rw [List.getElem?_take_of_lt hi, Array.getElem?_toList, h3 i (by omega)]
    have hd : i / 3 < es.length := by omega
    rw [List.getElem?_eq_getElem hd, Option.map_some]
    have hff := hf (i / 3) _ (List.getElem?_eq_getElem hd)
    have h3 : i / 3 < n := by omega
    unfold entF
    simp only [if_pos h3, hff]
  · rw [List.getElem?_eq_none (by rw [List.length_take]; omega), List.getElem?_eq_none (by omega)]
    rfl
theorem head_add (g i : Nat) : (⟨g, 0, none⟩ : Addr).add i = ⟨g, i, none⟩ := by
  unfold Addr.add
  split
  · next h0 => rw [h0]
  · simp
theorem ent_own {w : World} {g n c base : Nat} {es : List (ByteArray × Bool)} (h : w.ownsRow base 36 3 (.slice (some ⟨g, 0, none⟩) n c) n (entFlat es)) : EntRow w g es := by
  intro i p hp
  have key : ∀ r, r < 3 → w.cell? ⟨g, i * 3 + r, none⟩ = some (if r = 0 then Value.string p.1 else if r = 1 then .int .u32 0 else .bool p.2) := by
    intro r hr
    rw [← head_add]
    refine h.cells (g := g) rfl (i * 3 + r) _ ?_
    rw [entFlat_get, show (i * 3 + r) / 3 = i by omega, show (i * 3 + r) % 3 = r by omega, hp]
    rfl
  exact ⟨key 0 (by omega), key 1 (by omega), key 2 (by omega)⟩
theorem three_at (w : World) (a b c : Value) (t : TypeId) : ∀ j u, [a, b, c][j]? = some u → (w.alloc (.cells #[a, b, c] t)).cell? ((⟨w.heap.size, 0, none⟩ : Addr).add j) = some u := by
  intro j u hu
  rw [head_add]
  match j, hu with
  | 0, hu => simp at hu; subst hu; go_simp
  | 1, hu => simp at hu; subst hu; go_simp
  | 2, hu => simp at hu; subst hu; go_simp
  | j + 3, hu => simp at hu
theorem autos_append (a b : List (ByteArray × Bool)) : autos (a ++ b) = autos a ++ autos b := by
  unfold autos
  rw [List.filter_append, List.map_append]

/-- A path that lies in a directory. -/
theorem T_snoc2 (l : List Bs) (x : Bs) : T (l ++ [x]) = T l ++ 47 :: x := by
  rw [T_append, T, T, List.append_nil]
def zzJs : Bs := [122, 122, 46, 106, 115]
theorem zz_comp : Comp zzJs := by
  refine ⟨by decide, by decide, by decide, ?_⟩
  intro c hc
  unfold zzJs at hc
  simp at hc
  rcases hc with rfl | rfl | rfl | rfl <;> decide
theorem low0_shape {ps : List ByteArray} (h : ∀ p ∈ ps, Comps (cmp p.data.toList)) (hne : ps ≠ []) : ∃ L, Comps L ∧ low0 ps = D L ∧ ∀ c : ByteArray, dirC c = L → low0 (ps ++ [c]) = D L := by
  cases ps with
  | nil => exact absurd rfl hne
  | cons p r =>
    refine ⟨cutAll (dirC p) (r.map dirC), ?_, rfl, ?_⟩
    · refine comps_cut (h p (by simp)).dropLast (fun d hd => ?_)
      obtain ⟨x, hx, rfl⟩ := List.mem_map.1 hd
      exact (h x (List.mem_cons_of_mem _ hx)).dropLast
    · intro c hc
      show D (cutAll (dirC p) ((r ++ [c]).map dirC)) = _
      rw [List.map_append]
      show D (cutAll (dirC p) (r.map dirC ++ [dirC c])) = _
      rw [cutAll_snoc, hc, lc_self, List.take_length]
theorem child_data {L : List Bs} (c : ByteArray) (hL : Comps L) (hc : c.data.toList = T (L ++ [zzJs])) : CleanP c.data.toList ∧ dirC c = L := by
  have h1 : Comps (L ++ [zzJs]) := by
    intro x hx
    rcases List.mem_append.1 hx with hx | hx
    · exact hL x hx
    · obtain rfl : x = zzJs := by simpa using hx
      exact zz_comp
  have h2 : c.data.toList = D (L ++ [zzJs]) := by rw [hc, D_T (by simp)]
  refine ⟨⟨_, h1, h2⟩, ?_⟩
  unfold dirC
  rw [h2, cmp_D h1, List.dropLast_concat]
theorem child_root (L : List Bs) (h : L = []) : (⟨#[47, 122, 122, 46, 106, 115]⟩ : ByteArray).data.toList = T (L ++ [zzJs]) := by
  subst h
  rfl
theorem child_in (L : List Bs) (h : L ≠ []) : (S (D L) ++ (⟨#[47, 122, 122, 46, 106, 115]⟩ : ByteArray)).data.toList = T (L ++ [zzJs]) := by
  rw [ByteArray.data_append, Array.toList_append, S_data, D_T h, T_snoc2]
  rfl
end Go.Proofs.YtcpaepfhjhcaoaaDoor
