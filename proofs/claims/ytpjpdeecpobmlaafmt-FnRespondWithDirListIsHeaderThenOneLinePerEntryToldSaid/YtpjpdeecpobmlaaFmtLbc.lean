/-
  The library's contracts as the listing page meets them; conditions: the sizes that each names.
-/
import Derived.Test.YtpjpdeecpobmlaaFmtShelf
import Derived.Test.YtpjpdeecpobmlaaFmtPrw
namespace Go.Proofs.YtpjpdeecpobmlaaFmt
open Go.RowKit Go.Maps Go.Sort

theorem join_any (ps : List (List UInt8)) (g m cap : Nat) (w : World) (hm : m ≤ ps.length) (hcap : m ≤ cap) (hS : SRow w g ps) (hz : Lib.lens ps + ps.length ≤ 8192) :
    Calls Tryf.prog 18 #[.slice (some ⟨g, 0, none⟩) m cap, .string ⟨#[47]⟩] w fun e w' => e = .returned (.string (S (Lib.join (ps.take m) [47]))) ∧ Below w.heap.size w w' := by
  have hl : ((ps.take m).map S).length = m := by rw [List.length_map, List.length_take]; omega
  have hd : ((ps.take m).map S).map (·.data.toList) = ps.take m := by
    rw [List.map_map]
    conv => rhs; rw [← List.map_id (ps.take m)]
    apply List.map_congr_left
    intro x _
    exact S_data x
  have h := Tryf.strings_Join g 0 cap ((ps.take m).map S) ⟨#[47]⟩ w (by
    intro j x hx
    rw [List.getElem?_map, Option.map_eq_some_iff] at hx
    obtain ⟨y, hy, rfl⟩ := hx
    have hj := (List.getElem?_eq_some_iff.1 hy).1
    rw [List.length_take] at hj
    rw [List.getElem?_take_of_lt (by omega)] at hy
    rw [Nat.zero_add]
    exact hS.cell hy) hS.lt (by rw [hl]; omega) (by rw [hl]; exact hcap) (by
    rw [hd]
    have := join_take_le ps m
    show (Lib.join (ps.take m) [47]).length ≤ _
    omega)
  rw [hl, hd] at h
  exact h
theorem dir_any (s : ByteArray) (w : World) (h : s.size ≤ 1048576) : Calls Tryf.prog 19 #[.string s] w fun e w' => e = .returned (.string (S (Lib.Pa.dir s.data.toList))) ∧ Below w.heap.size w w' :=
  Tryf.path_Dir s w (by omega)
theorem sorts_any (g off cap : Nat) (ss : List (List UInt8)) (w : World) (hH : Holds encStr w g off ss.toArray) (hg : g < w.heap.size) (hsz : ss.length < 4611686018427387904) :
    Calls Tryf.prog 21 #[.slice (some ⟨g, off, none⟩) ss.length cap] w fun e w' => e = .returned (.tuple #[]) ∧ ∃ n os, w' = grow (putRow encStr (Sort.ahead w n) g off (ss.mergeSort fun x y => decide (x ≤ y)).toArray) os :=
  Tryf.sort_Strings g off cap ss w hH hg hsz
theorem pjoin_two (p x : ByteArray) (w : World) (h : p.size + x.size + 2 ≤ 281474976710656) :
    Calls Tryf.prog 22 #[.slice (some ⟨w.heap.size, 0, none⟩) 2 2] (w.alloc (.cells #[.string p, .string x] 9)) fun e w' => e = .returned (.string (S (Lib.Pa.joinL [p.data.toList, x.data.toList]))) ∧ Below w.heap.size w w' := by
  refine (Tryf.path_Join w.heap.size 0 2 [p, x] (w.alloc (.cells #[.string p, .string x] 9)) ?_ (by simp) ?_).mono ?_
  · intro j y hy
    rw [Nat.zero_add]
    match j, hy with
    | 0, hy =>
      have : p = y := by simpa using hy
      subst this
      go_simp
    | 1, hy =>
      have : x = y := by simpa using hy
      subst this
      go_simp
    | j + 2, hy => simp at hy
  · simp only [List.map_cons, List.map_nil, Lib.Pa.lens, List.sum_cons, List.sum_nil, List.length_cons, List.length_nil]
    rw [← Lib.size_eq, ← Lib.size_eq]
    omega
  · rintro e w' ⟨he, hb⟩
    exact ⟨he, ((Below.refl w.heap.size w).alloc (Nat.le_refl _) _).trans (hb.mono (by simp))⟩
theorem bstr_any (B b : Nat) (l : List UInt8) (w : World) (h : Bld B b l w) (hs : B ≤ w.heap.size) : Calls Tryf.prog 23 #[.pointer (some ⟨b, 0, none⟩)] w fun e w' => e = .returned (.string (S l)) ∧ Below B w w' :=
  Tryf.Builder_String_any B b l w h hs

end Go.Proofs.YtpjpdeecpobmlaaFmt
