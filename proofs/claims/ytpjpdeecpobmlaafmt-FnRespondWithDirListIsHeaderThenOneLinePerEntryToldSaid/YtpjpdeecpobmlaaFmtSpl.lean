/-
  The contract of zzSplit at a slash; conditions: the text's size.
-/
import Derived.Test.YtpjpdeecpobmlaaFmtIdx
import Derived.Test.YtpjpdeecpobmlaaFmtPge
import Derived.Test.YtpjpdeecpobmlaaFmtRowIn
import Derived.Test.YtpjpdeecpobmlaaFmtRow
import Derived.OwnWalk
import Derived.Deep.AppendLies
import Derived.Deep.LoopGhost
namespace Go.Proofs.YtpjpdeecpobmlaaFmt
open Go.RowKit

theorem owns_in {w : World} {B : Nat} {e : TypeId} {v : Value} {m : Nat} {xs : List Value} (h : w.ownsRow B e 1 v m xs) : ∃ A cap, v = .slice A m cap ∧ InRow w A m cap xs := by
  obtain ⟨hl, ⟨rfl, rfl⟩ | ⟨g, cap, cur, rfl, _, hg, hn, hm, hs, ht⟩⟩ := h
  · exact ⟨none, 0, rfl, .inl ⟨rfl, rfl, rfl, List.eq_nil_of_length_eq_zero (by omega)⟩⟩
  · refine ⟨_, _, rfl, .inr ⟨_, rfl, hn, hm, by omega, fun i u hu => ?_⟩⟩
    have hi : i < m := by have := (List.getElem?_eq_some_iff.1 hu).1; omega
    have e : (⟨g, 0, none⟩ : Addr).add i = ⟨g, i, none⟩ := by
      unfold Addr.add
      split
      · next h0 => rw [h0]
      · simp
    rw [e, cell_of_row w g i cur _ (0, 0) hg, ← Array.getElem?_toList]
    rw [← ht, List.getElem?_take] at hu
    split at hu
    · exact hu
    · cases hu
theorem own_lt {w : World} {base e size : Nat} {v : Value} {n : Nat} {xs : List Value} (h : w.ownsRow base e size v n xs) : ∀ k, v.ownBlock = some k → base ≤ k := by
  intro k hk
  rcases h.2 with ⟨rfl, _⟩ | ⟨g, cap, cur, rfl, hb, _⟩
  · cases hk
  · cases hk
    exact hb
theorem one_at (w : World) (v : Value) (t : TypeId) : ∀ j u, [v][j]? = some u → (w.alloc (.cells #[v] t)).cell? ((⟨w.heap.size, 0, none⟩ : Addr).add j) = some u := by
  intro j u hu
  cases j with
  | zero =>
    have : v = u := by simpa using hu
    subst this
    rw [show (⟨w.heap.size, 0, none⟩ : Addr).add 0 = ⟨w.heap.size, 0, none⟩ by simp [Addr.add]]
    go_simp
  | succ j => simp at hu
theorem info9 : (Tryf.prog.info? 9).map (fun i => (i.zero, i.size, i.bytes)) = some (some (.string ⟨#[]⟩), 1, 16) := by kernel_rfl
def sv (ks : List (List UInt8)) : List Value := ks.map fun l => .string (S l)
theorem sv_append (a b : List (List UInt8)) : sv (a ++ b) = sv a ++ sv b := by simp [sv]
theorem sv_length (a : List (List UInt8)) : (sv a).length = a.length := by simp [sv]
def SplitEnd (l : (List UInt8)) (w : World) (e : Ending) (w' : World) : Prop := ∃ g cap, e = .returned (.slice (some ⟨g, 0, none⟩) (Lib.Pa.els l).length cap) ∧ w'.ownsRow w.heap.size 9 1 (.slice (some ⟨g, 0, none⟩) (Lib.Pa.els l).length cap) (Lib.Pa.els l).length (sv (Lib.Pa.els l)) ∧ Below w.heap.size w w'
/-- The loop of zzSplit. -/
def SplRel (s : ByteArray) (w : World) (gk : Nat) (s0 s5 : Value) (wx : World) : Prop :=
  ∃ (r : ByteArray) (L : List (List UInt8)), s0 = .string r ∧ wx.ownsRow w.heap.size 9 1 s5 L.length (sv L) ∧ Below w.heap.size w wx ∧ gk = r.size ∧ L ++ Lib.Pa.els r.data.toList = Lib.Pa.els s.data.toList ∧ L.length + r.size ≤ s.size
def spB : ByteArray := ⟨#[47]⟩

set_option maxHeartbeats 4000000 in
set_option maxRecDepth 100000 in
theorem zzSplit_any (s : ByteArray) (hs : s.size ≤ 4194304) (w : World) : Calls Tryf.prog 16 #[.string s, .string ⟨#[47]⟩] w (SplitEnd s.data.toList w) := by
  obtain ⟨i0, hi, hz0, hz1, hz2⟩ := info_parts info9
  have HI := Lib.hid (And.intro hi (And.intro hz0 (And.intro hz1 hz2)))
  clear hi hz0 hz1 hz2
  go_enter Tryf.func16, Tryf.ntmps16
  go_wp2_with fail
  go_loopg [0, 5] s.size (fun gk s0 s5 wx => SplRel s w gk s0 s5 wx)
  case atStart => exact ⟨s, [], rfl, ⟨by simp [sv], .inl ⟨rfl, rfl⟩⟩, Below.refl _ _, rfl, rfl, by simp⟩
  case round =>
    obtain ⟨r, L, rfl, hown, hbw, rfl, hL, hlen⟩ := hrel
    have hsz := hbw.size
    have hdat : (⟨#[47]⟩ : ByteArray).data.toList = [47] := rfl
    have hsub : (⟨#[47]⟩ : ByteArray).size = 1 := rfl
    rcases index1 47 r.data.toList with ⟨he, hno⟩ | ⟨a, b, he, hno, hix⟩
    · have hix : Lib.indexB r ⟨#[47]⟩ = -1 := he
      have hC := index_no r ⟨#[47]⟩ wr (by omega) (by decide) (by decide) hix
      rw [els_none _ hno] at hL
      have HR := Lib.hid (And.intro hown (And.intro hbw (And.intro hL hC)))
      clear hown hbw hL hC hix he hno hdat hsub
      go_wp2_with fail
      refine HR.out.2.2.2.mono ?_
      rintro e w1 ⟨rfl, rfl⟩
      go_wp2_with (at_builtin; refine wpList_append_own _ rfl _ _ 22 rfl w.heap.size 9 i0 (.string ⟨#[]⟩) 1 16 Tryf.underlying22 HI.out.1 HI.out.2.1 HI.out.2.2.1 HI.out.2.2.2 rfl (by decide) _ _ _ rfl (HR.out.1.alloc _) ⟨wr.heap.size, 0, none⟩ 1 1 [.string r] rfl rfl (one_at _ _ _) (fun u hu => by rw [List.mem_singleton] at hu; subst hu; rfl) (by unfold maxLen; omega) (by omega) (by simp; omega) ?_; intro v' w2 hown' hgrow _)
      have hown2 : w2.ownsRow w.heap.size 9 1 v' (Lib.Pa.els s.data.toList).length (sv (Lib.Pa.els s.data.toList)) := by
        rw [← HR.out.2.2.1, List.length_append, sv_append, show sv [r.data.toList] = [.string r] by simp [sv, S_L]]
        exact hown'
      have hb2 := (HR.out.2.1.alloc hsz (.cells #[.string r] 9)).grown hgrow (by simp; omega) (fun j hj => own_lt HR.out.1 j hj)
      obtain ⟨A, cap, rfl, _, _⟩ := hown2.form (List.length_pos_iff.2 (els_ne _))
      have HX := Lib.hid (And.intro hown2 hb2)
      clear hown' hown2 hgrow hb2
      go_ret
      exact ⟨A, cap, rfl, HX.out.1, HX.out.2⟩
    · have hix2 : Lib.indexB r ⟨#[47]⟩ = (a.length : Int) := hix
      have hC := index_at r ⟨#[47]⟩ a.length wr (by omega) (by decide) (by decide) hix2
      have hrl : r.size = a.length + 1 + b.length := by rw [Lib.size_eq, he]; simp; omega
      have hra : r.extract 0 a.length = S a := by rw [extract_S, he]; simp
      have hrb : r.extract (a.length + 1) r.size = S b := by
        rw [extract_S, he, show a ++ 47 :: b = (a ++ [47]) ++ b by simp, List.drop_left' (by simp), List.take_of_length_le (by omega)]
      rw [he, els_cut a b hno] at hL
      have hbs : (S b).size = b.length := S_size b
      obtain ⟨k, hk⟩ : ∃ k, a.length = k := ⟨_, rfl⟩
      rw [hk] at hC hrl hra hrb
      have HR := Lib.hid (And.intro hown (And.intro hbw (And.intro hL (And.intro hC (And.intro hra hrb)))))
      clear hown hbw hL hC hix hix2 he hno hdat hsub hra hrb hk
      go_wp2_with fail
      refine HR.out.2.2.2.1.mono ?_
      rintro e w1 ⟨rfl, rfl⟩
      go_wp2_with (at_builtin; refine wpList_append_own _ rfl _ _ 22 rfl w.heap.size 9 i0 (.string ⟨#[]⟩) 1 16 Tryf.underlying22 HI.out.1 HI.out.2.1 HI.out.2.2.1 HI.out.2.2.2 rfl (by decide) _ _ _ rfl (HR.out.1.alloc _) ⟨wr.heap.size, 0, none⟩ 1 1 [.string (r.extract 0 k)] rfl rfl (one_at _ _ _) (fun u hu => by rw [List.mem_singleton] at hu; subst hu; rfl) (by unfold maxLen; omega) (by omega) (by simp; omega) ?_; intro v' w2 hown' hgrow _)
      have hown2 : w2.ownsRow w.heap.size 9 1 v' (L ++ [a]).length (sv (L ++ [a])) := by
        rw [List.length_append, sv_append, show sv [a] = [.string (r.extract 0 k)] by rw [HR.out.2.2.2.2.1]; rfl]
        exact hown'
      have hb2 := (HR.out.2.1.alloc hsz (.cells #[.string (r.extract 0 k)] 9)).grown hgrow (by simp; omega) (fun j hj => own_lt HR.out.1 j hj)
      have HX := Lib.hid (And.intro hown2 hb2)
      clear hown' hown2 hgrow hb2
      go_wp2_with fail
      have hrb := HR.out.2.2.2.2.2
      rw [hrl] at hrb
      rw [hrb]
      go_roundg b.length
      case measure => omega
      case rel => exact ⟨S b, L ++ [a], rfl, HX.out.1, HX.out.2, hbs.symm, by rw [S_data, List.append_assoc]; exact HR.out.2.2.1, by rw [List.length_append, hbs]; simp; omega⟩

end Go.Proofs.YtpjpdeecpobmlaaFmt
