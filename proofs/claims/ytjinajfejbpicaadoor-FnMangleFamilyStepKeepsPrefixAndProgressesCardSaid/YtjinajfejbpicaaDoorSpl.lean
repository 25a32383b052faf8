/-
  The contracts of zzSplit at a space and of the model's splitOnSpace; conditions: the text's size.
-/
import Derived.Test.YtjinajfejbpicaaDoorIdx
import Derived.Test.YtjinajfejbpicaaDoorFam
import Derived.Test.YtjinajfejbpicaaDoorRowIn
import Derived.Test.YtjinajfejbpicaaDoorRow
import Derived.OwnWalk
import Derived.Deep.AppendLies
import Derived.Deep.LoopGhost
namespace Go.Proofs.YtjinajfejbpicaaDoor
open Go.RowKit

theorem owns_in {w : World} {B : Nat} {e : TypeId} {v : Value} {m : Nat} {xs : List Value} (h : w.ownsRow B e 1 v m xs) : ∃ A cap, v = .slice A m cap ∧ InRow w A m cap xs := by
  obtain ⟨hl, ⟨rfl, rfl⟩ | ⟨g, cap, cur, rfl, _, hg, hn, hm, hs, ht⟩⟩ := h
  · exact ⟨none, 0, rfl, .inl ⟨rfl, rfl, rfl, List.eq_nil_of_length_eq_zero (by omega)⟩⟩
  · refine ⟨_, _, rfl, .inr ⟨_, rfl, hn, hm, by omega, fun i u hu => ?_⟩⟩
    have hi : i < m := by have := (List.getElem?_eq_some_iff.1 hu).1; omega
    have e : (⟨g, 0, none⟩ : Addr).add i = ⟨g, i, none⟩ := by
      unfold Addr.add
      split
      · next h0 => rw [h0]
      · simp
    rw [e, cell_of_row w g i cur _ (0, 0) hg, ← Array.getElem?_toList]
    rw [← ht, List.getElem?_take] at hu
    split at hu
    · exact hu
    · cases hu
theorem own_lt {w : World} {base e size : Nat} {v : Value} {n : Nat} {xs : List Value} (h : w.ownsRow base e size v n xs) : ∀ k, v.ownBlock = some k → base ≤ k := by
  intro k hk
  rcases h.2 with ⟨rfl, _⟩ | ⟨g, cap, cur, rfl, hb, _⟩
  · cases hk
  · cases hk
    exact hb
theorem one_at (w : World) (v : Value) (t : TypeId) : ∀ j u, [v][j]? = some u → (w.alloc (.cells #[v] t)).cell? ((⟨w.heap.size, 0, none⟩ : Addr).add j) = some u := by
  intro j u hu
  cases j with
  | zero =>
    have : v = u := by simpa using hu
    subst this
    rw [show (⟨w.heap.size, 0, none⟩ : Addr).add 0 = ⟨w.heap.size, 0, none⟩ by simp [Addr.add]]
    go_simp
  | succ j => simp at hu
theorem info9 : (Tryd.prog.info? 9).map (fun i => (i.zero, i.size, i.bytes)) = some (some (.string ⟨#[]⟩), 1, 16) := by kernel_rfl
def sv (ks : List Bs) : List Value := ks.map fun l => .string (S l)
theorem sv_append (a b : List Bs) : sv (a ++ b) = sv a ++ sv b := by simp [sv]
theorem sv_length (a : List Bs) : (sv a).length = a.length := by simp [sv]
def SplitEnd (l : Bs) (w : World) (e : Ending) (w' : World) : Prop := ∃ g cap, e = .returned (.slice (some ⟨g, 0, none⟩) (spSplit l).length cap) ∧ w'.ownsRow w.heap.size 9 1 (.slice (some ⟨g, 0, none⟩) (spSplit l).length cap) (spSplit l).length (sv (spSplit l)) ∧ Below w.heap.size w w'
theorem spSplit_len : ∀ l : Bs, (spSplit l).length ≤ l.length + 1
  | [] => by simp [spSplit]
  | c :: t => by
    have ih := spSplit_len t
    rw [spSplit]
    split
    · simp; omega
    · split
      · next e r h => rw [h] at ih; simp at ih ⊢; omega
      · simp
/-- The loop of zzSplit. -/
def SplRel (s : ByteArray) (w : World) (gk : Nat) (s0 s5 : Value) (wx : World) : Prop :=
  ∃ (r : ByteArray) (L : List Bs), s0 = .string r ∧ wx.ownsRow w.heap.size 9 1 s5 L.length (sv L) ∧ Below w.heap.size w wx ∧ gk = r.size ∧ L ++ spSplit r.data.toList = spSplit s.data.toList ∧ L.length + r.size ≤ s.size
def spB : ByteArray := ⟨#[32]⟩

set_option maxHeartbeats 4000000 in
set_option maxRecDepth 100000 in
theorem zzSplit_any (s : ByteArray) (hs : s.size ≤ 4194304) (w : World) : Calls Tryd.prog 26 #[.string s, .string ⟨#[32]⟩] w (SplitEnd s.data.toList w) := by
  obtain ⟨i0, hi, hz0, hz1, hz2⟩ := info_parts info9
  have HI := Lib.hid (And.intro hi (And.intro hz0 (And.intro hz1 hz2)))
  clear hi hz0 hz1 hz2
  go_enter Tryd.func26, Tryd.ntmps26
  go_wp2_with fail
  go_loopg [0, 5] s.size (fun gk s0 s5 wx => SplRel s w gk s0 s5 wx)
  case atStart => exact ⟨s, [], rfl, ⟨by simp [sv], .inl ⟨rfl, rfl⟩⟩, Below.refl _ _, rfl, rfl, by simp⟩
  case round =>
    obtain ⟨r, L, rfl, hown, hbw, rfl, hL, hlen⟩ := hrel
    have hsz := hbw.size
    have hdat : (⟨#[32]⟩ : ByteArray).data.toList = [32] := rfl
    have hsub : (⟨#[32]⟩ : ByteArray).size = 1 := rfl
    rcases index1 32 r.data.toList with ⟨he, hno⟩ | ⟨a, b, he, hno, hix⟩
    · have hix : Lib.indexB r ⟨#[32]⟩ = -1 := he
      have hC := index_no r ⟨#[32]⟩ wr (by omega) (by decide) (by decide) hix
      rw [spSplit_none _ hno] at hL
      have HR := Lib.hid (And.intro hown (And.intro hbw (And.intro hL hC)))
      clear hown hbw hL hC hix he hno hdat hsub
      go_wp2_with fail
      refine HR.out.2.2.2.mono ?_
      rintro e w1 ⟨rfl, rfl⟩
      go_wp2_with (at_builtin; refine wpList_append_own _ rfl _ _ 23 rfl w.heap.size 9 i0 (.string ⟨#[]⟩) 1 16 Tryd.underlying23 HI.out.1 HI.out.2.1 HI.out.2.2.1 HI.out.2.2.2 rfl (by decide) _ _ _ rfl (HR.out.1.alloc _) ⟨wr.heap.size, 0, none⟩ 1 1 [.string r] rfl rfl (one_at _ _ _) (fun u hu => by rw [List.mem_singleton] at hu; subst hu; rfl) (by unfold maxLen; omega) (by omega) (by simp; omega) ?_; intro v' w2 hown' hgrow _)
      have hown2 : w2.ownsRow w.heap.size 9 1 v' (spSplit s.data.toList).length (sv (spSplit s.data.toList)) := by
        rw [← HR.out.2.2.1, List.length_append, sv_append, show sv [r.data.toList] = [.string r] by simp [sv, S_L]]
        exact hown'
      have hb2 := (HR.out.2.1.alloc hsz (.cells #[.string r] 9)).grown hgrow (by simp; omega) (fun j hj => own_lt HR.out.1 j hj)
      obtain ⟨A, cap, rfl, _, _⟩ := hown2.form (List.length_pos_iff.2 (spSplit_ne _))
      have HX := Lib.hid (And.intro hown2 hb2)
      clear hown' hown2 hgrow hb2
      go_ret
      exact ⟨A, cap, rfl, HX.out.1, HX.out.2⟩
    · have hix2 : Lib.indexB r ⟨#[32]⟩ = (a.length : Int) := hix
      have hC := index_at r ⟨#[32]⟩ a.length wr (by omega) (by decide) (by decide) hix2
      have hrl : r.size = a.length + 1 + b.length := by rw [Lib.size_eq, he]; simp; omega
      have hra : r.extract 0 a.length = S a := by rw [extract_S, he]; simp
      have hrb : r.extract (a.length + 1) r.size = S b := by
        rw [extract_S, he, show a ++ 32 :: b = (a ++ [32]) ++ b by simp, List.drop_left' (by simp), List.take_of_length_le (by omega)]
      rw [he, spSplit_at a b hno] at hL
      have hbs : (S b).size = b.length := S_size b
      obtain ⟨k, hk⟩ : ∃ k, a.length = k := ⟨_, rfl⟩
      rw [hk] at hC hrl hra hrb
      have HR := Lib.hid (And.intro hown (And.intro hbw (And.intro hL (And.intro hC (And.intro hra hrb)))))
      clear hown hbw hL hC hix hix2 he hno hdat hsub hra hrb hk
      go_wp2_with fail
      refine HR.out.2.2.2.1.mono ?_
      rintro e w1 ⟨rfl, rfl⟩
      go_wp2_with (at_builtin; refine wpList_append_own _ rfl _ _ 23 rfl w.heap.size 9 i0 (.string ⟨#[]⟩) 1 16 Tryd.underlying23 HI.out.1 HI.out.2.1 HI.out.2.2.1 HI.out.2.2.2 rfl (by decide) _ _ _ rfl (HR.out.1.alloc _) ⟨wr.heap.size, 0, none⟩ 1 1 [.string (r.extract 0 k)] rfl rfl (one_at _ _ _) (fun u hu => by rw [List.mem_singleton] at hu; subst hu; rfl) (by unfold maxLen; omega) (by omega) (by simp; omega) ?_; intro v' w2 hown' hgrow _)
      have hown2 : w2.ownsRow w.heap.size 9 1 v' (L ++ [a]).length (sv (L ++ [a])) := by
        rw [List.length_append, sv_append, show sv [a] = [.string (r.extract 0 k)] by rw [HR.out.2.2.2.2.1]; rfl]
        exact hown'
      have hb2 := (HR.out.2.1.alloc hsz (.cells #[.string (r.extract 0 k)] 9)).grown hgrow (by simp; omega) (fun j hj => own_lt HR.out.1 j hj)
      have HX := Lib.hid (And.intro hown2 hb2)
      clear hown' hown2 hgrow hb2
      go_wp2_with fail
      have hrb := HR.out.2.2.2.2.2
      rw [hrl] at hrb
      rw [hrb]
      go_roundg b.length
      case measure => omega
      case rel => exact ⟨S b, L ++ [a], rfl, HX.out.1, HX.out.2, hbs.symm, by rw [S_data, List.append_assoc]; exact HR.out.2.2.1, by rw [List.length_append, hbs]; simp; omega⟩

/-- The loop of splitOnSpace. -/
def SpoRel (s : ByteArray) (w : World) (gk : Nat) (s3 s4 s5 : Value) (wx : World) : Prop :=
  ∃ (st i : Nat) (L : List Bs), s4 = .int .i64 (st : Nat) ∧ s5 = .int .i64 (i : Nat) ∧ wx.ownsRow w.heap.size 9 1 s3 L.length (sv L) ∧ Below w.heap.size w wx ∧ gk = s.size - i ∧ L ++ spSplit (s.data.toList.drop st) = spSplit s.data.toList ∧ L.length ≤ st ∧ st ≤ i ∧ i ≤ s.size ∧ 32 ∉ (s.data.toList.drop st).take (i - st)

theorem spo_step {s : ByteArray} {st i : Nat} {L : List Bs} (h1 : st ≤ i) (h2 : i < s.size) (hL : L ++ spSplit (s.data.toList.drop st) = spSplit s.data.toList) (hno : 32 ∉ (s.data.toList.drop st).take (i - st)) (h32 : s.data.toList[i]? = some 32) :
    (L ++ [(s.data.toList.drop st).take (i - st)]) ++ spSplit (s.data.toList.drop (i + 1)) = spSplit s.data.toList := by
  have e : s.data.toList.drop st = (s.data.toList.drop st).take (i - st) ++ 32 :: s.data.toList.drop (i + 1) := by
    have h3 : (s.data.toList.drop st).drop (i - st) = 32 :: s.data.toList.drop (i + 1) := by
      rw [List.drop_drop, show st + (i - st) = i by omega]
      have hl : i < s.data.toList.length := by rw [← Lib.size_eq]; exact h2
      rw [List.drop_eq_getElem_cons hl]
      congr 1
      exact Option.some.inj ((List.getElem?_eq_getElem hl).symm.trans h32)
    rw [← h3, List.take_append_drop]
  rw [e, spSplit_at _ _ hno] at hL
  rw [List.append_assoc]
  exact hL
theorem spo_no {s : ByteArray} {st i : Nat} (h1 : st ≤ i) (hno : 32 ∉ (s.data.toList.drop st).take (i - st)) (h32 : s.data.toList[i]? ≠ some 32) : 32 ∉ (s.data.toList.drop st).take (i + 1 - st) := by
  intro hm
  obtain ⟨j, hj⟩ := List.getElem?_of_mem hm
  have hj2 := (List.getElem?_eq_some_iff.1 hj).1
  rw [List.length_take] at hj2
  rw [List.getElem?_take_of_lt (by omega)] at hj
  by_cases e : j < i - st
  · exact hno (List.mem_of_getElem? (show ((s.data.toList.drop st).take (i - st))[j]? = some 32 by rw [List.getElem?_take_of_lt e]; exact hj))
  · rw [List.getElem?_drop, show st + j = i by omega] at hj
    exact h32 hj
theorem at32 {s : ByteArray} {i : Nat} (h : i < s.size) (e : ((s[i].toNat : Int) == 32) = true) : s.data.toList[i]? = some 32 := by
  rw [Lib.data_getElem? s i h]
  congr 1
  exact UInt8.toNat_inj.1 (by have := beq_iff_eq.1 e; show s[i].toNat = 32; omega)
theorem no32 {s : ByteArray} {i : Nat} (h : i < s.size) (e : ((s[i].toNat : Int) == 32) = false) : s.data.toList[i]? ≠ some 32 := by
  rw [Lib.data_getElem? s i h]
  intro h2
  have h3 := Option.some.inj h2
  rw [h3] at e
  exact absurd e (by decide)

set_option maxHeartbeats 4000000 in
set_option maxRecDepth 100000 in
theorem splitOn_any (s : ByteArray) (hs : s.size ≤ 4194304) (w : World) : Calls Tryd.prog 28 #[.string s] w (SplitEnd s.data.toList w) := by
  obtain ⟨i0, hi, hz0, hz1, hz2⟩ := info_parts info9
  have HI := Lib.hid (And.intro hi (And.intro hz0 (And.intro hz1 hz2)))
  clear hi hz0 hz1 hz2
  go_enter Tryd.func28, Tryd.ntmps28
  go_wp2_with fail
  go_loopg [3, 4, 5] s.size (fun gk s3 s4 s5 wx => SpoRel s w gk s3 s4 s5 wx)
  case atStart => exact ⟨0, 0, [], rfl, rfl, ⟨by simp [sv], .inl ⟨rfl, rfl⟩⟩, Below.refl _ _, rfl, rfl, by simp, by simp, by simp, by simp⟩
  case round =>
    obtain ⟨st, i, L, rfl, rfl, hown, hbw, rfl, hL, hlen, hsi, his, hno⟩ := hrel
    have hsz := hbw.size
    by_cases hlt : i < s.size
    · cases q : ((s[i].toNat : Int) == 32)
      · have HR := Lib.hid (And.intro hown (And.intro hbw (And.intro hL (spo_no hsi hno (no32 hlt q)))))
        clear hown hbw hL hno
        go_wp2_with fail
        go_roundg (s.size - (i + 1))
        case measure => omega
        case rel => exact ⟨st, i + 1, L, rfl, by go_num, HR.out.1, HR.out.2.1, rfl, HR.out.2.2.1, hlen, by omega, hlt, HR.out.2.2.2⟩
      · have HR := Lib.hid (And.intro hown (And.intro hbw (spo_step hsi hlt hL hno (at32 hlt q))))
        clear hown hbw hL hno
        go_wp2_with (at_builtin; refine wpList_append_own _ rfl _ _ 23 rfl w.heap.size 9 i0 (.string ⟨#[]⟩) 1 16 Tryd.underlying23 HI.out.1 HI.out.2.1 HI.out.2.2.1 HI.out.2.2.2 rfl (by decide) _ _ _ rfl (HR.out.1.alloc _) ⟨wr.heap.size, 0, none⟩ 1 1 [.string (s.extract st i)] rfl rfl (one_at _ _ _) (fun u hu => by rw [List.mem_singleton] at hu; subst hu; rfl) (by unfold maxLen; omega) (by omega) (by simp; omega) ?_; intro v' w2 hown' hgrow _)
        have hown2 : w2.ownsRow w.heap.size 9 1 v' (L ++ [(s.data.toList.drop st).take (i - st)]).length (sv (L ++ [(s.data.toList.drop st).take (i - st)])) := by
          rw [List.length_append, sv_append, show sv [(s.data.toList.drop st).take (i - st)] = [.string (s.extract st i)] by rw [extract_S]; rfl]
          exact hown'
        have hb2 := (HR.out.2.1.alloc hsz (.cells #[.string (s.extract st i)] 9)).grown hgrow (by simp; omega) (fun j hj => own_lt HR.out.1 j hj)
        have HX := Lib.hid (And.intro hown2 hb2)
        clear hown' hown2 hgrow hb2
        go_wp2_with fail
        go_roundg (s.size - (i + 1))
        case measure => omega
        case rel => exact ⟨i + 1, i + 1, L ++ [(s.data.toList.drop st).take (i - st)], by go_num, by go_num, HX.out.1, HX.out.2, rfl, HR.out.2.2, by rw [List.length_append]; simp; omega, Nat.le_refl _, hlt, by simp⟩
    · obtain rfl : i = s.size := by omega
      have hd : (s.data.toList.drop st).take (s.size - st) = s.data.toList.drop st := List.take_of_length_le (by rw [List.length_drop, ← Lib.size_eq]; omega)
      rw [hd] at hno
      rw [spSplit_none _ hno] at hL
      have HR := Lib.hid (And.intro hown (And.intro hbw (And.intro hL hd)))
      clear hown hbw hL hno hd
      go_wp2_with (at_builtin; refine wpList_append_own _ rfl _ _ 23 rfl w.heap.size 9 i0 (.string ⟨#[]⟩) 1 16 Tryd.underlying23 HI.out.1 HI.out.2.1 HI.out.2.2.1 HI.out.2.2.2 rfl (by decide) _ _ _ rfl (HR.out.1.alloc _) ⟨wr.heap.size, 0, none⟩ 1 1 [.string (s.extract st s.size)] rfl rfl (one_at _ _ _) (fun u hu => by rw [List.mem_singleton] at hu; subst hu; rfl) (by unfold maxLen; omega) (by omega) (by simp; omega) ?_; intro v' w2 hown' hgrow _)
      have hown2 : w2.ownsRow w.heap.size 9 1 v' (spSplit s.data.toList).length (sv (spSplit s.data.toList)) := by
        rw [← HR.out.2.2.1, List.length_append, sv_append, show sv [s.data.toList.drop st] = [.string (s.extract st s.size)] by rw [extract_S, HR.out.2.2.2]; rfl]
        exact hown'
      have hb2 := (HR.out.2.1.alloc hsz (.cells #[.string (s.extract st s.size)] 9)).grown hgrow (by simp; omega) (fun j hj => own_lt HR.out.1 j hj)
      obtain ⟨A, cap, rfl, _, _⟩ := hown2.form (List.length_pos_iff.2 (spSplit_ne _))
      have HX := Lib.hid (And.intro hown2 hb2)
      clear hown' hown2 hgrow hb2
      go_wp2_with fail
      go_ret
      exact ⟨A, cap, rfl, HX.out.1, HX.out.2⟩
end Go.Proofs.YtjinajfejbpicaaDoor
