/-
  What validateExternals says of the first texts, its loop's relation; conditions: those that each lemma names.
-/
import Derived.Test.YtkdkjcljdagakaaGreatFmtExt
import Derived.Test.YtkdkjcljdagakaaGreatFmtStr2
import Derived.Test.YtkdkjcljdagakaaGreatFmtVpa
import Derived.Deep.AppendLies
import Derived.Lib.IndexBytes
namespace Go.Proofs.YtkdkjcljdagakaaGreatFmt
open Go.RowKit Go.Extern.Stop Go.Stop Go.Extern Go.Maps

/-! ### Plain: where the star stands -/
def ixB (p : ByteArray) : Int := Lib.indexByte p.data.toList 42
/-- The pattern of a text with one star. -/
def pat (p : ByteArray) : List Value := [.string (p.extract 0 (ixB p).toNat), .string (p.extract ((ixB p).toNat + 1) p.size)]
theorem drop_extract (p : ByteArray) (i : Nat) : (p.extract i p.size).data.toList = p.data.toList.drop i := by
  rw [Lib.extract_data, List.take_of_length_le]
  rw [List.length_drop, ← Lib.size_eq]
  exact Nat.le_refl _
theorem ix_cases (p : ByteArray) : (ixB p = -1 ∧ stars p = 0) ∨ ∃ i : Nat, ixB p = (i : Int) ∧ i < p.size ∧ stars p = 1 + ((p.extract (i + 1) p.size).data.toList).count 42 ∧ 42 ∉ p.data.toList.take i ∧ p.data.toList[i]? = some 42 := by
  have hge := Lib.indexByte_ge p.data.toList 42
  by_cases h : ixB p = -1
  · refine .inl ⟨h, ?_⟩
    unfold stars
    rw [List.count_eq_zero]
    intro hm
    obtain ⟨k, hk, e⟩ := List.getElem_of_mem hm
    exact Lib.indexByte_none h k (by rw [List.getElem?_eq_getElem hk, e])
  · obtain ⟨i, hi⟩ : ∃ i : Nat, ixB p = (i : Int) := ⟨(ixB p).toNat, by unfold ixB at h ⊢; omega⟩
    obtain ⟨h1, h2⟩ := Lib.indexByte_some hi
    have hlt := (List.getElem?_eq_some_iff.1 h1).1
    have hno : 42 ∉ p.data.toList.take i := by
      intro hm
      obtain ⟨k, hk, e⟩ := List.getElem_of_mem hm
      rw [List.getElem_take] at e
      have hk2 : k < i := by rw [List.length_take] at hk; omega
      exact h2 k hk2 (by rw [List.getElem?_eq_getElem (by omega), e])
    refine .inr ⟨i, hi, by rw [Lib.size_eq]; exact hlt, ?_, hno, h1⟩
    rw [drop_extract]
    unfold stars
    conv => lhs; rw [← List.take_append_drop i p.data.toList]
    rw [List.count_append, List.count_eq_zero.2 hno, List.drop_eq_getElem_cons hlt, (List.getElem?_eq_some_iff.1 h1).2, List.count_cons]
    simp
    omega
theorem extract_mem (p : ByteArray) (i : Nat) : 42 ∈ (p.extract i p.size).data.toList ↔ 0 < ((p.extract i p.size).data.toList).count 42 := List.count_pos_iff.symm

/-- What has been said of the first k texts. -/
structure Said (ps : List ByteArray) (k : Nat) (he : Bool) (D1 D2 : DataW Unit) (n1 : Nat) (xs1 : List Value) : Prop where
  ex : ∀ l, has D1 l = true ↔ ∃ (i : Nat) (p : ByteArray), i < k ∧ ps[i]? = some p ∧ stars p = 0 ∧ l = .string p.data.toList
  yes : ∀ l z, has D1 l = true → D1.atKey l z = .lit (.bool true)
  err : he = true ↔ ∃ (i : Nat) (p : ByteArray), i < k ∧ ps[i]? = some p ∧ 2 ≤ stars p
  one : (∀ (i : Nat) (p : ByteArray), i < k → ps[i]? = some p → stars p = 1) → n1 = k ∧ xs1 = (ps.take k).flatMap pat ∧ D1 = .map [] ∧ D2 = .map []
theorem said_start (ps : List ByteArray) : Said ps 0 false (.map []) (.map []) 0 [] := ⟨fun l => by simp [has_eq], fun l z h => (by rw [has_eq] at h; cases h), by simp, fun _ => ⟨rfl, rfl, rfl, rfl⟩⟩
theorem lt_succ' {i k : Nat} : i < k + 1 ↔ i < k ∨ i = k := by omega
theorem said_none {ps : List ByteArray} {k : Nat} {he : Bool} {D1 D2 D2' : DataW Unit} {n1 n1' : Nat} {xs1 xs1' : List Value} {p : ByteArray} (h : Said ps k he D1 D2 n1 xs1) (hp : ps[k]? = some p) (h0 : stars p = 0) (hm : IsMap D1) : Said ps (k + 1) he (D1.put (.string p.data.toList) (.lit (.bool true))) D2' n1' xs1' := by
  have hkey : WideAt.IsKeyLit (.string p.data.toList) := by simp [WideAt.IsKeyLit]
  refine ⟨fun l => ?_, fun l z hl => ?_, h.err.trans ⟨?_, ?_⟩, fun h1 => ?_⟩
  · by_cases e : l = .string p.data.toList
    · subst e
      rw [has_put_same hm hkey]
      exact ⟨fun _ => ⟨k, p, by omega, hp, h0, rfl⟩, fun _ => rfl⟩
    · rw [has_put_other e, h.ex]
      constructor
      · rintro ⟨i, q, hi, r⟩
        exact ⟨i, q, by omega, r⟩
      · rintro ⟨i, q, hi, h1, h2, h3⟩
        rcases lt_succ'.1 hi with hi | rfl
        · exact ⟨i, q, hi, h1, h2, h3⟩
        · rw [hp] at h1
          cases h1
          exact absurd h3 e
  · by_cases e : l = .string p.data.toList
    · subst e
      exact atKey_put_same hm hkey _ _
    · rw [has_put_other e] at hl
      rw [atKey_put_other e, h.yes l z hl]
  · rintro ⟨i, q, hi, r⟩
    exact ⟨i, q, by omega, r⟩
  · rintro ⟨i, q, hi, h1, h2⟩
    rcases lt_succ'.1 hi with hi | rfl
    · exact ⟨i, q, hi, h1, h2⟩
    · rw [hp] at h1
      cases h1
      omega
  · have := h1 k p (by omega) hp
    omega
theorem said_many {ps : List ByteArray} {k : Nat} {he : Bool} {D1 D2 : DataW Unit} {n1 : Nat} {xs1 : List Value} {p : ByteArray} (h : Said ps k he D1 D2 n1 xs1) (hp : ps[k]? = some p) (h2 : 2 ≤ stars p) : Said ps (k + 1) true D1 D2 n1 xs1 := by
  refine ⟨fun l => (h.ex l).trans ⟨?_, ?_⟩, h.yes, ⟨fun _ => ⟨k, p, by omega, hp, h2⟩, fun _ => rfl⟩, fun h1 => ?_⟩
  · rintro ⟨i, q, hi, r⟩
    exact ⟨i, q, by omega, r⟩
  · rintro ⟨i, q, hi, h1, h3, h4⟩
    rcases lt_succ'.1 hi with hi | rfl
    · exact ⟨i, q, hi, h1, h3, h4⟩
    · rw [hp] at h1
      cases h1
      omega
  · have := h1 k p (by omega) hp
    omega
theorem said_one {ps : List ByteArray} {k : Nat} {he : Bool} {D1 D2 : DataW Unit} {n1 : Nat} {xs1 : List Value} {p : ByteArray} (h : Said ps k he D1 D2 n1 xs1) (hp : ps[k]? = some p) (h1 : stars p = 1) : Said ps (k + 1) he D1 D2 (n1 + 1) (xs1 ++ pat p) := by
  refine ⟨fun l => (h.ex l).trans ⟨?_, ?_⟩, h.yes, h.err.trans ⟨?_, ?_⟩, fun ha => ?_⟩
  · rintro ⟨i, q, hi, r⟩
    exact ⟨i, q, by omega, r⟩
  · rintro ⟨i, q, hi, a1, a3, a4⟩
    rcases lt_succ'.1 hi with hi | rfl
    · exact ⟨i, q, hi, a1, a3, a4⟩
    · rw [hp] at a1
      cases a1
      omega
  · rintro ⟨i, q, hi, r⟩
    exact ⟨i, q, by omega, r⟩
  · rintro ⟨i, q, hi, a1, a2⟩
    rcases lt_succ'.1 hi with hi | rfl
    · exact ⟨i, q, hi, a1, a2⟩
    · rw [hp] at a1
      cases a1
      omega
  · obtain ⟨e1, e2, e3, e4⟩ := h.one (fun i q hi hq => ha i q (by omega) hq)
    refine ⟨by omega, ?_, e3, e4⟩
    obtain ⟨hk, rfl⟩ := List.getElem?_eq_some_iff.1 hp
    rw [List.take_succ_eq_append_getElem hk, List.flatMap_append, e2]
    simp

/-- The loop of validateExternals under way. -/
def ERel (B bk bm bu bh S : Nat) (ps : List ByteArray) (k : Nat) (w wr : World) : Prop :=
  ∃ (he : Bool) (nm k1 k2 : Nat) (D1 D2 : DataW Unit) (v1 : Value) (n1 : Nat) (xs1 : List Value) (v2 : Value) (n2 : Nat) (xs2 : List Value),
    EX B bk bm bu bh S he nm k1 k2 D1 D2 v1 n1 xs1 v2 n2 xs2 wr ∧ LK B bm bu bh w wr ∧ Said ps k he D1 D2 n1 xs1 ∧ nm ≤ k ∧ k1 ≤ k ∧ k2 ≤ k ∧ n1 ≤ k ∧ n2 ≤ k
theorem LK.belowB {B bm bu bh : Nat} {a b : World} (h : LK B bm bu bh a b) (hB : B ≤ a.heap.size) (h1 : B ≤ bm) (h2 : B ≤ bu) (h3 : B ≤ bh) : Below B a b :=
  ⟨h.os, h.tape, h.output, h.size, fun i hi => by
    have hb : a.heap[i]? = some a.heap[i] := Array.getElem?_eq_getElem (by omega)
    rw [h.block i _ hb (by omega) (by omega) (by omega) (fun hx => by omega), ← hb]⟩
theorem grown_ad (w : World) (o : Obj) {w3 : World} {row : Option Nat} (h : (w.alloc o).grownBy w3 row) : w.grownBy w3 row := (World.grownBy_alloc w o row).trans h
theorem grown_add (w : World) (o : Obj) {w3 : World} {row : Option Nat} (h : (w.alloc o).drew.grownBy w3 row) : w.grownBy w3 row := grown_ad w o ⟨h.os, h.tape, h.output, h.size, h.block⟩
theorem grown_addd (w : World) (o : Obj) {w3 : World} {row : Option Nat} (h : (w.alloc o).drew.drew.grownBy w3 row) : w.grownBy w3 row := grown_ad w o ⟨h.os, h.tape, h.output, h.size, h.block⟩
theorem two_in {w : World} {B : Nat} {a b : ByteArray} {fr : Nat × Nat} (hb : w.heap[B]? = some (.cells #[.string a, .string b] 43 fr)) : ∀ j u, ([.string a, .string b] : List Value)[j]? = some u → w.cell? ((⟨B, 0, none⟩ : Addr).add j) = some u :=
  World.news_of_block hb
theorem two_one (a b : ByteArray) : ∀ u ∈ ([.string a, .string b] : List Value), u.oneCell' = true := by
  intro u hu
  simp at hu
  rcases hu with rfl | rfl <;> rfl
def ExtPost (B bk bm bu bh : Nat) (ps : List ByteArray) (w : World) (e : Ending) (w' : World) : Prop :=
  ∃ m1 m2 v1 v2 he nm k1 k2 D1 D2 n1 xs1, e = .returned (.agg #[.map (some m1), v1, .map (some m2), v2]) ∧ MapB m1 k1 D1 w' ∧ MapB m2 k2 D2 w' ∧ w'.ownsRow w.heap.size 43 2 v1 n1 xs1 ∧ Said ps ps.length he D1 D2 n1 xs1 ∧ LogAt B bk bm bu bh he nm w' ∧ LK B bm bu bh w w' ∧ k1 ≤ ps.length ∧ k2 ≤ ps.length ∧ n1 ≤ ps.length ∧ ∃ a l c, v2 = .slice a l c
theorem info43 : (Tryz.prog.info? 43).map (fun i => (i.zero, i.size, i.bytes)) = some (some (.agg #[.string ⟨#[]⟩, .string ⟨#[]⟩]), 2, 32) := by kernel_rfl

end Go.Proofs.YtkdkjcljdagakaaGreatFmt
