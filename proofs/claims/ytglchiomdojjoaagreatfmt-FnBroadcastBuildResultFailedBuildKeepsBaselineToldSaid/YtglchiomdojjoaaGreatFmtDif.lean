/-
  Plain: what was added, removed, updated between two sets of names with hashes; no program in sight.
-/
import Derived.Test.YtglchiomdojjoaaGreatFmtMdl
import Derived.Test.YtglchiomdojjoaaGreatFmtSta
namespace Go.Proofs.YtglchiomdojjoaaGreatFmt
open Go.RowKit

open Classical in
/-- The hash of a name. -/
noncomputable def hOf (ss hs : List ByteArray) (t : ByteArray) : ByteArray := if h : ∃ i : Nat, ss[i]? = some t then hs[h.choose]?.getD ⟨#[]⟩ else ⟨#[]⟩
theorem hOf_at {ss hs : List ByteArray} (hd : ss.Nodup) {i : Nat} {s t : ByteArray} (h : ss[i]? = some s) (h2 : hs[i]? = some t) : hOf ss hs s = t := by
  have hex : ∃ i : Nat, ss[i]? = some s := ⟨i, h⟩
  have hi : hex.choose = i := by
    have hc := hex.choose_spec
    rcases Nat.lt_trichotomy hex.choose i with hl | hl | hl
    · exact absurd rfl (zip_key hd hc h hl)
    · exact hl
    · exact absurd rfl (zip_key hd h hc hl)
  unfold hOf
  rw [dif_pos hex, hi, h2]
  rfl
open Classical in
noncomputable def addP (ss : List ByteArray) (t : ByteArray) : Bool := decide (t ∉ ss)
open Classical in
noncomputable def updP (ss hs ts gs : List ByteArray) (t : ByteArray) : Bool := decide (t ∈ ss ∧ hOf ss hs t ≠ hOf ts gs t)
def url (q t : ByteArray) : Bs := urlL q.data.toList t.data.toList
def urls (q : ByteArray) (P : ByteArray → Bool) (l : List ByteArray) : List Bs := (l.filter P).map (url q)
theorem urls_yes {q : ByteArray} {P : ByteArray → Bool} {l : List ByteArray} {k : Nat} {t : ByteArray} (h : l[k]? = some t) (hp : P t = true) : urls q P (l.take (k + 1)) = urls q P (l.take k) ++ [url q t] := by
  unfold urls
  rw [List.take_add_one, h]
  simp [List.filter_append, hp]
theorem urls_no {q : ByteArray} {P : ByteArray → Bool} {l : List ByteArray} {k : Nat} {t : ByteArray} (h : l[k]? = some t) (hp : P t = false) : urls q P (l.take (k + 1)) = urls q P (l.take k) := by
  unfold urls
  rw [List.take_add_one, h]
  simp [List.filter_append, hp]
theorem urls_le (q : ByteArray) (P : ByteArray → Bool) (l : List ByteArray) : (urls q P l).length ≤ l.length := by
  unfold urls
  rw [List.length_map]
  exact List.length_filter_le _ _
theorem url_le (q t : ByteArray) : (url q t).length ≤ q.size + t.size + 1 := by
  unfold url urlL
  have := slash_le q.data.toList
  rw [List.length_append, List.length_append, Lib.size_eq, Lib.size_eq]
  omega
theorem urls_each {q : ByteArray} {P : ByteArray → Bool} {l : List ByteArray} (hq : q.size ≤ 1048576) (hl : ∀ t ∈ l, t.size ≤ 1048576) : ∀ u ∈ urls q P l, u.length ≤ 2097153 := by
  intro u hu
  unfold urls at hu
  obtain ⟨t, ht, rfl⟩ := List.mem_map.1 hu
  have := hl t (List.mem_filter.1 ht).1
  have := url_le q t
  omega
noncomputable def addU (q : ByteArray) (ss ts : List ByteArray) : List Bs := urls q (addP ss) ts
noncomputable def updU (q : ByteArray) (ss hs ts gs : List ByteArray) : List Bs := urls q (updP ss hs ts gs) ts
/-- The event's text. -/
noncomputable def diffB (q : ByteArray) (ss hs ts gs : List ByteArray) : Bs := jsonB (addU q ss ts) (addU q ts ss) (updU q ss hs ts gs)
/-- Nothing has changed. -/
def Still (ss hs ts gs : List ByteArray) : Prop := (∀ t ∈ ts, t ∈ ss) ∧ (∀ s ∈ ss, s ∈ ts) ∧ ∀ t ∈ ts, t ∈ ss → hOf ss hs t = hOf ts gs t
theorem urls_nil {q : ByteArray} {P : ByteArray → Bool} {l : List ByteArray} : urls q P l = [] ↔ ∀ t ∈ l, P t = false := by
  unfold urls
  rw [List.map_eq_nil_iff, List.filter_eq_nil_iff]
  exact ⟨fun h t ht => by simpa using h t ht, fun h t ht => by simp [h t ht]⟩
theorem still_iff (q : ByteArray) (ss hs ts gs : List ByteArray) : Still ss hs ts gs ↔ addU q ss ts = [] ∧ addU q ts ss = [] ∧ updU q ss hs ts gs = [] := by
  unfold Still addU updU addP updP
  rw [urls_nil, urls_nil, urls_nil]
  simp only [decide_eq_false_iff_not, Classical.not_not, not_and]
theorem Still.symm {ss hs ts gs : List ByteArray} (h : Still ss hs ts gs) : Still ts gs ss hs := ⟨h.2.1, h.1, fun s hs1 ht => (h.2.2 s ht hs1).symm⟩
theorem Still.refl (ss hs : List ByteArray) : Still ss hs ss hs := ⟨fun _ h => h, fun _ h => h, fun _ _ _ => rfl⟩
theorem T3.drewN {B : Nat} {v1 v2 v3 : Value} {l1 l2 l3 : List Bs} {w : World} (h : T3 B v1 l1 v2 l2 v3 l3 w) (k : Nat) : T3 B v1 l1 v2 l2 v3 l3 (w.drewN k) := ⟨h.r1, h.r2, h.r3, h.d12, h.d13, h.d23⟩
theorem T3.alloc {B : Nat} {v1 v2 v3 : Value} {l1 l2 l3 : List Bs} {w : World} (h : T3 B v1 l1 v2 l2 v3 l3 w) (o : Obj) : T3 B v1 l1 v2 l2 v3 l3 (w.alloc o) := h.up ((Below.refl _ _).alloc (Nat.le_refl _) o)
theorem BB.up {B : Nat} {v : Value} {l : Bs} {W0 w w' : World} (h : BB B v l W0 w) (k : Below w.heap.size w w') : BB B v l W0 w' :=
  ⟨World.ownsRow.kept h.own (grown_of_below k) (Classical.em _), h.bel.trans (k.mono h.le), fun i o hi hb ho => (k.block i (Array.getElem?_eq_some_iff.1 (h.oth i o hi hb ho)).1).trans (h.oth i o hi hb ho), Nat.le_trans h.le k.size⟩
end Go.Proofs.YtglchiomdojjoaaGreatFmt
