/-
  Three growing rows of texts side by side; the JSON of three lists (plain); conditions: those that each lemma names.
-/
import Derived.Test.YtglchiomdojjoaaGreatFmtZso
import Derived.Maps.AppendAt
namespace Go.Proofs.YtglchiomdojjoaaGreatFmt
open Go.RowKit

def strs (l : List Bs) : List Value := l.map fun x => Value.string (S x)
theorem strs_length (l : List Bs) : (strs l).length = l.length := by simp [strs]
theorem strs_append (a b : List Bs) : strs (a ++ b) = strs a ++ strs b := by simp [strs]
/-- The row v of texts, in a block from B on. -/
def RW (B : Nat) (v : Value) (l : List Bs) (w : World) : Prop := w.ownsRow B 9 1 v l.length (strs l)
def Dj (v u : Value) : Prop := ∀ k, v.ownBlock = some k → u.ownBlock ≠ some k
theorem Dj.symm {v u : Value} (h : Dj v u) : Dj u v := fun k a b => h k b a
structure T3 (B : Nat) (v1 : Value) (l1 : List Bs) (v2 : Value) (l2 : List Bs) (v3 : Value) (l3 : List Bs) (w : World) : Prop where
  r1 : RW B v1 l1 w
  r2 : RW B v2 l2 w
  r3 : RW B v3 l3 w
  d12 : Dj v1 v2
  d13 : Dj v1 v3
  d23 : Dj v2 v3
theorem T3.rot {B : Nat} {v1 v2 v3 : Value} {l1 l2 l3 : List Bs} {w : World} (h : T3 B v1 l1 v2 l2 v3 l3 w) : T3 B v2 l2 v3 l3 v1 l1 w := ⟨h.r2, h.r3, h.r1, h.d23, h.d12.symm, h.d13.symm⟩
theorem T3.nil (B : Nat) (w : World) : T3 B (.slice none 0 0) [] (.slice none 0 0) [] (.slice none 0 0) [] w :=
  ⟨⟨rfl, .inl ⟨rfl, rfl⟩⟩, ⟨rfl, .inl ⟨rfl, rfl⟩⟩, ⟨rfl, .inl ⟨rfl, rfl⟩⟩, fun k hk => by simp [Value.ownBlock] at hk, fun k hk => by simp [Value.ownBlock] at hk, fun k hk => by simp [Value.ownBlock] at hk⟩
theorem RW.kept {B : Nat} {v : Value} {l : List Bs} {w w' : World} {row : Option Nat} (h : RW B v l w) (k : w.grownBy w' row) (hne : v.ownBlock = none ∨ v.ownBlock ≠ row) : RW B v l w' := World.ownsRow.kept h k hne
theorem grown_of_below {w w' : World} (h : Below w.heap.size w w') : w.grownBy w' none := ⟨h.os, h.tape, h.output, h.size, fun k hk _ => h.block k hk⟩
theorem RW.up {B : Nat} {v : Value} {l : List Bs} {w w' : World} (h : RW B v l w) (k : Below w.heap.size w w') : RW B v l w' := h.kept (grown_of_below k) (Classical.em _)
theorem T3.up {B : Nat} {v1 v2 v3 : Value} {l1 l2 l3 : List Bs} {w w' : World} (h : T3 B v1 l1 v2 l2 v3 l3 w) (k : Below w.heap.size w w') : T3 B v1 l1 v2 l2 v3 l3 w' := ⟨h.r1.up k, h.r2.up k, h.r3.up k, h.d12, h.d13, h.d23⟩
theorem T3.kept {B : Nat} {v1 v2 v3 : Value} {l1 l2 l3 : List Bs} {w w' : World} {row : Option Nat} (h : T3 B v1 l1 v2 l2 v3 l3 w) (k : w.grownBy w' row) (hr : ∀ j, row = some j → ∀ cs t fz, w.heap[j]? ≠ some (.cells cs t fz)) : T3 B v1 l1 v2 l2 v3 l3 w' := by
  have key : ∀ {v : Value} {l : List Bs}, RW B v l w → RW B v l w' := fun {v l} hv => hv.kept k (by
    rcases hv.2 with ⟨rfl, _⟩ | ⟨g, cap, cur, rfl, _, hg, _⟩
    · exact .inl rfl
    · exact .inr fun e => hr g e.symm _ _ _ hg)
  exact ⟨key h.r1, key h.r2, key h.r3, h.d12, h.d13, h.d23⟩
/-- The first row has been appended to. -/
theorem T3.app {B : Nat} {v1 v1' v2 v3 : Value} {l1 l2 l3 : List Bs} {x : Bs} {w w' : World} (h : T3 B v1 l1 v2 l2 v3 l3 w) (ho : w'.ownsRow B 9 1 v1' (l1.length + 1) (strs l1 ++ [.string (S x)])) (hg : w.grownBy w' v1.ownBlock)
    (hat : v1'.ownBlock = v1.ownBlock ∨ v1'.ownBlock = some w.heap.size) : T3 B v1' (l1 ++ [x]) v2 l2 v3 l3 w' := by
  have key : ∀ {v : Value} {l : List Bs}, RW B v l w → Dj v1 v → RW B v l w' ∧ Dj v1' v := fun {v l} hv hd => by
    refine ⟨hv.kept hg ?_, fun k hk e => ?_⟩
    · cases hvo : v.ownBlock with
      | none => exact .inl rfl
      | some j => exact .inr fun e => hd j e.symm hvo
    · rcases hat with hat | hat
      · rw [hat] at hk
        exact hd k hk e
      · rw [hat] at hk
        injection hk with hk
        have := (World.ownsRow.lt hv k e).2
        omega
  have k2 := key h.r2 h.d12
  have k3 := key h.r3 h.d13
  refine ⟨?_, k2.1, k3.1, k2.2, k3.2, h.d23⟩
  unfold RW
  rw [List.length_append, strs_append]
  exact ho
theorem RW.lt {B : Nat} {v : Value} {l : List Bs} {w : World} (h : RW B v l w) : ∀ k, v.ownBlock = some k → B ≤ k ∧ k < w.heap.size := World.ownsRow.lt h
theorem RW.form {B : Nat} {v : Value} {l : List Bs} {w : World} (h : RW B v l w) : ∃ ao cap, v = .slice ao l.length cap := by
  rcases h.2 with ⟨rfl, h0⟩ | ⟨g, cap, cur, rfl, _⟩
  · exact ⟨none, 0, by rw [h0]⟩
  · exact ⟨_, _, rfl⟩
/-- The row as an argument. -/
theorem RW.inRow {B : Nat} {v : Value} {l : List Bs} {w : World} (h : RW B v l w) : ∃ ao cap, v = .slice ao l.length cap ∧ InRow w ao l.length cap (strs l) := by
  rcases h.2 with ⟨rfl, h0⟩ | ⟨g, cap, cur, rfl, hb, hg, hnc, hcm, hcs, htake⟩
  · exact ⟨none, 0, by rw [h0], .inl ⟨rfl, h0, rfl, by rw [List.eq_nil_of_length_eq_zero h0]; rfl⟩⟩
  · refine ⟨_, cap, rfl, .inr ⟨_, rfl, hnc, hcm, strs_length l, fun i u hu => ?_⟩⟩
    have e : (⟨g, 0, none⟩ : Addr).add i = ⟨g, i, none⟩ := by
      unfold Addr.add
      split
      · next h0 => rw [h0]
      · simp
    have hi : i < l.length := by have := (List.getElem?_eq_some_iff.1 hu).1; rwa [strs_length] at this
    rw [e, cell_of_row w g i cur 9 (0, 0) hg]
    rw [← htake, List.getElem?_take_of_lt (by omega)] at hu
    rw [← Array.getElem?_toList]
    exact hu
/-- One text in quotes. -/
def qt (u : Bs) : Bs := [34] ++ u ++ [34]
/-- A list of texts: quoted, with commas. -/
def listJ : List Bs → Bs
  | [] => []
  | u :: r => qt u ++ r.flatMap fun v => 44 :: qt v
theorem listJ_next (l : List Bs) (u : Bs) : listJ (l ++ [u]) = listJ l ++ (if l = [] then [] else [44]) ++ qt u := by
  cases l with
  | nil => simp [listJ]
  | cons x r => simp [listJ]
def j0 : Bs := [123, 34, 97, 100, 100, 101, 100, 34, 58, 91]
def j1 : Bs := [93, 44, 34, 114, 101, 109, 111, 118, 101, 100, 34, 58, 91]
def j2 : Bs := [93, 44, 34, 117, 112, 100, 97, 116, 101, 100, 34, 58, 91]
def j3 : Bs := [93, 125]
/-- The event: what was added, removed, updated. -/
def jsonB (A R U : List Bs) : Bs := j0 ++ listJ (srt A) ++ j1 ++ listJ (srt R) ++ j2 ++ listJ (srt U) ++ j3
theorem qt_length (u : Bs) : (qt u).length = u.length + 2 := by simp [qt]
theorem cons_mul {α : Type} (v : α) (r : List α) (n : Nat) : (v :: r).length * n = r.length * n + n := by rw [List.length_cons, Nat.add_mul, Nat.one_mul]
theorem flatq_le (n : Nat) : ∀ r : List Bs, (∀ u ∈ r, u.length ≤ n) → (r.flatMap fun v => 44 :: qt v).length ≤ r.length * (n + 3)
  | [], _ => by simp
  | v :: r, hr => by
    have h1 := hr v (by simp)
    have h2 := flatq_le n r (fun x hx => hr x (List.mem_cons_of_mem _ hx))
    have h3 := qt_length v
    rw [List.flatMap_cons, List.length_append, List.length_cons, cons_mul]
    omega
theorem listJ_le (l : List Bs) (n : Nat) (h : ∀ u ∈ l, u.length ≤ n) : (listJ l).length ≤ l.length * (n + 3) := by
  cases l with
  | nil => simp [listJ]
  | cons u r =>
    have h1 := h u (by simp)
    have h2 := flatq_le n r (fun x hx => h x (List.mem_cons_of_mem _ hx))
    have h3 := qt_length u
    show (qt u ++ r.flatMap fun v => 44 :: qt v).length ≤ _
    rw [List.length_append, cons_mul]
    omega
end Go.Proofs.YtglchiomdojjoaaGreatFmt
