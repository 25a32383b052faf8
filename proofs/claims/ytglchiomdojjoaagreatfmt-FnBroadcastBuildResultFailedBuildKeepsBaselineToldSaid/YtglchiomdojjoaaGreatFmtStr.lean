/-
  Plain facts on byte strings and on a byte buffer that a call owns: no program in sight (conditions: none but those that each lemma names).
-/
import Derived.WalkKit
import Derived.Lib.BufSteps
import Derived.Lib.BufferRead
import Derived.Lib.IndexBytes
import Derived.Lib.IndexMore
import Derived.Lib.Hide
namespace Go.Proofs.YtglchiomdojjoaaGreatFmt
open Go.RowKit

/-- The string of a list of bytes. -/
def S (l : List UInt8) : ByteArray := ⟨l.toArray⟩

theorem S_data (l : List UInt8) : (S l).data.toList = l := by simp [S]
theorem S_toList (l : List UInt8) : (S l).toList = l := by rw [Lib.toList_data, S_data]
theorem S_size (l : List UInt8) : (S l).size = l.length := by rw [Lib.size_eq, S_data]
theorem S_L (s : ByteArray) : S s.data.toList = s := Lib.mk_data s
theorem S_inj {a b : List UInt8} (h : S a = S b) : a = b := by rw [← S_data a, h, S_data]
theorem eq_S {s : ByteArray} {l : List UInt8} (h : s.data.toList = l) : s = S l := by rw [← h, S_L]
theorem extract_S (s : ByteArray) (a b : Nat) : s.extract a b = S ((s.data.toList.drop a).take (b - a)) := Lib.extract_eq s a b
theorem ret_int {k : IntKind} {a b : Int} (h : a = b) : Ending.returned (.int k a) = .returned (.int k b) := by rw [h]
theorem ret_str {a b : ByteArray} (h : a = b) : Ending.returned (.string a) = .returned (.string b) := by rw [h]
theorem ret_bool {a b : Bool} (h : a = b) : Ending.returned (.bool a) = .returned (.bool b) := by rw [h]

theorem append_S (a b : ByteArray) : a ++ b = S (a.data.toList ++ b.data.toList) := by
  apply eq_S
  rw [ByteArray.data_append, Array.toList_append]
theorem run_add_S {P : Program} (a b : ByteArray) (h : a.size + b.size ≤ 9223372036854775807) (wx : World) : (Op.stringOp .add a b).run P wx = .ok (.string (S (a.data.toList ++ b.data.toList))) wx := by
  rw [run_string_add_sum wx a b h, append_S]

/-- Bytes as cells. -/
def bc (l : List UInt8) : List Value := l.map fun b => Value.int .u8 b.toNat
theorem bc_append (a b : List UInt8) : bc (a ++ b) = bc a ++ bc b := by simp [bc]
theorem bc_length (a : List UInt8) : (bc a).length = a.length := by simp [bc]

/-- In w the slice v owns a row of bytes that holds l, in a block from B on; below B nothing differs from W0. -/
def Buf (B : Nat) (e : TypeId) (v : Value) (l : List UInt8) (W0 w : World) : Prop := Lib.OwnBuf B e v l.length (bc l) W0 w

theorem Buf.nil (e : TypeId) (w : World) : Buf w.heap.size e (.slice none 0 0) [] w w :=
  ⟨World.ownsRowF_nil _ _ _ _, Below.refl _ _, Nat.le_refl _⟩
theorem Buf.below {B : Nat} {e : TypeId} {v : Value} {l : List UInt8} {W0 w : World} (h : Buf B e v l W0 w) : Below B W0 w := h.2.1
theorem Buf.eq {B : Nat} {e : TypeId} {v : Value} {l m : List UInt8} {W0 w : World} (h : Buf B e v l W0 w) (hm : l = m) : Buf B e v m W0 w := hm ▸ h

section
variable {P : Program}

theorem buf_text {ops : Array Oper} {rest : List Oper} {o : Oper} {a : Act} {Q : Exit → Act → World → Prop} {w : World} (hgd : o.guard = none) (sl x : Operand) (t u : TypeId)
    (ho : o.op = .call { callee := .builtin .append, args := #[sl, x], argTypes := #[t, u] })
    (B : Nat) (e : TypeId) (i : TypeInfo) (ht : P.underlying t = some (.slice e)) (hu : P.underlying u = some .string) (hi : P.info? e = some i) (hz : i.zero = some (.int .u8 0)) (hsize : i.size = 1) (hby : i.bytes = 1)
    (v : Value) (l : List UInt8) (hs : a.eval sl = v) (W0 : World) (hb : Buf B e v l W0 w) (s : ByteArray) (hx : a.eval x = .string s) (hlen : l.length + s.size ≤ 140737488355328)
    (h : ∀ v' w', Buf B e v' (l ++ s.data.toList) W0 w' → wpList P ops Q rest (a.put o.dst v') w') : wpList P ops Q (o :: rest) a w := by
  refine Lib.wpList_append_text hgd sl x t u ho B e i ht hu hi hz hsize hby v l.length (bc l) hs W0 hb s hx hlen ?_
  intro v' w' hb'
  refine h v' w' ?_
  unfold Buf
  rw [bc_append, List.length_append, ← Lib.size_eq]
  exact hb'

theorem buf_byte {ops : Array Oper} {rest : List Oper} {o : Oper} {a : Act} {Q : Exit → Act → World → Prop} (hgd : o.guard = none) (s x : Operand) (t : TypeId)
    (ho : o.op = .call { callee := .builtin .append, args := #[s, x], argTypes := #[t, t] })
    (B : Nat) (e : TypeId) (i : TypeInfo) (ht : P.underlying t = some (.slice e)) (hi : P.info? e = some i) (hz : i.zero = some (.int .u8 0)) (hsize : i.size = 1) (hby : i.bytes = 1)
    (v : Value) (l : List UInt8) (hs : a.eval s = v) (W0 w0 : World) (c : Int) (b : UInt8) (hc : c = (b.toNat : Int)) (hb : Buf B e v l W0 w0)
    (hx : a.eval x = .slice (some ⟨w0.heap.size, 0, none⟩) 1 1) (hlen : l.length + 1 ≤ 140737488355328)
    (h : ∀ v' w', Buf B e v' (l ++ [b]) W0 w' → wpList P ops Q rest (a.put o.dst v') w') : wpList P ops Q (o :: rest) a (w0.alloc (.cells #[.int .u8 c] e)) := by
  refine Lib.wpList_append_byte hgd s x t ho B e i ht hi hz hsize hby v l.length (bc l) hs W0 w0 c hb hx hlen ?_
  intro v' w' hb'
  refine h v' w' ?_
  unfold Buf
  rw [bc_append, List.length_append]
  rw [hc] at hb'
  exact hb'

/-- 'string(b)'. -/
theorem Buf.convert {B : Nat} {e : TypeId} {v : Value} {l : List UInt8} {W0 w : World} (h : Buf B e v l W0 w) (src dst : TypeId) (hs : P.underlying src = some (.slice e)) (he : P.underlying e = some (.int .u8)) (hd : P.underlying dst = some .string) :
    (convert src dst v).run P w = .ok (.string (S l)) w := by
  rcases h.1.2 with ⟨rfl, h0⟩ | ⟨g, cap, cur, fz, rfl, hb, hg, hfz, hn, hcap, hcs, htake⟩
  · have : l = [] := List.eq_nil_of_length_eq_zero h0
    subst this
    exact Lib.run_convert_nil_bytes w src dst e 0 hs he hd
  · refine run_convert_bytes_back w src dst e ⟨g, 0, none⟩ cap l hs he hd (Lib.bytes_of_row hg ?_)
    rw [Nat.mul_one] at htake
    exact htake

/-- A buffer over what 'make' has laid. -/
theorem Buf.made {B : Nat} {e : TypeId} {v : Value} {W0 w w' : World} (ho : w'.ownsRow B e 1 v 0 []) (hg : w.grownBy w' none) (hb : Below B W0 w) (hB : B ≤ w.heap.size) : Buf B e v [] W0 w' :=
  ⟨World.ownsRowF_of ho, hb.grown hg hB (fun k hk => by cases hk), Nat.le_trans hB hg.size⟩
end

/-! ### Replacing -/
theorem index1 (c : UInt8) : ∀ s : List UInt8, (Lib.index s [c] = -1 ∧ c ∉ s) ∨ ∃ a b, s = a ++ c :: b ∧ c ∉ a ∧ Lib.index s [c] = (a.length : Int)
  | [] => .inl ⟨rfl, by simp⟩
  | x :: r => by
    rw [Lib.index_one]
    unfold Lib.indexByte
    by_cases h : x = c
    · subst h
      exact .inr ⟨[], r, rfl, by simp, by simp⟩
    · have ih := index1 c r
      rw [Lib.index_one] at ih
      have hx : (x == c) = false := beq_eq_false_iff_ne.2 h
      rw [if_neg (by simp [hx])]
      rcases ih with ⟨e, hn⟩ | ⟨a, b, e, hn, hi⟩
      · refine .inl ⟨by simp [e], ?_⟩
        intro hm
        rcases List.mem_cons.1 hm with hm | hm
        · exact h hm.symm
        · exact hn hm
      · refine .inr ⟨x :: a, b, by rw [e]; rfl, ?_, ?_⟩
        · intro hm
          rcases List.mem_cons.1 hm with hm | hm
          · exact h hm.symm
          · exact hn hm
        · rw [hi, if_neg (by rw [beq_iff_eq]; omega)]
          simp

/-- What the plain loop of replaceAll makes (old not empty, n at least the length of s). -/
def repl (old new : List UInt8) : Nat → List UInt8 → List UInt8
  | 0, s => s
  | n + 1, s => if Lib.index s old < 0 then s else s.take (Lib.index s old).toNat ++ new ++ repl old new n (s.drop ((Lib.index s old).toNat + old.length))

theorem repl_none {old new s : List UInt8} (h : Lib.index s old < 0) : ∀ n, repl old new n s = s
  | 0 => rfl
  | n + 1 => by unfold repl; rw [if_pos h]

theorem index_nil_neg {old : List UInt8} (ho : old ≠ []) : Lib.index [] old = -1 := by
  cases old with
  | nil => exact absurd rfl ho
  | cons c r => rfl

theorem repl_fuel {old new : List UInt8} (ho : old ≠ []) : ∀ (n m : Nat) (s : List UInt8), s.length ≤ n → s.length ≤ m → repl old new n s = repl old new m s
  | 0, m, s, h, _ => by
    have : s = [] := List.eq_nil_of_length_eq_zero (Nat.le_zero.1 h)
    subst this
    have hn : Lib.index [] old < 0 := by rw [index_nil_neg ho]; decide
    rw [repl_none hn, repl_none hn]
  | n + 1, 0, s, _, h => by
    have : s = [] := List.eq_nil_of_length_eq_zero (Nat.le_zero.1 h)
    subst this
    have hn : Lib.index [] old < 0 := by rw [index_nil_neg ho]; decide
    rw [repl_none hn, repl_none hn]
  | n + 1, m + 1, s, h1, h2 => by
    unfold repl
    by_cases hi : Lib.index s old < 0
    · rw [if_pos hi, if_pos hi]
    · rw [if_neg hi, if_neg hi]
      have hl : 0 < old.length := List.length_pos_iff.2 ho
      rw [repl_fuel ho n m _ (by rw [List.length_drop]; omega) (by rw [List.length_drop]; omega)]

theorem flat_keep (c : UInt8) (new : List UInt8) : ∀ a : List UInt8, c ∉ a → (a.flatMap fun b => if b = c then new else [b]) = a
  | [], _ => rfl
  | x :: r, h => by
    have hx : ¬ x = c := fun e => h (by simp [e])
    have hr : c ∉ r := fun e => h (by simp [e])
    rw [List.flatMap_cons, flat_keep c new r hr, if_neg hx]
    rfl

/-- One byte replaced: byte by byte. -/
theorem repl_one (c : UInt8) (new : List UInt8) : ∀ (n : Nat) (s : List UInt8), s.length ≤ n → repl [c] new n s = s.flatMap fun b => if b = c then new else [b]
  | 0, s, h => by
    have : s = [] := List.eq_nil_of_length_eq_zero (Nat.le_zero.1 h)
    subst this
    rfl
  | n + 1, s, h => by
    rcases index1 c s with ⟨e, hn⟩ | ⟨a, b, e, hn, hi⟩
    · rw [repl_none (by rw [e]; decide), flat_keep c new s hn]
    · unfold repl
      rw [hi, if_neg (by omega), Int.toNat_natCast]
      subst e
      have hl : b.length ≤ n := by simp at h; omega
      have e1 : (a ++ c :: b).take a.length = a := by simp
      have e2 : (a ++ c :: b).drop (a.length + [c].length) = b := by simp
      rw [e1, e2, repl_one c new n b hl, List.flatMap_append, flat_keep c new a hn, List.flatMap_cons, if_pos rfl, List.append_assoc]

theorem repl_step {old new s : List UInt8} (ho : old ≠ []) {i : Nat} (hi : Lib.index s old = (i : Int)) (hr : i + old.length ≤ s.length) :
    repl old new s.length s = s.take i ++ new ++ repl old new (s.drop (i + old.length)).length (s.drop (i + old.length)) := by
  have hl : 0 < old.length := List.length_pos_iff.2 ho
  have hs : s.length = (s.length - 1) + 1 := by omega
  rw [hs, repl, if_neg (by omega), hi, Int.toNat_natCast]
  rw [repl_fuel ho (s.length - 1) (s.drop (i + old.length)).length _ (by rw [List.length_drop]; omega) (Nat.le_refl _)]

theorem bd_step (i o t n : Nat) (h : i + o ≤ t) (ho : 1 ≤ o) : i + n + (t - (i + o)) * (n + 1) ≤ t * (n + 1) := by
  have e : t = (t - (i + o)) + (i + o) := by omega
  have h1 : t * (n + 1) = (t - (i + o)) * (n + 1) + (i + o) * (n + 1) := by
    rw [← Nat.add_mul, ← e]
  have h2 : (i + 1) * (n + 1) ≤ (i + o) * (n + 1) := Nat.mul_le_mul_right _ (by omega)
  have h3 : (i + 1) * (n + 1) = i * n + i + n + 1 := by
    rw [Nat.add_mul, Nat.mul_add, Nat.mul_one, Nat.one_mul]; omega
  omega

theorem index_cases (s sub : ByteArray) : Lib.indexB s sub = -1 ∨ ∃ i : Nat, Lib.indexB s sub = (i : Int) ∧ i + sub.size ≤ s.size := by
  have h1 := Lib.index_ge s.data.toList sub.data.toList
  by_cases h : 0 ≤ Lib.index s.data.toList sub.data.toList
  · have h2 := Lib.index_room _ _ h
    rw [← Lib.size_eq, ← Lib.size_eq] at h2
    refine .inr ⟨(Lib.indexB s sub).toNat, ?_, ?_⟩
    · show Lib.index _ _ = _
      unfold Lib.indexB
      omega
    · unfold Lib.indexB
      omega
  · refine .inl ?_
    show Lib.index _ _ = _
    omega

end Go.Proofs.YtglchiomdojjoaaGreatFmt
