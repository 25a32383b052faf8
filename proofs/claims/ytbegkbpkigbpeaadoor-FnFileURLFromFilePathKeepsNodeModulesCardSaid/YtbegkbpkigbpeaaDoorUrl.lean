/-
  The path of the URL that a file path makes, in plain Lean, and the contracts of the functions that make and test such a URL; conditions: the sizes that each names.
-/
import Derived.Test.YtbegkbpkigbpeaaDoorRepl
import Derived.Deep.QuietTactic
import Derived.BigQuiet
namespace Go.Proofs.YtbegkbpkigbpeaaDoor
open Go.RowKit

/-- Each backslash turned into a slash. -/
def slashed (l : List UInt8) : List UInt8 := l.map fun b => if b = 92 then 47 else b
/-- The URL's path. -/
def upath (l : List UInt8) : List UInt8 := if (slashed l).head? = some 47 then slashed l else 47 :: slashed l

theorem slashed_flat (l : List UInt8) : (l.flatMap fun b => if b = 92 then [47] else [b]) = slashed l := by
  unfold slashed
  induction l with
  | nil => rfl
  | cons b r ih =>
    rw [List.flatMap_cons, ih, List.map_cons]
    by_cases h : b = 92 <;> simp [h]

theorem slashed_length (l : List UInt8) : (slashed l).length = l.length := by simp [slashed]
theorem upath_head (l : List UInt8) : (upath l).head? = some 47 := by
  unfold upath
  split
  · assumption
  · rfl
theorem upath_no (l : List UInt8) : (92 : UInt8) ∉ upath l := by
  have h : (92 : UInt8) ∉ slashed l := by
    unfold slashed
    intro h
    obtain ⟨b, _, hb⟩ := List.mem_map.1 h
    split at hb
    · cases hb
    · contradiction
  unfold upath
  split
  · exact h
  · intro hm
    rcases List.mem_cons.1 hm with hm | hm
    · cases hm
    · exact h hm
theorem slashed_id : ∀ l : List UInt8, (92 : UInt8) ∉ l → slashed l = l
  | [], _ => rfl
  | b :: r, h => by
    have h1 : ¬ b = 92 := fun e => h (by simp [e])
    have e : slashed (b :: r) = (if b = 92 then 47 else b) :: slashed r := rfl
    rw [e, if_neg h1, slashed_id r (fun e => h (by simp [e]))]
theorem upath_twice (l : List UInt8) : upath (upath l) = upath l := by
  have h := slashed_id _ (upath_no l)
  have h2 := upath_head l
  have e : upath (upath l) = if (slashed (upath l)).head? = some 47 then slashed (upath l) else 47 :: slashed (upath l) := rfl
  rw [e, h, if_pos h2]
theorem upath_length (l : List UInt8) : (upath l).length ≤ l.length + 1 := by
  unfold upath
  have := slashed_length l
  split
  · omega
  · simp [slashed_length]
theorem hasPrefix_slash (l : List UInt8) : Lib.hasPrefix l [47] = true ↔ l.head? = some 47 := by
  unfold Lib.hasPrefix
  cases l with
  | nil => simp
  | cons b r => simp [List.isPrefixOf]; exact eq_comm

set_option maxHeartbeats 400000 in
theorem hasPrefix_any (s p : ByteArray) (w : World) (_hs : s.size ≤ 140737488355328) (_hp : p.size ≤ 140737488355328) :
    Calls Tryd.prog 10 #[.string s, .string p] w fun e w' => e = .returned (.bool (Lib.hasPrefix s.data.toList p.data.toList)) ∧ w = w' := by
  have HR := Lib.hid (Lib.hasPrefix_raw s p)
  by_cases h : p.size ≤ s.size
  · have hd : decide ((p.size : Int) ≤ s.size) = true := by simp; omega
    go_enter Tryd.func10, Tryd.ntmps10
    go_wp2
    go_ret
    refine ⟨ret_bool ?_, rfl⟩
    rw [← HR.out]
    simp [h]
  · have hd : decide ((p.size : Int) ≤ s.size) = false := by simp; omega
    go_enter Tryd.func10, Tryd.ntmps10
    go_wp2
    go_ret
    refine ⟨ret_bool ?_, rfl⟩
    rw [← HR.out]
    simp [h]
theorem hasPrefix_val (s p : ByteArray) (r : Bool) (w : World) (hs : s.size ≤ 140737488355328) (hp : p.size ≤ 140737488355328) (hr : Lib.hasPrefix s.data.toList p.data.toList = r) :
    Calls Tryd.prog 10 #[.string s, .string p] w fun e w' => e = .returned (.bool r) ∧ w = w' := by
  have := hasPrefix_any s p w hs hp
  rwa [hr] at this

/-- The block of a URL with this path. -/
def urlCells (p : ByteArray) : Array Value := #[.string ⟨#[102, 105, 108, 101]⟩, .string ⟨#[]⟩, .pointer none, .string ⟨#[]⟩, .string p, .string ⟨#[]⟩, .string ⟨#[]⟩, .string ⟨#[]⟩, .string ⟨#[]⟩, .bool false, .bool false]

def MadeURL (p : ByteArray) (w : World) (e : Ending) (w' : World) : Prop :=
  ∃ b, e = .returned (.pointer (some ⟨b, 0, none⟩)) ∧ w'.heap[b]? = some (.cells (urlCells p) 29 (0, 0)) ∧ Below w.heap.size w w'

set_option maxHeartbeats 400000 in
theorem fileURL_any (s : ByteArray) (w : World) (hs : s.size ≤ 134217728) :
    Calls Tryd.prog 7 #[.string s] w (MadeURL (S (upath s.data.toList)) w) := by
  have h1 : s.size * ((ByteArray.mk #[47]).size + 1) ≤ 1099511627776 := by show s.size * 2 ≤ _; omega
  have h2 := replaceAll_any s ⟨#[92]⟩ ⟨#[47]⟩ w (by decide) (by decide) h1 (by decide)
  have e0 : repl (ByteArray.mk #[92]).data.toList (ByteArray.mk #[47]).data.toList s.size s.data.toList = slashed s.data.toList := by
    rw [← slashed_flat]
    exact repl_one 92 [47] s.size _ (by rw [Lib.size_eq]; exact Nat.le_refl _)
  rw [e0] at h2
  have HC := Lib.hid h2
  clear h1 h2 e0
  have hsl : (slashed s.data.toList).length = s.size := by rw [slashed_length, ← Lib.size_eq]
  have hsl' : (slashed s.data.toList).length ≤ 134217728 := by omega
  clear hsl
  by_cases hp : (slashed s.data.toList).head? = some 47
  · have hu : upath s.data.toList = slashed s.data.toList := by unfold upath; rw [if_pos hp]
    have hpr : Lib.hasPrefix (S (slashed s.data.toList)).data.toList (ByteArray.mk #[47]).data.toList = true := by rw [S_data]; exact (hasPrefix_slash _).2 hp
    rw [hu]
    have HP := Lib.hid hpr
    clear hpr hp hu
    go_enter Tryd.func7, Tryd.ntmps7
    go_wp2_with fail
    refine HC.out.mono ?_
    rintro e w1 ⟨rfl, hb1⟩
    go_wp2_with fail
    refine (hasPrefix_val (S (slashed s.data.toList)) _ true _ (by rw [S_size]; omega) (by decide) HP.out).mono ?_
    rintro e w' ⟨rfl, rfl⟩
    go_wp2_with fail
    go_ret
    exact ⟨_, rfl, heap_alloc_new _ _, hb1.alloc hb1.size _⟩
  · have hu : upath s.data.toList = 47 :: slashed s.data.toList := by unfold upath; rw [if_neg hp]
    have hpr : Lib.hasPrefix (S (slashed s.data.toList)).data.toList (ByteArray.mk #[47]).data.toList = false := by
      rw [S_data, Bool.eq_false_iff]
      intro h
      exact hp ((hasPrefix_slash _).1 h)
    rw [hu]
    have HP := Lib.hid hpr
    clear hpr hp hu
    have hadd := run_add_S (P := Tryd.prog) ⟨#[47]⟩ (S (slashed s.data.toList)) (by rw [S_size]; show 1 + _ ≤ _; omega)
    rw [S_data] at hadd
    go_enter Tryd.func7, Tryd.ntmps7
    go_wp2_with fail
    refine HC.out.mono ?_
    rintro e w1 ⟨rfl, hb1⟩
    go_wp2_with fail
    refine (hasPrefix_val (S (slashed s.data.toList)) _ false _ (by rw [S_size]; omega) (by decide) HP.out).mono ?_
    rintro e w' ⟨rfl, rfl⟩
    go_wp2_with fail
    go_ret
    exact ⟨_, rfl, heap_alloc_new _ _, hb1.alloc hb1.size _⟩

end Go.Proofs.YtbegkbpkigbpeaaDoor
