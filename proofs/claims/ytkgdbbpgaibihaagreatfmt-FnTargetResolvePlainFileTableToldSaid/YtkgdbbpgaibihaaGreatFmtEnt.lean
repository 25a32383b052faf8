import Derived.Test.YtkgdbbpgaibihaaGreatFmtSeg
import Derived.Test.YtkgdbbpgaibihaaGreatFmtRepl
import Derived.Test.YtkgdbbpgaibihaaGreatFmtShelf
import Derived.Deep.QuietTactic
import Derived.BigQuiet
namespace Go.Proofs.YtkgdbbpgaibihaaGreatFmt
open Go.RowKit

/-- What zzStringEntry builds. -/
def Ent (s : ByteArray) : Value := .agg #[.string s, .slice none 0 0, .slice none 0 0, .slice none 0 0, .int .i32 0, .int .i32 0, .int .u8 1]
def Qry : Value := .agg #[.pointer none, .pointer none, .pointer none, .int .u8 0]

set_option maxHeartbeats 400000 in
theorem entry_any (s : ByteArray) (w : World) : Calls Tryz.prog 13 #[.string s] w fun e w' => e = .returned (Ent s) ∧ Below w.heap.size w w' := by
  go_enter Tryz.func13, Tryz.ntmps13
  go_wp2
  refine bodyPost_ret (v := Ent s) (by simp [results, Tryz.f13, Ent, go_sem]) rfl ⟨rfl, ?_⟩
  exact (Below.refl _ _).alloc (Nat.le_refl _) _

/-- What esmPackageTargetResolve says beside: a text that no law looks at. -/
def Dbg (x : ByteArray) : Value := .agg #[.string x, .slice none 0 0, .int .i32 0, .int .i32 0, .bool false]
/-- The three results. -/
def Res (r : ByteArray) (st : Int) (w : World) (e : Ending) (w' : World) : Prop := (∃ x, e = .returned (.tuple #[.string r, .int .u8 st, Dbg x])) ∧ Below w.heap.size w w'

set_option maxHeartbeats 4000000 in
set_option maxRecDepth 100000 in
theorem res_sub (u t s : ByteArray) (i : Bool) (w : World) (ht : t.size ≤ 1073741824) (h0 : s.toList.isEmpty = false) (hsuf : Lib.hasSuffix t.data.toList [47] = false) :
    Calls Tryz.prog 12 #[Qry, .string u, Ent t, .string s, .bool false, .bool i, .map none] w (Res t 7 w) := by
  have H := Lib.hid hsuf
  clear hsuf
  unfold Qry Ent
  go_enter Tryz.func12, Tryz.ntmps12
  go_wp2_with fail
  refine (Tryz.strings_HasSuffix t ⟨#[47]⟩ _ (by omega)).mono ?_
  rintro e w' ⟨rfl, rfl⟩
  have hs2 : Lib.hasSuffix t.data.toList (⟨#[47]⟩ : ByteArray).data.toList = false := H.out
  rw [hs2]
  go_wp2_with fail
  go_region
  go_wp2_with fail
  refine bodyPost_ret (v := .tuple #[.string t, .int .u8 7, Dbg _]) (by simp [results, Tryz.results12, Dbg, go_sem]; rfl) rfl ⟨⟨_, rfl⟩, ?_⟩
  exact ((((Below.refl w.heap.size w).alloc (Nat.le_refl _) _).alloc (by simp) _).alloc (by simp; omega) _).drew

/-! ### plain facts -/
theorem suf_no {x b : List UInt8} {c : UInt8} (hb : b ≠ []) (hc : c ∉ b) : Lib.hasSuffix (x ++ b) [c] = false := by
  unfold Lib.hasSuffix
  rw [Bool.eq_false_iff]
  intro h
  rw [List.isSuffixOf_iff_suffix] at h
  obtain ⟨y, hy⟩ := h
  have h1 := congrArg List.getLast? hy
  rw [List.getLast?_append, List.getLast?_append] at h1
  have h2 : b.getLast? = some c := by
    cases e : b.getLast? with
    | none => exact absurd (List.getLast?_eq_none_iff.1 e) hb
    | some v => rw [e] at h1; simpa using h1.symm
  exact hc (List.mem_of_getLast? h2)
theorem suf_yes (x : List UInt8) (c : UInt8) : Lib.hasSuffix (x ++ [c]) [c] = true := by
  unfold Lib.hasSuffix
  rw [List.isSuffixOf_iff_suffix]
  exact ⟨x, rfl⟩
theorem idx_at (c : UInt8) (y : List UInt8) : ∀ x : List UInt8, c ∉ x → Lib.indexByte (x ++ c :: y) c = (x.length : Int)
  | [], _ => by simp [Lib.indexByte]
  | d :: x, h => by
    have h1 : (d == c) = false := beq_eq_false_iff_ne.2 fun e => h (by rw [e]; exact List.mem_cons_self ..)
    have h2 := idx_at c y x fun e => h (List.mem_cons_of_mem _ e)
    have h3 : (((x.length : Int)) == -1) = false := by rw [beq_eq_false_iff_ne]; omega
    rw [List.cons_append, Lib.indexByte, h1, h2, h3]
    simp

/-- The three blocks that esmPackageTargetResolve lays at its entry. -/
structure Std (b : Nat) (t : ByteArray) (w : World) : Prop where
  q2 : w.cell? ⟨b, 2, none⟩ = some (.pointer none)
  e0 : w.cell? ⟨b + 1, 0, none⟩ = some (.string t)
  e4 : w.cell? ⟨b + 1, 4, none⟩ = some (.int .i32 0)
  e5 : w.cell? ⟨b + 1, 5, none⟩ = some (.int .i32 0)
  d0 : w.cell? ⟨b + 1 + 1, 0, none⟩ = some (.string ⟨#[]⟩)
  d1 : w.cell? ⟨b + 1 + 1, 1, none⟩ = some (.slice none 0 0)
  d2 : w.cell? ⟨b + 1 + 1, 2, none⟩ = some (.int .i32 0)
  d3 : w.cell? ⟨b + 1 + 1, 3, none⟩ = some (.int .i32 0)
  d4 : w.cell? ⟨b + 1 + 1, 4, none⟩ = some (.bool false)
  f0 : w.frozen? ⟨b + 1 + 1, 0, none⟩ = false
  f1 : w.frozen? ⟨b + 1 + 1, 1, none⟩ = false
  f2 : w.frozen? ⟨b + 1 + 1, 2, none⟩ = false
  f3 : w.frozen? ⟨b + 1 + 1, 3, none⟩ = false
  f4 : w.frozen? ⟨b + 1 + 1, 4, none⟩ = false
theorem Std.up {b : Nat} {t : ByteArray} {w w' : World} {B : Nat} (h : Std b t w) (hb : Below B w w') (hB : b + 3 ≤ B) : Std b t w' where
  q2 := (hb.cell (by show b < B; omega)).trans h.q2
  e0 := (hb.cell (by show b + 1 < B; omega)).trans h.e0
  e4 := (hb.cell (by show b + 1 < B; omega)).trans h.e4
  e5 := (hb.cell (by show b + 1 < B; omega)).trans h.e5
  d0 := (hb.cell (by show b + 1 + 1 < B; omega)).trans h.d0
  d1 := (hb.cell (by show b + 1 + 1 < B; omega)).trans h.d1
  d2 := (hb.cell (by show b + 1 + 1 < B; omega)).trans h.d2
  d3 := (hb.cell (by show b + 1 + 1 < B; omega)).trans h.d3
  d4 := (hb.cell (by show b + 1 + 1 < B; omega)).trans h.d4
  f0 := (hb.frozen (by show b + 1 + 1 < B; omega)).trans h.f0
  f1 := (hb.frozen (by show b + 1 + 1 < B; omega)).trans h.f1
  f2 := (hb.frozen (by show b + 1 + 1 < B; omega)).trans h.f2
  f3 := (hb.frozen (by show b + 1 + 1 < B; omega)).trans h.f3
  f4 := (hb.frozen (by show b + 1 + 1 < B; omega)).trans h.f4
/-- The world at the door. -/
def door (t : ByteArray) (w : World) : World := ((w.alloc (.cells #[.pointer none, .pointer none, .pointer none, .int .u8 0] 43)).alloc (.cells #[.string t, .slice none 0 0, .slice none 0 0, .slice none 0 0, .int .i32 0, .int .i32 0, .int .u8 1] 50)).alloc (.cells #[.string ⟨#[]⟩, .slice none 0 0, .int .i32 0, .int .i32 0, .bool false] 36)
theorem door_std (t : ByteArray) (w : World) : Std w.heap.size t (door t w) := by
  unfold door
  refine ⟨?_, ?_, ?_, ?_, ?_, ?_, ?_, ?_, ?_, ?_, ?_, ?_, ?_, ?_⟩ <;> go_simp
theorem door_below (t : ByteArray) (w : World) : Below w.heap.size w (door t w) := (((Below.refl w.heap.size w).alloc (Nat.le_refl _) _).alloc (by simp) _).alloc (by simp; omega) _
theorem door_size (t : ByteArray) (w : World) : (door t w).heap.size = w.heap.size + 3 := by simp [door]

theorem free_at {a b : List UInt8} (ha : Free a) (hb : Free b) : Free (a ++ 42 :: b) := by
  intro c hc
  rw [List.mem_append, List.mem_cons] at hc
  rcases hc with h | rfl | h
  · exact ha c h
  · rfl
  · exact hb c h
theorem star_not {l m : List UInt8} (h : 42 ∈ l) (hm : 42 ∉ m) : l ≠ m := fun e => hm (e ▸ h)
theorem star_in (a b : List UInt8) : (42 : UInt8) ∈ a ++ 42 :: b := by simp
theorem keep_at {a b : List UInt8} (ha : Free a) (hb : Free b) : Keep (a ++ 42 :: b) :=
  ⟨star_not (star_in a b) (by decide), star_not (star_in a b) (by decide), star_not (star_in a b) (by decide), (free_at ha hb).not47⟩
theorem bad_at (a b : List UInt8) : badS (a ++ 42 :: b) = false := by
  unfold badS
  rw [beq_eq_false_iff_ne.2 (star_not (star_in a b) (by decide)), beq_eq_false_iff_ne.2 (star_not (star_in a b) (by decide)), beq_eq_false_iff_ne.2 (star_not (star_in a b) (by unfold nodeM; decide))]
  rfl
/-- What path.Join makes. -/
def rsv (q f : List UInt8) : List UInt8 := 47 :: (q ++ 47 :: f)
theorem join_any (bk c : Nat) (u t : ByteArray) (q f : List UInt8) (w : World) (hu : u.data.toList = 47 :: q) (ht : t.data.toList = 46 :: 47 :: f) (hq : Keep q) (hf : Keep f) (hus : u.size ≤ 1073741824) (hts : t.size ≤ 1073741824)
    (h0 : w.cell? ⟨bk, 0, none⟩ = some (.string u)) (h1 : w.cell? ⟨bk, 1, none⟩ = some (.string t)) (hbk : bk < w.heap.size) :
    Calls Tryz.prog 22 #[.slice (some ⟨bk, 0, none⟩) 2 c] w fun e w' => e = .returned (.string (S (rsv q f))) ∧ Below w.heap.size w w' := by
  have h := Tryz.path_Join_rules bk 0 c [u, t] w (fun j x hx => by
    match j, hx with
    | 0, hx => rw [← Option.some.inj hx]; exact h0
    | 1, hx => rw [← Option.some.inj hx]; exact h1) hbk (by
      simp only [List.map_cons, List.map_nil, Lib.Pa.lens, List.sum_cons, List.sum_nil, List.length_cons, List.length_nil]
      rw [← Lib.size_eq, ← Lib.size_eq]
      omega)
  simp only [List.map_cons, List.map_nil] at h
  rw [hu, ht, join_dot hq hf] at h
  exact h
theorem join_any1 (bk c : Nat) (u : ByteArray) (q f : List UInt8) (w : World) (hu : u.data.toList = rsv q f) (hq : Keep q) (hf : Keep f) (hus : u.size ≤ 1073741824)
    (h0 : w.cell? ⟨bk, 0, none⟩ = some (.string u)) (h1 : w.cell? ⟨bk, 1, none⟩ = some (.string ⟨#[]⟩)) (hbk : bk < w.heap.size) :
    Calls Tryz.prog 22 #[.slice (some ⟨bk, 0, none⟩) 2 c] w fun e w' => e = .returned (.string (S (rsv q f))) ∧ Below w.heap.size w w' := by
  have h := Tryz.path_Join_rules bk 0 c [u, ⟨#[]⟩] w (fun j x hx => by
    match j, hx with
    | 0, hx => rw [← Option.some.inj hx]; exact h0
    | 1, hx => rw [← Option.some.inj hx]; exact h1) hbk (by
      simp only [List.map_cons, List.map_nil, Lib.Pa.lens, List.sum_cons, List.sum_nil, List.length_cons, List.length_nil]
      rw [← Lib.size_eq]
      omega)
  simp only [List.map_cons, List.map_nil] at h
  rw [hu] at h
  unfold rsv at h
  rw [join_one hq hf] at h
  exact h

theorem set_below {b : Nat} {w0 wx : World} (h : Below b w0 wx) (a0 a1 a2 a3 a4 : Value) : Below b w0
    (((((wx.setCell ⟨b + 1 + 1, 0, none⟩ a0).setCell ⟨b + 1 + 1, 1, none⟩ a1).setCell ⟨b + 1 + 1, 2, none⟩ a2).setCell ⟨b + 1 + 1, 3, none⟩ a3).setCell ⟨b + 1 + 1, 4, none⟩ a4).drew :=
  (((((h.setCell (by show b ≤ b + 1 + 1; omega) _).setCell (by show b ≤ b + 1 + 1; omega) _).setCell (by show b ≤ b + 1 + 1; omega) _).setCell (by show b ≤ b + 1 + 1; omega) _).setCell (by show b ≤ b + 1 + 1; omega) _).drew
theorem rsv_star (q a b : List UInt8) : rsv q (a ++ 42 :: b) = (47 :: (q ++ 47 :: a)) ++ 42 :: b := by simp [rsv]
theorem head_not {q a : List UInt8} (hq : (42 : UInt8) ∉ q) (ha : (42 : UInt8) ∉ a) : (42 : UInt8) ∉ (47 :: (q ++ 47 :: a) : List UInt8) := by
  intro h
  rw [List.mem_cons, List.mem_append, List.mem_cons] at h
  rcases h with h | h | h | h
  · cases h
  · exact hq h
  · cases h
  · exact ha h
theorem rep_star (n q a b : List UInt8) (m : Nat) (hm : (rsv q (a ++ 42 :: b)).length ≤ m) (hq : (42 : UInt8) ∉ q) (ha : (42 : UInt8) ∉ a) (hb : (42 : UInt8) ∉ b) :
    repl [42] n m (rsv q (a ++ 42 :: b)) = 47 :: (q ++ 47 :: (a ++ (n ++ b))) := by
  rw [repl_one 42 n m _ hm, rsv_star]
  have key : ∀ x : List UInt8, (42 : UInt8) ∉ x → (x ++ 42 :: b).flatMap (fun b => if b = 42 then n else [b]) = x ++ (n ++ b) := fun x hx => by
    rw [List.flatMap_append, List.flatMap_cons, flat_keep 42 n x hx, flat_keep 42 n b hb, if_pos rfl]
  rw [key _ (head_not hq ha)]
  simp
theorem mul_bound {m n : Nat} (h : m + n ≤ 1048579) : m * (n + 1) ≤ 1099511627776 := by
  by_cases h1 : m ≤ 524290
  · exact Nat.le_trans (Nat.mul_le_mul h1 (show n + 1 ≤ 1048580 by omega)) (by decide)
  · exact Nat.le_trans (Nat.mul_le_mul (show m ≤ 1048579 by omega) (show n + 1 ≤ 524290 by omega)) (by decide)
theorem replace_star (R s r : ByteArray) (q a b : List UInt8) (w : World) (hR : R.data.toList = rsv q (a ++ 42 :: b)) (hr : r = S (47 :: (q ++ 47 :: (a ++ (s.data.toList ++ b))))) (hq : (42 : UInt8) ∉ q) (ha : (42 : UInt8) ∉ a) (hb : (42 : UInt8) ∉ b)
    (hsz : q.length + a.length + b.length + s.size ≤ 1048576) : Calls Tryz.prog 20 #[.string R, .string ⟨#[42]⟩, .string s] w fun e w' => e = .returned (.string r) ∧ Below w.heap.size w w' := by
  have hl : R.size = q.length + a.length + b.length + 3 := by
    rw [Lib.size_eq, hR]
    simp [rsv]
    omega
  have h := replaceAll_any R ⟨#[42]⟩ s w (by decide) (by decide) (mul_bound (by omega)) (by omega)
  rw [hR, show (⟨#[42]⟩ : ByteArray).data.toList = [42] from rfl, rep_star _ q a b _ (by rw [← hR, ← Lib.size_eq]; exact Nat.le_refl _) hq ha hb, ← hr] at h
  exact h

set_option maxHeartbeats 4000000 in
set_option maxRecDepth 100000 in
theorem res_pat (u t s r : ByteArray) (st : Int) (q a b : List UInt8) (i : Bool) (w : World) (hsz : q.length + a.length + b.length + s.size ≤ 1048576) (hu : u.data.toList = 47 :: q) (htl : t.data.toList = 46 :: 47 :: (a ++ 42 :: b))
    (hq : Keep q) (hq2 : 42 ∉ q) (ha : Free a) (ha2 : 42 ∉ a) (hb : Free b) (hb2 : 42 ∉ b) (hs : Free s.data.toList)
    (hr : r = S (47 :: (q ++ 47 :: (a ++ (s.data.toList ++ b))))) (hst : st = if b = [] then 4 else 3) :
    Calls Tryz.prog 12 #[Qry, .string u, Ent t, .string s, .bool true, .bool i, .map none] w (Res r st w) := by
  have hf := free_at ha hb
  have hk := keep_at ha hb
  have hbad := bad_at a b
  have ht : t.size ≤ 1073741824 := by
    rw [Lib.size_eq, htl]
    simp
    omega
  have hus : u.size ≤ 1073741824 := by
    rw [Lib.size_eq, hu]
    simp
    omega
  have H := Lib.hid (And.intro htl (And.intro hf (And.intro hbad hs)))
  have HK := Lib.hid (And.intro hu (And.intro hq hk))
  have HR := Lib.hid (And.intro hr (And.intro hst (And.intro hq2 (And.intro ha2 (And.intro hb hb2)))))
  clear htl hf hbad hs hu hq hk hr hst hq2 ha ha2 hb hb2
  unfold Qry Ent
  go_enter Tryz.func12, Tryz.ntmps12
  go_wp2_with fail
  refine (Tryz.strings_HasPrefix t ⟨#[46, 47]⟩ _).mono ?_
  rintro e w' ⟨rfl, rfl⟩
  have hs2 : Lib.hasPrefix t.data.toList (⟨#[46, 47]⟩ : ByteArray).data.toList = true := by rw [H.out.1]; rfl
  rw [hs2]
  go_wp2_with fail
  refine (seg_dot t (a ++ 42 :: b) _ H.out.1 H.out.2.1 ht).mono ?_
  rintro e w2 ⟨rfl, hw2⟩
  rw [show S (segOf (a ++ 42 :: b)) = (⟨#[]⟩ : ByteArray) by unfold segOf; rw [H.out.2.2.1]; rfl]
  have hw2 : Below (door t w).heap.size (door t w) w2 := hw2
  rw [door_size] at hw2
  have hd := (door_std t w).up hw2 (Nat.le_refl _)
  have hz2 : w.heap.size + 3 ≤ w2.heap.size := by have := hw2.size; rwa [door_size] at this
  have hbw2 := (door_below t w).trans (hw2.mono (by omega))
  have HD := Lib.hid (And.intro hd hbw2)
  clear hw2 hbw2
  obtain ⟨q2, e0, e4, e5, d0, d1, d2, d3, d4, f0, f1, f2, f3, f4⟩ := hd
  go_wp2_with fail
  refine (join_any w2.heap.size 2 u t q (a ++ 42 :: b) (w2.alloc (.cells #[.string u, .string t] 9)) HK.out.1 H.out.1 HK.out.2.1 HK.out.2.2 hus ht (by go_simp) (by go_simp) (by simp)).mono ?_
  rintro e w3 ⟨rfl, hw3⟩
  have hb23 : Below w2.heap.size w2 (w2.alloc (.cells #[.string u, .string t] 9)) := (Below.refl _ _).alloc (Nat.le_refl _) _
  have hb3 := hb23.trans (hw3.mono (by simp))
  have hd3 := HD.out.1.up hb3 hz2
  have hz3 := hb3.size
  have HD3 := Lib.hid (And.intro hd3 (HD.out.2.trans (hb3.mono (by omega))))
  clear q2 e0 e4 e5 d0 d1 d2 d3 d4 f0 f1 f2 f3 f4 hw3 hb23 hb3
  obtain ⟨R, hR⟩ : ∃ R, S (rsv q (a ++ 42 :: b)) = R := ⟨_, rfl⟩
  rw [hR]
  have HRR := Lib.hid hR
  clear hR
  obtain ⟨q2, e0, e4, e5, d0, d1, d2, d3, d4, f0, f1, f2, f3, f4⟩ := hd3
  go_wp2_with fail
  refine (seg_free s _ H.out.2.2.2).mono ?_
  rintro e w4 ⟨rfl, hw4⟩
  rw [show S [] = (⟨#[]⟩ : ByteArray) from rfl]
  have hd4 := HD3.out.1.up hw4 (by omega)
  have hz4 := hw4.size
  have HD4 := Lib.hid (And.intro hd4 (HD3.out.2.trans (hw4.mono (by omega))))
  clear q2 e0 e4 e5 d0 d1 d2 d3 d4 f0 f1 f2 f3 f4 hw4
  obtain ⟨q2, e0, e4, e5, d0, d1, d2, d3, d4, f0, f1, f2, f3, f4⟩ := hd4
  go_wp2_with fail
  have hRl : R.data.toList = rsv q (a ++ 42 :: b) := by rw [← HRR.out, S_data]
  have hRz : R.size ≤ 1048579 := by
    rw [Lib.size_eq, hRl]
    simp [rsv]
    omega
  have HRL := Lib.hid hRl
  clear hRl
  refine (replace_star R s r q a b _ HRL.out HR.out.1 HR.out.2.2.1 HR.out.2.2.2.1 HR.out.2.2.2.2.2 hsz).mono ?_
  rintro e w5 ⟨rfl, hw5⟩
  have hd5 := HD4.out.1.up hw5 (by omega)
  have hz5 := hw5.size
  have HD5 := Lib.hid (And.intro hd5 (HD4.out.2.trans (hw5.mono (by omega))))
  clear q2 e0 e4 e5 d0 d1 d2 d3 d4 f0 f1 f2 f3 f4 hw5
  obtain ⟨q2, e0, e4, e5, d0, d1, d2, d3, d4, f0, f1, f2, f3, f4⟩ := hd5
  go_wp2_with fail
  refine (Tryz.strings_HasSuffix R ⟨#[42]⟩ _ (by omega)).mono ?_
  rintro e w6 ⟨rfl, rfl⟩
  by_cases hb0 : b = []
  · have hst : st = 4 := by rw [HR.out.2.1, if_pos hb0]
    subst hst
    have hsf : Lib.hasSuffix R.data.toList (⟨#[42]⟩ : ByteArray).data.toList = true := by
      rw [HRL.out, rsv_star, hb0]
      exact suf_yes _ 42
    have HI := Lib.hid (show Lib.indexByte R.data.toList (42 : Int).toNat.toUInt8 = (R.size : Int) - 1 by
      have h := idx_at 42 b _ (head_not HR.out.2.2.1 HR.out.2.2.2.1)
      rw [← rsv_star, ← HRL.out] at h
      refine h.trans ?_
      rw [Lib.size_eq, HRL.out, rsv_star, hb0]
      simp
      omega)
    rw [hsf]
    clear hsf hb0
    go_wp2_with fail
    refine (Tryz.strings_IndexByte R 42 _).mono ?_
    rintro e w7 ⟨rfl, rfl⟩
    rw [HI.out]
    go_wp2_with fail
    go_region
    all_goals (go_wp2_with fail)
    refine bodyPost_ret (v := .tuple #[.string r, .int .u8 4, Dbg ⟨#[]⟩]) (by simp [results, Tryz.results12, Dbg, go_sem, d0, d1, d2, d3, d4]) rfl ⟨⟨_, rfl⟩, ?_⟩
    exact set_below HD5.out.2 _ _ _ _ _
  · have hst : st = 3 := by rw [HR.out.2.1, if_neg hb0]
    subst hst
    have hsf : Lib.hasSuffix R.data.toList (⟨#[42]⟩ : ByteArray).data.toList = false := by
      rw [HRL.out, rsv_star, show ((47 :: (q ++ 47 :: a)) ++ 42 :: b : List UInt8) = ((47 :: (q ++ 47 :: a)) ++ [42]) ++ b by simp]
      exact suf_no hb0 HR.out.2.2.2.2.2
    rw [hsf]
    clear hsf hb0
    go_wp2_with fail
    go_region
    all_goals (go_wp2_with fail)
    refine bodyPost_ret (v := .tuple #[.string r, .int .u8 3, Dbg ⟨#[]⟩]) (by simp [results, Tryz.results12, Dbg, go_sem, d0, d1, d2, d3, d4]) rfl ⟨⟨_, rfl⟩, ?_⟩
    exact set_below HD5.out.2 _ _ _ _ _
end Go.Proofs.YtkgdbbpgaibihaaGreatFmt
