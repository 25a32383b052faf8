/-
  The contracts of esmPackageTargetResolve at a target without a star: a file's own path; a forbidden segment (for whatever function answers fmt); conditions: those that each names.
-/
import Derived.Test.YtkgdbbpgaibihaaGreatFmtEnt
import Derived.Stop.CallBack
import Derived.Stop.IfaceNil
import GoSem.ClaimData
namespace Go.Proofs.YtkgdbbpgaibihaaGreatFmt
open Go.RowKit Go.Extern.Stop Go.Stop Go.Extern

set_option maxHeartbeats 4000000 in
set_option maxRecDepth 100000 in
theorem res_plain (u t r : ByteArray) (q f : List UInt8) (i : Bool) (w : World) (hsz : q.length + f.length ≤ 1048576) (hu : u.data.toList = 47 :: q) (htl : t.data.toList = 46 :: 47 :: f)
    (hq : Keep q) (hf : Free f) (hk : Keep f) (hbad : badS f = false) (hr : r = S (rsv q f)) :
    Calls Tryz.prog 12 #[Qry, .string u, Ent t, .string ⟨#[]⟩, .bool false, .bool i, .map none] w (Res r 3 w) := by
  have ht : t.size ≤ 1073741824 := by
    rw [Lib.size_eq, htl]
    simp
    omega
  have hus : u.size ≤ 1073741824 := by
    rw [Lib.size_eq, hu]
    simp
    omega
  have H := Lib.hid (And.intro htl (And.intro hf hbad))
  have HK := Lib.hid (And.intro hu (And.intro hq hk))
  have HR := Lib.hid hr
  clear htl hf hbad hu hq hk hr
  unfold Qry Ent
  go_enter Tryz.func12, Tryz.ntmps12
  go_wp2_with fail
  refine (Tryz.strings_HasPrefix t ⟨#[46, 47]⟩ _).mono ?_
  rintro e w' ⟨rfl, rfl⟩
  have hs2 : Lib.hasPrefix t.data.toList (⟨#[46, 47]⟩ : ByteArray).data.toList = true := by rw [H.out.1]; rfl
  rw [hs2]
  go_wp2_with fail
  refine (seg_dot t f _ H.out.1 H.out.2.1 ht).mono ?_
  rintro e w2 ⟨rfl, hw2⟩
  rw [show S (segOf f) = (⟨#[]⟩ : ByteArray) by unfold segOf; rw [H.out.2.2]; rfl]
  have hw2 : Below (door t w).heap.size (door t w) w2 := hw2
  rw [door_size] at hw2
  have hd := (door_std t w).up hw2 (Nat.le_refl _)
  have hz2 : w.heap.size + 3 ≤ w2.heap.size := by have := hw2.size; rwa [door_size] at this
  have hbw2 := (door_below t w).trans (hw2.mono (by omega))
  have HD := Lib.hid (And.intro hd hbw2)
  clear hw2 hbw2
  obtain ⟨q2, e0, e4, e5, d0, d1, d2, d3, d4, f0, f1, f2, f3, f4⟩ := hd
  go_wp2_with fail
  refine (join_any w2.heap.size 2 u t q f (w2.alloc (.cells #[.string u, .string t] 9)) HK.out.1 H.out.1 HK.out.2.1 HK.out.2.2 hus ht (by go_simp) (by go_simp) (by simp)).mono ?_
  rintro e w3 ⟨rfl, hw3⟩
  have hb23 : Below w2.heap.size w2 (w2.alloc (.cells #[.string u, .string t] 9)) := (Below.refl _ _).alloc (Nat.le_refl _) _
  have hb3 := hb23.trans (hw3.mono (by simp))
  have hd3 := HD.out.1.up hb3 hz2
  have hz3 := hb3.size
  have HD3 := Lib.hid (And.intro hd3 (HD.out.2.trans (hb3.mono (by omega))))
  clear q2 e0 e4 e5 d0 d1 d2 d3 d4 f0 f1 f2 f3 f4 hw3 hb23 hb3
  rw [← HR.out]
  have hrl : r.data.toList = rsv q f := by rw [HR.out, S_data]
  have hrz : r.size ≤ 1073741824 := by
    rw [Lib.size_eq, hrl]
    simp [rsv]
    omega
  have HRL := Lib.hid hrl
  clear hrl
  obtain ⟨q2, e0, e4, e5, d0, d1, d2, d3, d4, f0, f1, f2, f3, f4⟩ := hd3
  go_wp2_with fail
  refine (seg_free ⟨#[]⟩ _ (by intro c hc; cases hc)).mono ?_
  rintro e w4 ⟨rfl, hw4⟩
  rw [show S [] = (⟨#[]⟩ : ByteArray) from rfl]
  have hd4 := HD3.out.1.up hw4 (by omega)
  have hz4 := hw4.size
  have HD4 := Lib.hid (And.intro hd4 (HD3.out.2.trans (hw4.mono (by omega))))
  clear q2 e0 e4 e5 d0 d1 d2 d3 d4 f0 f1 f2 f3 f4 hw4
  obtain ⟨q2, e0, e4, e5, d0, d1, d2, d3, d4, f0, f1, f2, f3, f4⟩ := hd4
  go_wp2_with fail
  refine (join_any1 w4.heap.size 2 r q f (w4.alloc (.cells #[.string r, .string ⟨#[]⟩] 9)) HRL.out HK.out.2.1 HK.out.2.2 hrz (by go_simp) (by go_simp) (by simp)).mono ?_
  rintro e w5 ⟨rfl, hw5⟩
  have hb45 : Below w4.heap.size w4 (w4.alloc (.cells #[.string r, .string ⟨#[]⟩] 9)) := (Below.refl _ _).alloc (Nat.le_refl _) _
  have hb5 := hb45.trans (hw5.mono (by simp))
  have hd5 := HD4.out.1.up hb5 (by omega)
  have hz5 := hb5.size
  have HD5 := Lib.hid (And.intro hd5 (HD4.out.2.trans (hb5.mono (by omega))))
  clear q2 e0 e4 e5 d0 d1 d2 d3 d4 f0 f1 f2 f3 f4 hw5 hb45 hb5
  rw [← HR.out]
  obtain ⟨q2, e0, e4, e5, d0, d1, d2, d3, d4, f0, f1, f2, f3, f4⟩ := hd5
  go_wp2_with fail
  go_region
  all_goals (go_wp2_with fail)
  refine bodyPost_ret (v := .tuple #[.string r, .int .u8 3, Dbg ⟨#[]⟩]) (by simp [results, Tryz.results12, Dbg, go_sem, d0, d1, d2, d3, d4]) rfl ⟨⟨_, rfl⟩, ?_⟩
  exact set_below HD5.out.2 _ _ _ _ _

theorem call15 (args : Array Value) (w : World) : (callFunc 15 args).run Tryz.prog w = ((FmtStop.sprintf #[9, 208] #[9] args).run Tryz.prog w).andThen fun v w' => .ok (.value v) w' :=
  run_callFunc_extern Tryz.func15 (by kernel_rfl) (by kernel_rfl) (by kernel_rfl) (by kernel_rfl) args w
theorem guard (name : String) (w : World) : (FmtStop.guard name).run Tryz.prog w = .ok () w := by kernel_rfl
/-- " because it contains invalid segment %q". -/
def form : ByteArray := ⟨#[32, 98, 101, 99, 97, 117, 115, 101, 32, 105, 116, 32, 99, 111, 110, 116, 97, 105, 110, 115, 32, 105, 110, 118, 97, 108, 105, 100, 32, 115, 101, 103, 109, 101, 110, 116, 32, 37, 113]⟩
theorem fmt1 : FmtStop.printed? ⟨#[32, 98, 101, 99, 97, 117, 115, 101, 32, 105, 116, 32, 99, 111, 110, 116, 97, 105, 110, 115, 32, 105, 110, 118, 97, 108, 105, 100, 32, 115, 101, 103, 109, 101, 110, 116, 32, 37, 113]⟩ 1 = some [(0, 113, false)] := by kernel_rfl
theorem fmt1r (w : World) : (FmtDoors.printed ⟨#[32, 98, 101, 99, 97, 117, 115, 101, 32, 105, 116, 32, 99, 111, 110, 116, 97, 105, 110, 115, 32, 105, 110, 118, 97, 108, 105, 100, 32, 115, 101, 103, 109, 101, 110, 116, 32, 37, 113]⟩ 1).run Tryz.prog w = .ok [(0, 113, false)] w := by kernel_rfl
def shape9 : List UInt8 := [12, 6, 0, 0, 0, 0, 0, 0, 0, 115, 116, 114, 105, 110, 103]
theorem op9_113 (name : String) (x : ByteArray) (w : World) : (FmtStop.operand name false 113 false (.iface 9 (.string x))).run Tryz.prog w = .ok (shape9, FmtStop.pack x.data.toList) w := by kernel_rfl

theorem set5_below {b : Nat} {w0 wx : World} (h : Below b w0 wx) (a0 a1 a2 a3 a4 : Value) : Below b w0
    (((((wx.setCell ⟨b + 1 + 1, 0, none⟩ a0).setCell ⟨b + 1 + 1, 1, none⟩ a1).setCell ⟨b + 1 + 1, 2, none⟩ a2).setCell ⟨b + 1 + 1, 3, none⟩ a3).setCell ⟨b + 1 + 1, 4, none⟩ a4) :=
  ((((h.setCell (by show b ≤ b + 1 + 1; omega) _).setCell (by show b ≤ b + 1 + 1; omega) _).setCell (by show b ≤ b + 1 + 1; omega) _).setCell (by show b ≤ b + 1 + 1; omega) _).setCell (by show b ≤ b + 1 + 1; omega) _
set_option maxHeartbeats 4000000 in
set_option maxRecDepth 100000 in
theorem res_bad (F : Interp) (u t : ByteArray) (f : List UInt8) (i : Bool) (w : World) (hF : F.answers w.tape) (hsz : f.length ≤ 1048576) (htl : t.data.toList = 46 :: 47 :: f)
    (hf : Free f) (hbad : badS f = true) :
    Calls Tryz.prog 12 #[Qry, .string u, Ent t, .string ⟨#[]⟩, .bool false, .bool i, .map none] w (Res t 9 w) := by
  have ht : t.size ≤ 1073741824 := by
    rw [Lib.size_eq, htl]
    simp
    omega
  have H := Lib.hid (And.intro htl (And.intro hf hbad))
  have HF := Lib.hid hF
  clear htl hf hbad hF
  unfold Qry Ent
  go_enter Tryz.func12, Tryz.ntmps12
  go_wp2_with fail
  refine (Tryz.strings_HasPrefix t ⟨#[46, 47]⟩ _).mono ?_
  rintro e w' ⟨rfl, rfl⟩
  have hs2 : Lib.hasPrefix t.data.toList (⟨#[46, 47]⟩ : ByteArray).data.toList = true := by rw [H.out.1]; rfl
  rw [hs2]
  go_wp2_with fail
  refine (seg_dot t f _ H.out.1 H.out.2.1 ht).mono ?_
  rintro e w2 ⟨rfl, hw2⟩
  have hw2 : Below (door t w).heap.size (door t w) w2 := hw2
  rw [door_size] at hw2
  have hd := (door_std t w).up hw2 (Nat.le_refl _)
  have hz2 : w.heap.size + 3 ≤ w2.heap.size := by have := hw2.size; rwa [door_size] at this
  have hbw2 := (door_below t w).trans (hw2.mono (by omega))
  have HD := Lib.hid (And.intro hd hbw2)
  have hF2 : F.answers w2.tape := by rw [hbw2.tape]; exact HF.out
  clear hw2 hbw2
  obtain ⟨B, hB⟩ : ∃ B, S (segOf f) = B := ⟨_, rfl⟩
  have hB0 : B.toList.isEmpty = false := by
    rw [← hB, S_toList]
    unfold segOf
    rw [H.out.2.2, if_pos rfl]
    cases f with
    | nil => exact absurd H.out.2.2 (by decide)
    | cons => rfl
  rw [hB]
  clear hB
  obtain ⟨q2, e0, e4, e5, d0, d1, d2, d3, d4, f0, f1, f2, f3, f4⟩ := hd
  go_wp2_with fail
  have hF' := answers_open hF2
  have n0 : w.heap.size < w2.heap.size := by omega
  have n1 : w.heap.size + 1 < w2.heap.size := by omega
  have n2 : w.heap.size + 1 + 1 < w2.heap.size := by omega
  have k1 := call15
  have k2 := guard
  have k3 := fmt1
  have k4 := fmt1r
  have k5 := op9_113
  go_region
  all_goals (go_wp2_with fail)
  generalize FmtStop.textOf _ = X
  refine bodyPost_ret (v := .tuple #[.string t, .int .u8 9, Dbg X]) (by simp [results, Tryz.results12, Dbg, go_sem, d0, d1, d2, d3, d4, n2]) rfl ⟨⟨_, rfl⟩, ?_⟩
  have hb5 := set5_below HD.out.2 (.string X) (.slice none 0 0) (.int .i32 0) (.int .i32 0) (.bool false)
  exact ((hb5.alloc hb5.size _).drew).drew
end Go.Proofs.YtkgdbbpgaibihaaGreatFmt
