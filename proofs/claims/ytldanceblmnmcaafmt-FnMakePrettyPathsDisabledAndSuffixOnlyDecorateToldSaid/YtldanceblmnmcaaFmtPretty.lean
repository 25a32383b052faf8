/-
  The contract of MakePrettyPaths outside the namespace "file", for whatever function answers fmt; conditions: those that each names.
-/
import Derived.Test.YtldanceblmnmcaaFmtRows
import Derived.Stop.CallBack
import Derived.Stop.IfaceNil
import GoSem.ClaimData
import Derived.WalkKit
import Derived.WalkSpells
import Derived.WalkLawsBesides
import Derived.Laws.Concat
import Derived.Lib.Hide
namespace Go.Proofs.YtldanceblmnmcaaFmt
open Go.RowKit Go.Extern.Stop Go.Stop Go.Extern

theorem call8 (args : Array Value) (w : World) : (callFunc 8 args).run Tryf.prog w = ((FmtStop.sprintf #[9, 68] #[9] args).run Tryf.prog w).andThen fun v w' => .ok (.value v) w' :=
  run_callFunc_extern Tryf.func8 (by kernel_rfl) (by kernel_rfl) (by kernel_rfl) (by kernel_rfl) args w
theorem guard (name : String) (w : World) : (FmtStop.guard name).run Tryf.prog w = .ok () w := by kernel_rfl
theorem fmt2 : FmtStop.printed? ⟨#[37, 115, 58, 37, 115]⟩ 2 = some [(0, 115, false), (1, 115, false)] := by kernel_rfl
theorem fmt2r (w : World) : (FmtDoors.printed ⟨#[37, 115, 58, 37, 115]⟩ 2).run Tryf.prog w = .ok [(0, 115, false), (1, 115, false)] w := by kernel_rfl
def shape9 : List UInt8 := [12, 6, 0, 0, 0, 0, 0, 0, 0, 115, 116, 114, 105, 110, 103]
theorem op9_115 (name : String) (x : ByteArray) (w : World) : (FmtStop.operand name false 115 false (.iface 9 (.string x))).run Tryf.prog w = .ok (shape9, FmtStop.pack x.data.toList) w := by kernel_rfl

/-- What fmt is asked. -/
def reading (ns t : List UInt8) : List (List UInt8) := [[37, 115, 58, 37, 115], shape9, FmtStop.pack ns, shape9, FmtStop.pack t]
def base (F : Interp) (ns t : ByteArray) : ByteArray := FmtStop.textOf (F "fmt.Sprintf" (reading ns.data.toList t.data.toList) 0)

/-- The flag 'disabled'. -/
def dis (fl : Int) : Bool := bits BinOp.and IntKind.u8 fl 1 != 0

set_option maxHeartbeats 400000 in
theorem disabled_any (a b c d : ByteArray) (fl : Int) (w : World) : Calls Tryf.prog 9 #[.agg #[.string a, .string b, .string c, .string d, .int .u8 fl]] w fun e w' => e = .returned (.bool (dis fl)) ∧ Below w.heap.size w w' := by
  go_enter Tryf.func9, Tryf.ntmps9
  go_wp2
  go_ret
  exact ⟨rfl, (Below.refl _ _).alloc (Nat.le_refl _) _⟩

/-- "(disabled):". -/
def dtext : ByteArray := ⟨#[40, 100, 105, 115, 97, 98, 108, 101, 100, 41, 58]⟩
def pb (F : Interp) (ns t : ByteArray) : ByteArray := if ns.toList.isEmpty = true then t else base F ns t
def out (F : Interp) (t ns suf : ByteArray) (fl : Int) : ByteArray := (if dis fl = true then dtext ++ pb F ns t else pb F ns t) ++ suf

theorem cell_up {w w' : World} {p : Addr} {v : Value} (hb : Below w.heap.size w w') (h : w.cell? p = some v) : w'.cell? p = some v := by
  rw [hb.cell (World.block_lt_of_cell? w _ h), h]

set_option maxHeartbeats 1000000 in
theorem pretty_some (F : Interp) (t ns suf : ByteArray) (fl : Int) (w : World) (hF : F.answers w.tape) (hb : (base F ns t).size ≤ 4194304) (hsf : suf.size ≤ 1048576) (hf : (ns.toList == [102, 105, 108, 101]) = false) (he : ns.toList.isEmpty = false) :
    Calls Tryf.prog 6 #[.nilIface, .agg #[.string t, .string ns, .string suf, .string ⟨#[]⟩, .int .u8 fl]] w fun e w' => e = .returned (.agg #[.string (out F t ns suf fl), .string (out F t ns suf fl)]) ∧ Below w.heap.size w w' := by
  have hF' := answers_open hF
  have k1 := call8
  have k2 := guard
  have k3 := fmt2
  have k4 := fmt2r
  have k5 := op9_115
  go_enter Tryf.func6, Tryf.ntmps6
  go_wp2_with fail
  refine (disabled_any t ns suf _ fl _).mono ?_
  rintro e w2 ⟨rfl, hb2⟩
  obtain ⟨B, hB⟩ : ∃ B, base F ns t = B := ⟨_, rfl⟩
  rw [hB] at hb
  have HBB := Lib.hid hB
  rw [show FmtStop.textOf (F "fmt.Sprintf" [[37, 115, 58, 37, 115], shape9, FmtStop.pack ns.data.toList, shape9, FmtStop.pack t.data.toList] 0) = B from hB]
  clear hB hF' k1 k2 k3 k4 k5
  have c2 : w2.cell? ⟨w.heap.size, 2, none⟩ = some (.string suf) := cell_up hb2 (by go_simp)
  have c3 : w2.cell? ⟨w.heap.size + 1, 0, none⟩ = some (.string ⟨#[]⟩) := cell_up hb2 (by go_simp)
  have c4 : w2.cell? ⟨w.heap.size + 1, 1, none⟩ = some (.string ⟨#[]⟩) := cell_up hb2 (by go_simp)
  have f3 : w2.frozen? ⟨w.heap.size + 1, 0, none⟩ = false := by
    rw [hb2.frozen (p := ⟨w.heap.size + 1, 0, none⟩) (by simp)]
    go_simp
  have f4 : w2.frozen? ⟨w.heap.size + 1, 1, none⟩ = false := by
    rw [hb2.frozen (p := ⟨w.heap.size + 1, 1, none⟩) (by simp)]
    go_simp
  have hbw : Below w.heap.size w w2 := (((((Below.refl w.heap.size w).alloc (Nat.le_refl _) _).alloc (by simp) _).alloc (by simp; omega) _).alloc (by simp; omega) _).drew.drew.trans (hb2.mono (by simp; omega))
  have HBW := Lib.hid hbw
  clear hb2 hbw
  have a1 : ∀ wx, (Op.stringOp .add ⟨#[40, 100, 105, 115, 97, 98, 108, 101, 100, 41, 58]⟩ B).run Tryf.prog wx = .ok (.string (dtext ++ B)) wx := fun wx => run_string_add_sum wx _ B (by show 11 + B.size ≤ _; omega)
  have a2 : ∀ wx, (Op.stringOp .add (dtext ++ B) suf).run Tryf.prog wx = .ok (.string (dtext ++ B ++ suf)) wx := fun wx => run_string_add_sum wx _ suf (by rw [ByteArray.size_append]; show 11 + B.size + _ ≤ _; omega)
  have a3 : ∀ wx, (Op.stringOp .add B suf).run Tryf.prog wx = .ok (.string (B ++ suf)) wx := fun wx => run_string_add_sum wx _ suf (by omega)
  cases hd : dis fl
  · have HD := Lib.hid hd
    clear hd
    go_wp2_with fail
    refine bodyPost_ret (v := .agg #[.string (B ++ suf), .string (B ++ suf)]) (by simp [results, Tryf.results6, go_sem, c3, c4]) rfl ⟨?_, (HBW.out.setCell (p := ⟨w.heap.size + 1, 0, none⟩) (by show w.heap.size ≤ w.heap.size + 1; omega) _).setCell (p := ⟨w.heap.size + 1, 1, none⟩) (by show w.heap.size ≤ w.heap.size + 1; omega) _⟩
    rw [show out F t ns suf fl = B ++ suf by unfold out pb; simp [HD.out, he, HBB.out]]
  · have HD := Lib.hid hd
    clear hd
    go_wp2_with fail
    refine bodyPost_ret (v := .agg #[.string (dtext ++ B ++ suf), .string (dtext ++ B ++ suf)]) (by simp [results, Tryf.results6, go_sem, c3, c4]) rfl ⟨?_, (HBW.out.setCell (p := ⟨w.heap.size + 1, 0, none⟩) (by show w.heap.size ≤ w.heap.size + 1; omega) _).setCell (p := ⟨w.heap.size + 1, 1, none⟩) (by show w.heap.size ≤ w.heap.size + 1; omega) _⟩
    rw [show out F t ns suf fl = dtext ++ B ++ suf by unfold out pb; simp [HD.out, he, HBB.out]]

set_option maxHeartbeats 1000000 in
theorem pretty_none (F : Interp) (t ns suf : ByteArray) (fl : Int) (w : World) (hb : t.size ≤ 4194304) (hsf : suf.size ≤ 1048576) (he : ns.toList.isEmpty = true) :
    Calls Tryf.prog 6 #[.nilIface, .agg #[.string t, .string ns, .string suf, .string ⟨#[]⟩, .int .u8 fl]] w fun e w' => e = .returned (.agg #[.string (out F t ns suf fl), .string (out F t ns suf fl)]) ∧ Below w.heap.size w w' := by
  have hf : (ns.toList == [102, 105, 108, 101]) = false := by
    cases h : ns.toList
    · rfl
    · rw [h] at he; cases he
  go_enter Tryf.func6, Tryf.ntmps6
  go_wp2_with fail
  refine (disabled_any t ns suf _ fl _).mono ?_
  rintro e w2 ⟨rfl, hb2⟩
  have c2 : w2.cell? ⟨w.heap.size, 2, none⟩ = some (.string suf) := cell_up hb2 (by go_simp)
  have c3 : w2.cell? ⟨w.heap.size + 1, 0, none⟩ = some (.string ⟨#[]⟩) := cell_up hb2 (by go_simp)
  have c4 : w2.cell? ⟨w.heap.size + 1, 1, none⟩ = some (.string ⟨#[]⟩) := cell_up hb2 (by go_simp)
  have f3 : w2.frozen? ⟨w.heap.size + 1, 0, none⟩ = false := by
    rw [hb2.frozen (p := ⟨w.heap.size + 1, 0, none⟩) (by simp)]
    go_simp
  have f4 : w2.frozen? ⟨w.heap.size + 1, 1, none⟩ = false := by
    rw [hb2.frozen (p := ⟨w.heap.size + 1, 1, none⟩) (by simp)]
    go_simp
  have hbw : Below w.heap.size w w2 := (((Below.refl w.heap.size w).alloc (Nat.le_refl _) _).alloc (by simp) _).trans (hb2.mono (by simp; omega))
  have HBW := Lib.hid hbw
  clear hb2 hbw
  have a1 : ∀ wx, (Op.stringOp .add ⟨#[40, 100, 105, 115, 97, 98, 108, 101, 100, 41, 58]⟩ t).run Tryf.prog wx = .ok (.string (dtext ++ t)) wx := fun wx => run_string_add_sum wx _ t (by show 11 + t.size ≤ _; omega)
  have a2 : ∀ wx, (Op.stringOp .add (dtext ++ t) suf).run Tryf.prog wx = .ok (.string (dtext ++ t ++ suf)) wx := fun wx => run_string_add_sum wx _ suf (by rw [ByteArray.size_append]; show 11 + t.size + _ ≤ _; omega)
  have a3 : ∀ wx, (Op.stringOp .add t suf).run Tryf.prog wx = .ok (.string (t ++ suf)) wx := fun wx => run_string_add_sum wx _ suf (by omega)
  cases hd : dis fl
  · have HD := Lib.hid hd
    clear hd
    go_wp2_with fail
    refine bodyPost_ret (v := .agg #[.string (t ++ suf), .string (t ++ suf)]) (by simp [results, Tryf.results6, go_sem, c3, c4]) rfl ⟨?_, (HBW.out.setCell (p := ⟨w.heap.size + 1, 0, none⟩) (by show w.heap.size ≤ w.heap.size + 1; omega) _).setCell (p := ⟨w.heap.size + 1, 1, none⟩) (by show w.heap.size ≤ w.heap.size + 1; omega) _⟩
    rw [show out F t ns suf fl = t ++ suf by unfold out pb; simp [HD.out, he]]
  · have HD := Lib.hid hd
    clear hd
    go_wp2_with fail
    refine bodyPost_ret (v := .agg #[.string (dtext ++ t ++ suf), .string (dtext ++ t ++ suf)]) (by simp [results, Tryf.results6, go_sem, c3, c4]) rfl ⟨?_, (HBW.out.setCell (p := ⟨w.heap.size + 1, 0, none⟩) (by show w.heap.size ≤ w.heap.size + 1; omega) _).setCell (p := ⟨w.heap.size + 1, 1, none⟩) (by show w.heap.size ≤ w.heap.size + 1; omega) _⟩
    rw [show out F t ns suf fl = dtext ++ t ++ suf by unfold out pb; simp [HD.out, he]]

end Go.Proofs.YtldanceblmnmcaaFmt
