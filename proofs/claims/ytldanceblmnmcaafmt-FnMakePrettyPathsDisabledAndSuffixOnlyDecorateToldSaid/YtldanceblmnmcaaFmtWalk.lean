/-
  The walk of the law over whatever function answers fmt: it returns true; conditions: the text that fmt gives is short.
-/
import Derived.Test.YtldanceblmnmcaaFmtPretty
namespace Go.Proofs.YtldanceblmnmcaaFmt
open Go.RowKit Go.Extern.Stop Go.Stop Go.Extern

def Small (n : Nat) (w : World) (e : Ending) (w' : World) : Prop := ∃ b : Bool, e = .returned (.bool b) ∧ (b = true → n ≤ 1048576) ∧ w = w'
set_option maxHeartbeats 400000 in
theorem zz4_any (t ns suf : ByteArray) (fl : Int) (w : World) (h1 : t.size ≤ 9223372036854775807) (h2 : ns.size ≤ 9223372036854775807) (h3 : suf.size ≤ 9223372036854775807) : Calls Tryf.prog 4 #[.string t, .string ns, .string suf, .int .u8 fl] w (Small (t.size + ns.size + suf.size) w) := by
  go_enter Tryf.func4, Tryf.ntmps4
  go_wp2
  all_goals
    go_ret
    exact ⟨_, rfl, (fun h => by first | omega | cases h), rfl⟩
set_option maxHeartbeats 400000 in
theorem zz5_any (t : ByteArray) (w : World) (h1 : t.size ≤ 1048576) : Calls Tryf.prog 5 #[.string t] w fun e w' => e = .returned (.int .i64 (t.size : Nat)) ∧ w = w' := by
  go_enter Tryf.func5, Tryf.ntmps5
  go_wp2
  go_ret
  exact ⟨rfl, rfl⟩

theorem pretty_any (F : Interp) (t ns suf : ByteArray) (fl : Int) (w : World) (hF : F.answers w.tape) (hb : (pb F ns t).size ≤ 4194304) (hsf : suf.size ≤ 1048576) (hf : (ns.toList == [102, 105, 108, 101]) = false) :
    Calls Tryf.prog 6 #[.nilIface, .agg #[.string t, .string ns, .string suf, .string ⟨#[]⟩, .int .u8 fl]] w fun e w' => e = .returned (.agg #[.string (out F t ns suf fl), .string (out F t ns suf fl)]) ∧ Below w.heap.size w w' := by
  unfold pb at hb
  cases he : ns.toList.isEmpty
  · rw [if_neg (by simp [he])] at hb
    exact pretty_some F t ns suf fl w hF hb hsf hf he
  · rw [if_pos he] at hb
    exact pretty_none F t ns suf fl w hb hsf he

theorem dis_plain : ∀ n : Fin 256, dis (bits BinOp.andNot IntKind.u8 (n.val : Int) 1) = false := by decide +kernel

theorem out_plain (F : Interp) (t ns : ByteArray) (fl : Int) (h : dis fl = false) : out F t ns ⟨#[]⟩ fl = pb F ns t := by
  unfold out
  rw [if_neg (by simp [h])]
  apply ByteArray.ext
  simp [ByteArray.data_append]

set_option maxHeartbeats 4000000 in
set_option maxRecDepth 100000 in
theorem law_walk (F : Interp) (t ns suf : ByteArray) (fl : Int) (w : World) (hF : F.answers w.tape) (h1 : t.size ≤ 9223372036854775807) (h2 : ns.size ≤ 9223372036854775807) (h3 : suf.size ≤ 9223372036854775807) (l0 : 0 ≤ fl) (l1 : fl ≤ 255)
    (hpb : t.size + ns.size + suf.size ≤ 1048576 → (pb F ns t).size ≤ 4194304) :
    Calls Tryf.prog 3 #[.string t, .string ns, .string suf, .int .u8 fl] w fun e w' => e = .returned (.bool true) ∧ Below w.heap.size w w' := by
  have HPB := Lib.hid hpb
  have HF := Lib.hid hF
  clear hpb hF
  go_enter Tryf.func3, Tryf.ntmps3
  go_wp2_with fail
  refine (zz4_any t ns suf fl _ h1 h2 h3).mono ?_
  rintro e w' ⟨b, rfl, hb, rfl⟩
  cases b
  · go_wp2_with fail
    go_ret
    exact ⟨rfl, Below.refl _ _⟩
  · have hsum := hb rfl
    have hpb := HPB.out hsum
    clear hb
    have s1 : t.size ≤ 1048576 := by omega
    have s2 : ns.size ≤ 1048576 := by omega
    have s3 : suf.size ≤ 1048576 := by omega
    obtain ⟨pl, hpl⟩ : ∃ pl, bits BinOp.andNot IntKind.u8 fl 1 = pl := ⟨_, rfl⟩
    have hdpl : dis pl = false := by
      rw [← hpl]
      have := dis_plain ⟨fl.toNat, by omega⟩
      rw [show ((fl.toNat : Nat) : Int) = fl by omega] at this
      exact this
    have HDP := Lib.hid hdpl
    clear hdpl
    cases hf : (ns.toList == [102, 105, 108, 101])
    rotate_left
    · go_wp2_with (go_at_call 5; refine (zz5_any _ _ (by assumption)).mono ?_; rintro e w' ⟨rfl, rfl⟩)
      go_ret
      exact ⟨rfl, Below.refl _ _⟩
    · go_wp2_with (go_at_call 5; refine (zz5_any _ _ (by assumption)).mono ?_; rintro e w' ⟨rfl, rfl⟩)
      refine (pretty_any F t ns ⟨#[]⟩ 0 _ HF.out hpb (by show 0 ≤ _; omega) hf).mono ?_
      rintro e w1 ⟨rfl, hb1⟩
      rw [out_plain F t ns 0 (by decide)]
      have HF1 := Lib.hid (show F.answers w1.tape by rw [hb1.tape]; exact HF.out)
      have H1 := Lib.hid hb1
      obtain ⟨B, hB⟩ : ∃ B, pb F ns t = B := ⟨_, rfl⟩
      rw [hB]
      have HBB := Lib.hid hB
      rw [hB] at hpb
      clear hb1 hB
      go_wp2_with fail
      refine (pretty_any F t ns ⟨#[]⟩ pl (w1.alloc (.cells #[.string B, .string B] 25)) HF1.out (by rw [HBB.out]; exact hpb) (by show 0 ≤ _; omega) hf).mono ?_
      rintro e w2 ⟨rfl, hb2⟩
      rw [out_plain F t ns pl HDP.out, HBB.out]
      have HF2 := Lib.hid (show F.answers w2.tape by rw [hb2.tape]; exact HF1.out)
      have H2 := Lib.hid hb2
      have c0 : w2.cell? ⟨w1.heap.size, 0, none⟩ = some (.string B) := cell_up hb2 (by go_simp)
      have c1 : w2.cell? ⟨w1.heap.size, 1, none⟩ = some (.string B) := cell_up hb2 (by go_simp)
      have hs2 := hb2.size
      simp only [World.size_alloc] at hs2
      clear hb2
      go_wp2_with fail
      refine (pretty_any F t ns suf fl (w2.alloc (.cells #[.string B, .string B] 25)) HF2.out (by rw [HBB.out]; exact hpb) s3 hf).mono ?_
      rintro e w3 ⟨rfl, hb3⟩
      obtain ⟨O, hO⟩ : ∃ O, out F t ns suf fl = O := ⟨_, rfl⟩
      rw [hO]
      have HO := Lib.hid hO
      have hs3 := hb3.size
      simp only [World.size_alloc] at hs3
      have hx1 : w1.heap.size < w2.heap.size := by omega
      have hx2 : w1.heap.size < w3.heap.size := by omega
      have hx3 : w2.heap.size < w3.heap.size := by omega
      have d0 : ∀ o, (w3.alloc o).cell? ⟨w1.heap.size, 0, none⟩ = some (.string B) := fun o => (World.cell?_alloc_lt _ _ _ hx2).trans (cell_up hb3 ((World.cell?_alloc_lt _ _ _ hx1).trans c0))
      have d1 : ∀ o, (w3.alloc o).cell? ⟨w1.heap.size, 1, none⟩ = some (.string B) := fun o => (World.cell?_alloc_lt _ _ _ hx2).trans (cell_up hb3 ((World.cell?_alloc_lt _ _ _ hx1).trans c1))
      have e0 : ∀ o, (w3.alloc o).cell? ⟨w2.heap.size, 0, none⟩ = some (.string B) := fun o => (World.cell?_alloc_lt _ _ _ hx3).trans (cell_up hb3 (by go_simp))
      have e1 : ∀ o, (w3.alloc o).cell? ⟨w2.heap.size, 1, none⟩ = some (.string B) := fun o => (World.cell?_alloc_lt _ _ _ hx3).trans (cell_up hb3 (by go_simp))
      have H3 := Lib.hid hb3
      have hbel : Below w.heap.size w (w3.alloc (.cells #[.string O, .string O] 25)) := by
        have g1 := H1.out.size
        have b1 : Below w.heap.size w (w1.alloc (.cells #[.string B, .string B] 25)) := H1.out.alloc g1 _
        have b2 : Below w.heap.size w (w2.alloc (.cells #[.string B, .string B] 25)) := (b1.trans (H2.out.mono (by simp; omega))).alloc (by omega) _
        exact (b2.trans (H3.out.mono (by simp; omega))).alloc (by omega) _
      have HBEL := Lib.hid hbel
      clear hb3 hO c0 c1 hbel
      cases hd : dis fl
      · have hd2 : (bits BinOp.and IntKind.u8 fl 1 != 0) = false := hd
        obtain rfl : O = B ++ suf := by
          rw [← HO.out]
          unfold out
          rw [if_neg (by simp [hd]), HBB.out]
        have z1 : ∀ wx, (Op.stringOp .add ⟨#[]⟩ B).run Tryf.prog wx = .ok (.string B) wx := fun wx => by
          rw [run_string_add_sum wx _ B (by show 0 + B.size ≤ _; omega)]
          congr 2
        have z2 : ∀ wx, (Op.stringOp .add B suf).run Tryf.prog wx = .ok (.string (B ++ suf)) wx := fun wx => run_string_add_sum wx _ suf (by omega)
        have HDD := Lib.hid hd
        clear hd
        go_wp2_with fail
        go_ret
        exact ⟨rfl, HBEL.out⟩
      · have hd2 : (bits BinOp.and IntKind.u8 fl 1 != 0) = true := hd
        obtain rfl : O = dtext ++ B ++ suf := by
          rw [← HO.out]
          unfold out
          rw [if_pos hd, HBB.out]
        have z1 : ∀ wx, (Op.stringOp .add ⟨#[40, 100, 105, 115, 97, 98, 108, 101, 100, 41, 58]⟩ B).run Tryf.prog wx = .ok (.string (dtext ++ B)) wx := fun wx => run_string_add_sum wx _ B (by show 11 + B.size ≤ _; omega)
        have z2 : ∀ wx, (Op.stringOp .add (dtext ++ B) suf).run Tryf.prog wx = .ok (.string (dtext ++ B ++ suf)) wx := fun wx => run_string_add_sum wx _ suf (by rw [ByteArray.size_append]; show 11 + B.size + _ ≤ _; omega)
        have HDD := Lib.hid hd
        clear hd
        go_wp2_with fail
        go_ret
        exact ⟨rfl, HBEL.out⟩

end Go.Proofs.YtldanceblmnmcaaFmt
