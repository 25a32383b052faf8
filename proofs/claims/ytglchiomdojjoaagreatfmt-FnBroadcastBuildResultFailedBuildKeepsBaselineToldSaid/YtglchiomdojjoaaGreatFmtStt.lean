/-
  The handler's state from call to call; ZZbroadcast; conditions: those that each names.
-/
import Derived.Test.YtglchiomdojjoaaGreatFmtBcf
namespace Go.Proofs.YtglchiomdojjoaaGreatFmt
open Go.RowKit Go.Conc Go.Maps Go.Lib Go.WideMaps Go.Extern.Stop Go.Stop Go.Extern

/-- What is known of the names. -/
structure Nms (pub : ByteArray) (ss hs ts gs : List ByteArray) : Prop where
  e1 : ss.length = hs.length
  e3 : ts.length = gs.length
  b1 : ss.length ≤ 4096
  b3 : ts.length ≤ 4096
  d1 : ss.Nodup
  d3 : ts.Nodup
  n1 : ∀ s ∈ ss, NameS s
  n3 : ∀ s ∈ ts, NameS s
  z1 : ∀ s ∈ ss, s.size ≤ 1048576
  z3 : ∀ s ∈ ts, s.size ≤ 1048576
  pc : AllC PbC pub
  pz : pub.size ≤ 1048576
theorem Nms.swap {pub : ByteArray} {ss hs ts gs : List ByteArray} (h : Nms pub ss hs ts gs) : Nms pub ts gs ss hs := ⟨h.e3, h.e1, h.b3, h.b1, h.d3, h.d1, h.n3, h.n1, h.z3, h.z1, h.pc, h.pz⟩
theorem Nms.right {pub : ByteArray} {ss hs ts gs : List ByteArray} (h : Nms pub ss hs ts gs) : Nms pub ts gs ts gs := ⟨h.e3, h.e3, h.b3, h.b3, h.d3, h.d3, h.n3, h.n3, h.z3, h.z3, h.pc, h.pz⟩
structure St (n : Nat) (pub : ByteArray) (m N : Nat) (ss hs : List ByteArray) (buf : Array Value) (w : World) : Prop where
  ha : HA n pub m buf w
  lk : Lk 0 n w
  mp : MapS m N (bmap (kvs ss hs)) w
theorem St.up {n : Nat} {pub : ByteArray} {m N : Nat} {ss hs : List ByteArray} {buf : Array Value} {w w' : World} (h : St n pub m N ss hs buf w) (k : Below w.heap.size w w') : St n pub m N ss hs buf w' := ⟨h.ha.up k, h.lk.up k, h.mp.up k⟩
theorem St.lt {n : Nat} {pub : ByteArray} {m N : Nat} {ss hs : List ByteArray} {buf : Array Value} {w : World} (h : St n pub m N ss hs buf w) : n ≤ w.heap.size := by have := h.ha.lt; omega
theorem St.drewN {n : Nat} {pub : ByteArray} {m N : Nat} {ss hs : List ByteArray} {buf : Array Value} {w : World} (h : St n pub m N ss hs buf w) (k : Nat) : St n pub m N ss hs buf (w.drewN k) := h.up ⟨rfl, rfl, rfl, Nat.le_refl _, fun _ _ => rfl⟩
def Moved (n : Nat) (pub : ByteArray) (m N : Nat) (ss hs : List ByteArray) (buf : Array Value) (w : World) (e : Ending) (w' : World) : Prop := e = .returned (.tuple #[]) ∧ St n pub m N ss hs buf w' ∧ Bk n w w'
def res0 : Value := .agg #[.slice none 0 0, .slice none 0 0, .slice none 0 0, .string ⟨#[]⟩, .map none]
set_option maxHeartbeats 2000000 in
set_option maxRecDepth 100000 in
theorem zcast (F : Interp) {n m1 N1 m2 N2 : Nat} {pub : ByteArray} {ss hs ts gs : List ByteArray} {w : World} (st : St n pub m1 N1 ss hs #[] w) (hm : MapS m2 N2 (bmap (kvs ts gs)) w) (nm : Nms pub ss hs ts gs) (hF : F.answers w.tape) (hS : Says F) :
    Calls Tryz.prog 10 #[.pointer (some ⟨n + 2, 0, none⟩), .agg #[.slice none 0 0, .slice none 0 0, .slice none 0 0, .string ⟨#[]⟩, .map none], .map (some m2)] w (Moved n pub m2 N2 ts gs (sentB pub ss hs ts gs) w) := by
  have hB : Below w.heap.size w (w.alloc (.cells #[.slice none 0 0, .slice none 0 0, .slice none 0 0, .string ⟨#[]⟩, .map none] 35)) := (Below.refl _ _).alloc (Nat.le_refl _) _
  have st1 := st.up hB
  have hm1 := hm.up hB
  have HA := Lib.hid (And.intro st1 (And.intro hm1 hB))
  have HC := Lib.hid (cast_any F n m1 N1 m2 N2 pub ss hs ts gs (w.alloc (.cells #[.slice none 0 0, .slice none 0 0, .slice none 0 0, .string ⟨#[]⟩, .map none] 35)) hF hS ⟨st1.ha, st1.lk, st1.mp, hm1, nm.e1, nm.e3, nm.b1, nm.b3, nm.d1, nm.d3, nm.n1, nm.n3, nm.z1, nm.z3, nm.pc, nm.pz⟩)
  clear st hm nm hF hS hB st1 hm1
  go_enter Tryz.func10, Tryz.ntmps10
  go_wp2_with fail
  refine HC.out.mono ?_
  rintro e w' ⟨rfl, h1, h2, h3⟩
  have ha2 := HA.out.2.1.apart HA.out.1.ha
  have HR := Lib.hid (show St n pub m2 N2 ts gs (sentB pub ss hs ts gs) w' ∧ Bk n w w' from ⟨⟨h1, h2, HA.out.2.1.bk h3 ha2.1 ha2.2.2⟩, (Bk.of n HA.out.2.2).trans h3⟩)
  clear h1 h2 h3 ha2
  go_wp2_with fail
  go_end0
  exact ⟨rfl, HR.out⟩
set_option maxHeartbeats 2000000 in
set_option maxRecDepth 100000 in
theorem zfail (ae : Option Addr) (ce : Nat) {n m1 N1 m2 N2 : Nat} {pub : ByteArray} {ss hs ts gs : List ByteArray} {w : World} (st : St n pub m1 N1 ss hs #[] w) (hm : MapS m2 N2 (bmap (kvs ts gs)) w) (nm : Nms pub ss hs ts gs) :
    Calls Tryz.prog 10 #[.pointer (some ⟨n + 2, 0, none⟩), .agg #[.slice ae 1 ce, .slice none 0 0, .slice none 0 0, .string ⟨#[]⟩, .map none], .map (some m2)] w (Moved n pub m1 N1 ss hs #[] w) := by
  have hB : Below w.heap.size w (w.alloc (.cells #[.slice ae 1 ce, .slice none 0 0, .slice none 0 0, .string ⟨#[]⟩, .map none] 35)) := (Below.refl _ _).alloc (Nat.le_refl _) _
  have st1 := st.up hB
  have hm1 := hm.up hB
  have HA := Lib.hid (And.intro st1 (And.intro hm1 hB))
  have HC := Lib.hid (fail_any ae ce n m1 N1 m2 N2 pub ss hs ts gs (w.alloc (.cells #[.slice ae 1 ce, .slice none 0 0, .slice none 0 0, .string ⟨#[]⟩, .map none] 35)) ⟨st1.ha, st1.lk, st1.mp, hm1, nm.e1, nm.e3, nm.b1, nm.b3, nm.d1, nm.d3, nm.n1, nm.n3, nm.z1, nm.z3, nm.pc, nm.pz⟩)
  clear st hm nm hB st1 hm1
  go_enter Tryz.func10, Tryz.ntmps10
  go_wp2_with fail
  refine HC.out.mono ?_
  rintro e w' ⟨rfl, h1, h2, h3⟩
  have ha2 := HA.out.1.mp.apart HA.out.1.ha
  have HR := Lib.hid (show St n pub m1 N1 ss hs #[] w' ∧ Bk n w w' from ⟨⟨h1, h2, HA.out.1.mp.bk h3 ha2.1 ha2.2.2⟩, (Bk.of n HA.out.2.2).trans h3⟩)
  clear h1 h2 h3 ha2
  go_wp2_with fail
  go_end0
  exact ⟨rfl, HR.out⟩
theorem recv_st {n m N : Nat} {pub a b : ByteArray} {ss hs : List ByteArray} {w : World} (st : St n pub m N ss hs #[.agg #[.string a, .string b]] w) :
    Calls Tryz.prog 13 #[.pointer (some ⟨n + 2, 0, none⟩)] w fun e w' => e = .returned (.tuple #[.string a, .string b]) ∧ St n pub m N ss hs #[] w' ∧ Bk n w w' := by
  have hap := st.mp.apart st.ha
  have hl := st.ha.lt
  refine (recv_any n m pub a b w st.ha).mono ?_
  rintro e w' ⟨rfl, h1, h2⟩
  have hk : Bk n w w' := ⟨h2.os, h2.tape, h2.output, h2.size, fun k hk h _ => h2.block k hk (fun e => by injection e with e; exact h e)⟩
  exact ⟨rfl, ⟨h1, st.lk.keep (h2.block _ hl (fun e => by injection e with e; omega)), st.mp.bk hk hap.1 hap.2.2⟩, hk⟩
end Go.Proofs.YtglchiomdojjoaaGreatFmt
