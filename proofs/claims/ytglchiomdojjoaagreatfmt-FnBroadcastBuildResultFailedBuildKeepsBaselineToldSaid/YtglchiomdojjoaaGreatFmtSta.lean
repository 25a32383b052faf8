/-
  The contracts of zzStateIs and of the handler's map; conditions: those that each names.
-/
import Derived.Test.YtglchiomdojjoaaGreatFmtBmp
import Derived.Test.YtglchiomdojjoaaGreatFmtHnd
namespace Go.Proofs.YtglchiomdojjoaaGreatFmt
open Go.RowKit Go.Maps Go.Lib Go.WideMaps

theorem zero9 (w : World) : (zeroValue 9).run Tryz.prog w = .ok (.string ⟨#[]⟩) w := by kernel_rfl
theorem look_str {b n : Nat} {D : DataW Unit} {w : World} {s : ByteArray} (h : MapS b n D w) (hs : s.size ≤ maxLen) :
    ∃ c : ByteArray, (Instr.lookup 28 (.map (some b)) (.string s) true).run Tryz.prog w = .ok (.tuple #[.string c, .bool (Maps.has D (.string s.data.toList))]) w ∧ D.atKey (.string s.data.toList) (.lit (.string [])) = .lit (.string c.data.toList) := by
  obtain ⟨v, ps, hrun, hv⟩ := h.look_ok law9 Tryz.underlying28 (zero9 w) (plainElem_string (s := ⟨#[]⟩) Tryz.underlying9 (Nat.zero_le _)) (WideMaps.keyOf_string_mk (s := s) Tryz.underlying9 hs)
  obtain ⟨c, rfl, hc, _⟩ := plainElem_string_inv Tryz.underlying9 hv
  exact ⟨c, hrun, (congrArg Prod.fst hc)⟩
theorem zip_key {ss : List ByteArray} (hd : ss.Nodup) {i j : Nat} {s t : ByteArray} (hi : ss[i]? = some s) (hj : ss[j]? = some t) (hij : i < j) : t ≠ s := by
  obtain ⟨h1, rfl⟩ := List.getElem?_eq_some_iff.1 hi
  obtain ⟨h2, rfl⟩ := List.getElem?_eq_some_iff.1 hj
  rw [List.nodup_iff_pairwise_ne, List.pairwise_iff_getElem] at hd
  exact fun e => hd i j h1 h2 hij e.symm
theorem kvs_last {ss hs : List ByteArray} (hd : ss.Nodup) (i : Nat) : LastAt (kvs ss hs) i := by
  intro j p q hij hp hq e
  unfold kvs at hp hq
  rw [List.getElem?_map, Option.map_eq_some_iff] at hp hq
  obtain ⟨⟨s, t⟩, h1, rfl⟩ := hp
  obtain ⟨⟨s', t'⟩, h2, rfl⟩ := hq
  have k1 := (List.getElem?_zip_eq_some.1 h1).1
  have k2 := (List.getElem?_zip_eq_some.1 h2).1
  exact zip_key hd k1 k2 hij (outK_inj e)
theorem kvs_at {ss hs : List ByteArray} (hd : ss.Nodup) {i : Nat} {s t : ByteArray} (h1 : ss[i]? = some s) (h2 : hs[i]? = some t) (z : DataW Unit) : (bmap (kvs ss hs)).atKey (.string (outK s).data.toList) z = .lit (.string t.data.toList) :=
  bmap_at _ _ rfl i (outK s, t) (kvs_get h1 h2) (kvs_last hd i) z
theorem kvs_has {ss hs : List ByteArray} {i : Nat} {s t : ByteArray} (h1 : ss[i]? = some s) (h2 : hs[i]? = some t) : has (bmap (kvs ss hs)) (.string (outK s).data.toList) = true :=
  (bmap_has _ _ rfl _).2 ⟨(outK s, t), List.mem_of_getElem? (kvs_get h1 h2), rfl⟩
theorem kvs_size {ss hs : List ByteArray} (c : Canon (bmap (kvs ss hs))) (hd : ss.Nodup) (hl : ss.length = hs.length) : Maps.size (bmap (kvs ss hs)) = ss.length := by
  have hn : ((kvs ss hs).map kL).Nodup := by
    rw [List.nodup_iff_pairwise_ne, List.pairwise_map, List.pairwise_iff_getElem]
    intro i j hi hj hij e
    exact kvs_last (hs := hs) hd i j _ _ hij (List.getElem?_eq_getElem hi) (List.getElem?_eq_getElem hj) (kL_eq.1 e).symm
  rw [size_of_has c hn fun k => by
    rw [bmap_has _ _ rfl, List.mem_map]
    exact ⟨fun ⟨p, hp, e⟩ => ⟨p, hp, e.symm⟩, fun ⟨p, hp, e⟩ => ⟨p, hp, e.symm⟩⟩, List.length_map, kvs_length hl]
theorem curLen_any (n m N : Nat) (pub : ByteArray) (buf : Array Value) (D : DataW Unit) (w : World) (h : HA n pub m buf w) (hm : MapS m N D w) : Calls Tryz.prog 24 #[.pointer (some ⟨n + 2, 0, none⟩)] w fun e w' => e = .returned (.int .i64 (Maps.size D)) ∧ w = w' := by
  obtain ⟨_, _, _, _, c16, _⟩ := h.cells
  have hl := fun ty => hm.len Tryz.underlying28 ty
  clear h hm
  go_enter Tryz.func24, Tryz.ntmps24
  go_wp2_with fail
  go_ret
  exact ⟨rfl, rfl⟩
theorem curHash_any (n m N : Nat) (pub s : ByteArray) (buf : Array Value) (D : DataW Unit) (w : World) (h : HA n pub m buf w) (hm : MapS m N D w) (hs : s.size ≤ maxLen) :
    Calls Tryz.prog 25 #[.pointer (some ⟨n + 2, 0, none⟩), .string s] w fun e w' => (∃ c : ByteArray, e = .returned (.tuple #[.string c, .bool (Maps.has D (.string s.data.toList))]) ∧ D.atKey (.string s.data.toList) (.lit (.string [])) = .lit (.string c.data.toList)) ∧ w = w' := by
  obtain ⟨_, _, _, _, c16, _⟩ := h.cells
  obtain ⟨c, hrun, hat⟩ := look_str (s := s) hm hs
  obtain ⟨ok, hok⟩ : ∃ ok, Maps.has D (.string s.data.toList) = ok := ⟨_, rfl⟩
  rw [hok] at hrun ⊢
  have HA := Lib.hid hat
  clear h hm hs hat hok
  go_enter Tryz.func25, Tryz.ntmps25
  go_wp2_with fail
  go_ret2
  exact ⟨⟨c, rfl, HA.out⟩, rfl⟩
set_option maxHeartbeats 4000000 in
set_option maxRecDepth 100000 in
theorem state_any (n m N : Nat) (pub : ByteArray) (buf : Array Value) (a1 : Option Addr) (l1 c1 : Nat) (ss : List ByteArray) (a2 : Option Addr) (c2 : Nat) (hs : List ByteArray) (w : World) (h : HA n pub m buf w) (hm : MapS m N (bmap (kvs ss hs)) w)
    (h1 : InRow w a1 l1 c1 (ss.map Value.string)) (h2 : InRow w a2 l1 c2 (hs.map Value.string)) (hl : l1 ≤ 4096) (hd : ss.Nodup) (hz : ∀ s ∈ ss, s.size ≤ 1048576) :
    Calls Tryz.prog 14 #[.pointer (some ⟨n + 2, 0, none⟩), .slice a1 l1 c1, .slice a2 l1 c2] w fun e w' => e = .returned (.bool true) ∧ w = w' := by
  have hn1 := h1.len
  have hn2 := h2.len
  rw [List.length_map] at hn1 hn2
  have hsz := kvs_size (hs := hs) (hm.canon law9) hd (by omega)
  have hc := curLen_any n m N pub buf _ w h hm
  rw [hsz, hn1] at hc
  have HI := Lib.hid (And.intro h (And.intro hm (And.intro h1 (And.intro h2 (And.intro hd hz)))))
  clear h hm h1 h2 hd hz hn1 hn2 hsz
  go_enter Tryz.func14, Tryz.ntmps14
  go_wp2_with fail
  refine hc.mono ?_
  rintro e w' ⟨rfl, hw⟩
  obtain rfl := hw
  go_wp2_with fail
  go_loopw [7] (fun s7 wr => ∃ k : Nat, s7 = .int .i64 k ∧ k ≤ l1 ∧ w = wr) (fun s7 _ => l1 - (intOf s7).toNat)
  case atStart => exact ⟨0, rfl, Nat.zero_le _, rfl⟩
  case round =>
    obtain ⟨k, rfl, hk, rfl⟩ := hrel
    by_cases hlt : k < l1
    · obtain ⟨x, s, rfl, hsk, hc1⟩ := HI.out.2.2.1.get hlt
      obtain ⟨y, t, rfl, htk, hc2⟩ := HI.out.2.2.2.1.get hlt
      have hsm := HI.out.2.2.2.2.2 s (List.mem_of_getElem? hsk)
      have hok := outK_size s
      have hsum : ∀ wx, (Op.stringOp .add ⟨#[47, 111, 117, 116, 47]⟩ s).run Tryz.prog wx = .ok (.string (outK s)) wx := fun wx => run_add_S (P := Tryz.prog) ⟨#[47, 111, 117, 116, 47]⟩ s (by have e : (⟨#[47, 111, 117, 116, 47]⟩ : ByteArray).size = 5 := rfl; omega) wx
      have hh := curHash_any n m N pub (outK s) buf _ w HI.out.1 HI.out.2.1 (by unfold maxLen; omega)
      rw [kvs_has hsk htk, kvs_at HI.out.2.2.2.2.1 hsk htk] at hh
      have HK := Lib.hid hh
      clear hsk htk hsm hok hh
      go_wp2_with fail
      refine HK.out.mono ?_
      rintro e w' ⟨⟨c, rfl, hcc⟩, hw⟩
      obtain rfl := hw
      obtain rfl : t = c := by
        injection hcc with hcc
        injection hcc with hcc
        rw [← Lib.mk_data t, ← Lib.mk_data c, hcc]
      have hne : (t.toList == t.toList) = true := by simp
      go_wp2_with fail
      go_roundw
      case rel => exact ⟨k + 1, by go_num, by omega, by first | rfl | trivial⟩
      case measure => simp [intOf]; omega
    · obtain rfl : k = l1 := by omega
      go_wp2_with fail
      go_ret
      exact ⟨rfl, rfl⟩
end Go.Proofs.YtglchiomdojjoaaGreatFmt
