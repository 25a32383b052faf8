/-
  Plain facts on the map that is built from keys and values in their order; no program in sight (conditions: those that each lemma names).
-/
import Derived.Test.YtglchiomdojjoaaGreatFmtGrd
import Derived.Maps.Ext
import Derived.Maps.Views
import Derived.Maps.RangeWalk
import Derived.Maps.StringElems
import Derived.StringKeys
namespace Go.Proofs.YtglchiomdojjoaaGreatFmt
open Go.RowKit Go.Maps Go.Lib Go.WideMaps

abbrev KV := ByteArray × ByteArray
def kL (p : KV) : Lit := .string p.1.data.toList
def vD (p : KV) : DataW Unit := .lit (.string p.2.data.toList)
def bmap (ps : List KV) : DataW Unit := ps.foldl (fun m p => m.put (kL p) (vD p)) (.map [])
theorem bmap_snoc (ps : List KV) (p : KV) : bmap (ps ++ [p]) = (bmap ps).put (kL p) (vD p) := by
  unfold bmap
  rw [List.foldl_append]
  rfl
theorem kL_key (p : KV) : WideAt.IsKeyLit (kL p) := by simp [kL, WideAt.IsKeyLit]
theorem kL_eq {p q : KV} : kL p = kL q ↔ p.1 = q.1 := by
  unfold kL
  constructor
  · intro h
    injection h with h
    rw [← Lib.mk_data p.1, ← Lib.mk_data q.1, h]
  · intro h
    rw [h]
theorem bmap_tidy : ∀ (n : Nat) (ps : List KV), ps.length = n → Tidy (bmap ps)
  | 0, ps, h => by rw [List.eq_nil_of_length_eq_zero h]; exact tidy_empty
  | n + 1, ps, h => by
    obtain ⟨r, x, rfl⟩ : ∃ r x, ps = r ++ [x] := ⟨ps.dropLast, ps.getLast (by intro e; rw [e] at h; cases h), (List.dropLast_concat_getLast _).symm⟩
    rw [bmap_snoc]
    exact (bmap_tidy n r (by simpa using h)).put (kL_key x) _
theorem bmap_has : ∀ (n : Nat) (ps : List KV), ps.length = n → ∀ k, has (bmap ps) k = true ↔ ∃ p ∈ ps, k = kL p
  | 0, ps, h, k => by rw [List.eq_nil_of_length_eq_zero h]; simp [bmap, has_eq]
  | n + 1, ps, h, k => by
    obtain ⟨r, x, rfl⟩ : ∃ r x, ps = r ++ [x] := ⟨ps.dropLast, ps.getLast (by intro e; rw [e] at h; cases h), (List.dropLast_concat_getLast _).symm⟩
    have ih := bmap_has n r (by simpa using h) k
    have ht := bmap_tidy n r (by simpa using h)
    rw [bmap_snoc]
    by_cases e : k = kL x
    · subst e
      rw [has_put_same ht.isMap (kL_key x)]
      simp only [true_iff]
      exact ⟨x, by simp, rfl⟩
    · rw [has_put_other e, ih]
      constructor
      · rintro ⟨p, hp, hk⟩
        exact ⟨p, by simp [hp], hk⟩
      · rintro ⟨p, hp, hk⟩
        rcases List.mem_append.1 hp with hp | hp
        · exact ⟨p, hp, hk⟩
        · rw [List.mem_singleton] at hp
          subst hp
          exact absurd hk e
/-- Nothing later has this key. -/
def LastAt (ps : List KV) (i : Nat) : Prop := ∀ j p q, i < j → ps[i]? = some p → ps[j]? = some q → q.1 ≠ p.1
theorem bmap_at : ∀ (n : Nat) (ps : List KV), ps.length = n → ∀ i p, ps[i]? = some p → LastAt ps i → ∀ z, (bmap ps).atKey (kL p) z = vD p
  | 0, ps, h, i, p, hp, _, z => by rw [List.eq_nil_of_length_eq_zero h] at hp; simp at hp
  | n + 1, ps, h, i, p, hp, hl, z => by
    obtain ⟨r, x, rfl⟩ : ∃ r x, ps = r ++ [x] := ⟨ps.dropLast, ps.getLast (by intro e; rw [e] at h; cases h), (List.dropLast_concat_getLast _).symm⟩
    have hr : r.length = n := by simpa using h
    have ht := bmap_tidy n r hr
    rw [bmap_snoc]
    by_cases hi : i < r.length
    · have hp' : r[i]? = some p := by rwa [List.getElem?_append_left hi] at hp
      have hne : kL p ≠ kL x := by
        intro e
        exact hl r.length p x hi (by rw [List.getElem?_append_left hi]; exact hp') (by simp) (kL_eq.1 e).symm
      rw [atKey_put_other hne]
      exact bmap_at n r hr i p hp' (fun j p' q hj h1 h2 => hl j p' q hj (by rw [List.getElem?_append_left hi]; exact h1) (by rw [List.getElem?_append_left (List.getElem?_eq_some_iff.1 h2).1]; exact h2)) z
    · have hi2 : i = r.length := by
        have := (List.getElem?_eq_some_iff.1 hp).1
        simp at this
        omega
      subst hi2
      have : p = x := by simpa using hp.symm
      subst this
      exact atKey_put_same ht.isMap (kL_key p) _ _
theorem take_next_kv {ps : List KV} {k : Nat} {p : KV} (h : ps[k]? = some p) : ps.take (k + 1) = ps.take k ++ [p] := by
  obtain ⟨hk, rfl⟩ := List.getElem?_eq_some_iff.1 h
  exact List.take_succ_eq_append_getElem hk
theorem bmap_step {ps : List KV} {k : Nat} {p : KV} (h : ps[k]? = some p) : bmap (ps.take (k + 1)) = (bmap (ps.take k)).put (kL p) (vD p) := by rw [take_next_kv h, bmap_snoc]
theorem size_of_has {D : DataW Unit} (c : Canon D) {L : List Lit} (hn : L.Nodup) (h : ∀ k, has D k = true ↔ k ∈ L) : Maps.size D = L.length := by
  obtain ⟨es, rfl, hs, hk⟩ := c
  have h1 : (es.map Prod.fst).Nodup := by
    rw [List.nodup_iff_pairwise_ne, List.pairwise_map]
    exact apart_of_rising hs
  have h2 : ∀ k, k ∈ es.map Prod.fst ↔ k ∈ L := fun k => by
    rw [← h k, has_eq, List.any_eq_true, List.mem_map]
    constructor
    · rintro ⟨p, hp, rfl⟩
      exact ⟨p, hp, WideAt.sameKey_self (hk p hp)⟩
    · rintro ⟨p, hp, e⟩
      exact ⟨p, hp, WideAt.sameKey_eq e⟩
  rw [Maps.size_eq, ← ((List.perm_ext_iff_of_nodup h1 hn).2 h2).length_eq, List.length_map]


theorem law9 : Keyed Tryz.prog 9 := string_keyed Tryz.underlying9
abbrev MapS (b n : Nat) (D : DataW Unit) (w : World) : Prop := w.ownsMap Tryz.prog 9 (plainElem Tryz.prog 9) b n D
theorem run_makeMap_hint {P : Program} (t k e : TypeId) (ht : P.underlying t = some (.map k e)) (n : Int) (w : World) : (Instr.makeMap t (some (.int .i64 n))).run P w = .ok (.map (some w.heap.size)) (w.alloc (.map #[] 0)) := by
  simp [Instr.makeMap, run_underlying ht, asInt, go_sem]
theorem kInv : ∀ key kl, keyOf Tryz.prog 9 key = some kl → ∃ x : ByteArray, key = .string x := by
  intro key kl h
  obtain ⟨s, rfl, _⟩ := Go.WideMaps.string_of_keyOf Tryz.underlying9 h
  exact ⟨s, rfl⟩
theorem vInv : ∀ v (y : DataW Unit × List MemPlace), plainElem Tryz.prog 9 v = some y → ∃ c : ByteArray, v = .string c := by
  intro v y h
  obtain ⟨s, rfl, _⟩ := plainElem_string_inv Tryz.underlying9 h
  exact ⟨s, rfl⟩
/-- The path of a name: "/out/" and the name. -/
def outL (l : List UInt8) : List UInt8 := [47, 111, 117, 116, 47] ++ l
def outK (s : ByteArray) : ByteArray := S (outL s.data.toList)
theorem outK_size (s : ByteArray) : (outK s).size = s.size + 5 := by
  unfold outK outL
  rw [S_size, List.length_append, ← Lib.size_eq]
  simp; omega
theorem outK_inj {s t : ByteArray} (h : outK s = outK t) : s = t := by
  have := S_inj h
  unfold outL at this
  rw [← Lib.mk_data s, ← Lib.mk_data t, List.append_cancel_left this]
/-- The entries: each name's path and its hash. -/
def kvs (ss hs : List ByteArray) : List KV := (ss.zip hs).map fun p => (outK p.1, p.2)
theorem kvs_length {ss hs : List ByteArray} (h : ss.length = hs.length) : (kvs ss hs).length = ss.length := by
  unfold kvs
  rw [List.length_map, List.length_zip]
  omega
theorem kvs_get {ss hs : List ByteArray} {k : Nat} {s t : ByteArray} (h1 : ss[k]? = some s) (h2 : hs[k]? = some t) : (kvs ss hs)[k]? = some (outK s, t) := by
  unfold kvs
  have h : (ss.zip hs)[k]? = some (s, t) := List.getElem?_zip_eq_some.2 ⟨h1, h2⟩
  rw [List.getElem?_map, h]
  rfl
set_option maxHeartbeats 4000000 in
set_option maxRecDepth 100000 in
theorem build_any (a1 : Option Addr) (l1 c1 : Nat) (ss : List ByteArray) (a2 : Option Addr) (c2 : Nat) (hs : List ByteArray) (w : World) (h1 : InRow w a1 l1 c1 (ss.map Value.string)) (h2 : InRow w a2 l1 c2 (hs.map Value.string)) (hl : l1 ≤ 4096)
    (hs1 : ∀ s ∈ ss, s.size ≤ 1048576) (hs2 : ∀ s ∈ hs, s.size ≤ 1048576) :
    Calls Tryz.prog 9 #[.slice a1 l1 c1, .slice a2 l1 c2] w fun e w' => e = .returned (.map (some w.heap.size)) ∧ MapS w.heap.size l1 (bmap (kvs ss hs)) w' ∧ Below w.heap.size w w' := by
  have hn1 := h1.len
  have hn2 := h2.len
  rw [List.length_map] at hn1 hn2
  have HI := Lib.hid (And.intro h1 (And.intro h2 (And.intro hs1 (And.intro hs2 (And.intro hn1 hn2)))))
  clear h1 h2 hs1 hs2 hn1 hn2
  have hmk := run_makeMap_hint (P := Tryz.prog) 28 _ _ Tryz.underlying28 (l1 : Int) w
  go_enter Tryz.func9, Tryz.ntmps9
  go_wp2_with fail
  clear hmk
  go_loopw [6] (fun s6 wr => ∃ k : Nat, s6 = .int .i64 k ∧ k ≤ l1 ∧ MapS w.heap.size k (bmap ((kvs ss hs).take k)) wr ∧ Below w.heap.size w wr) (fun s6 _ => l1 - (intOf s6).toNat)
  case atStart => exact ⟨0, rfl, Nat.zero_le _, World.ownsMap_made _ _ _ _, (Below.refl _ _).alloc (Nat.le_refl _) _⟩
  case round =>
    obtain ⟨k, rfl, hk, hM, hbw⟩ := hrel
    by_cases hlt : k < l1
    · obtain ⟨x, s, rfl, hsk, hc⟩ := (HI.out.1.up hbw).get hlt
      obtain ⟨y, t, rfl, htk, hd⟩ := (HI.out.2.1.up hbw).get hlt
      have hsm := HI.out.2.2.1 s (List.mem_of_getElem? hsk)
      have htm := HI.out.2.2.2.1 t (List.mem_of_getElem? htk)
      have hok := outK_size s
      have hsum := fun wx => run_add_S (P := Tryz.prog) ⟨#[47, 111, 117, 116, 47]⟩ s (by have e : (⟨#[47, 111, 117, 116, 47]⟩ : ByteArray).size = 5 := rfl; omega) wx
      have hsum' : ∀ wx, (Op.stringOp .add ⟨#[47, 111, 117, 116, 47]⟩ s).run Tryz.prog wx = .ok (.string (outK s)) wx := hsum
      clear hsum
      obtain ⟨w5, hrun5, hown5, hgrow5⟩ := World.ownsMap.update (H := Unit) (show MapS w.heap.size k (bmap ((kvs ss hs).take k)) wr.drew from hM) law9 Tryz.underlying28 (by unfold maxLen; omega) (WideMaps.keyOf_string_mk (s := outK s) Tryz.underlying9 (by unfold maxLen; omega)) (plainElem_string (s := t) Tryz.underlying9 (by unfold maxLen; omega))
      have hd5 : Below w.heap.size w w5 := (hbw.drew).grown hgrow5 hbw.size (fun j hj => by cases hj; exact Nat.le_refl _)
      have hown6 : MapS w.heap.size (k + 1) (bmap ((kvs ss hs).take (k + 1))) w5 := by rw [bmap_step (kvs_get hsk htk)]; exact hown5
      have H5 := Lib.hid (And.intro hown6 hd5)
      clear hM hbw hsk htk hsm htm hown5 hgrow5 hd5 hown6 hok
      go_wp2_with fail
      go_region
      all_goals
        go_wp2_with fail
        exact ⟨⟨k + 1, by go_num, by omega, H5.out⟩, by simp [intOf]; omega⟩
    · obtain rfl : k = l1 := by omega
      rw [List.take_of_length_le (by rw [kvs_length (by rw [HI.out.2.2.2.2.1, HI.out.2.2.2.2.2])]; have := HI.out.2.2.2.2.1; omega)] at hM
      have H := Lib.hid (And.intro hM hbw)
      clear hM hbw
      go_wp2_with fail
      go_ret
      exact ⟨rfl, H.out⟩
end Go.Proofs.YtglchiomdojjoaaGreatFmt
