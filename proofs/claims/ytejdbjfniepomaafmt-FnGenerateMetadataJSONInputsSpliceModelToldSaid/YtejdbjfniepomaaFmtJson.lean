/-
  The contract of generateMetadataJSON at no output files and zero options: the kept chunks' metafile; conditions: the sizes that it names.
-/
import Derived.Test.YtejdbjfniepomaaFmtClone
import Derived.Test.YtejdbjfniepomaaFmtBld
import Derived.Test.YtejdbjfniepomaaFmtShelf
import Derived.Test.YtejdbjfniepomaaFmtStr
namespace Go.Proofs.YtejdbjfniepomaaFmt
open Go.RowKit

set_option maxHeartbeats 400000 in
theorem maybe_any (s : ByteArray) (w : World) : Calls Tryf.prog 17 #[.int .u8 0, .string s] w fun e w' => e = .returned (.string s) ∧ w = w' := by
  go_enter Tryf.func17, Tryf.ntmps17
  go_wp2
  go_ret
  exact ⟨rfl, rfl⟩

/-- The cells of the files: the chunk, the flag, the rest. -/
def fc (ss : List ByteArray) (om : List Bool) (R : Nat → Value) (j : Nat) : Value :=
  if j % 20 = 0 then .string (ss.getD (j / 20) ⟨#[]⟩) else if j % 20 = 19 then .bool (om.getD (j / 20) false) else R j
theorem fc0 {ss : List ByteArray} {om : List Bool} {R : Nat → Value} {i : Nat} {s : ByteArray} (h : ss[i]? = some s) : fc ss om R (i * 20) = .string s := by
  unfold fc
  rw [if_pos (by omega), show i * 20 / 20 = i by omega, List.getD_eq_getElem?_getD, h]
  rfl
theorem fc19 {ss : List ByteArray} {om : List Bool} {R : Nat → Value} {i : Nat} {b : Bool} (h : om[i]? = some b) : fc ss om R (i * 20 + 19) = .bool b := by
  unfold fc
  rw [if_neg (by omega), if_pos (by omega), show (i * 20 + 19) / 20 = i by omega, List.getD_eq_getElem?_getD, h]
  rfl

theorem keep_next {ss : List ByteArray} {om : List Bool} {zs : List Int} {k : Nat} {z : Int} {s : ByteArray} {b : Bool} (hz : zs[k]? = some z) (hs : ss[z.toNat]? = some s) (ho : om[z.toNat]? = some b) :
    kept (lst ss) om ((nat zs).take (k + 1)) = kept (lst ss) om ((nat zs).take k) ++ (if b = true ∨ s.size = 0 then [] else [s.data.toList]) := by
  obtain ⟨hlt, he⟩ := List.getElem?_eq_some_iff.1 (nat_get hz)
  rw [kept_take hlt, he]
  congr 1
  unfold keepOne
  rw [lst_get hs, List.getD_eq_getElem?_getD, ho]
  cases b
  · simp only [Option.getD_some]
    by_cases h0 : s.size = 0
    · have : s.data.toList = [] := List.eq_nil_of_length_eq_zero (by rw [← Lib.size_eq]; exact h0)
      simp [h0, this]
    · have h1 : s.data.toList.isEmpty = false := by
        rw [List.isEmpty_eq_false_iff]
        intro e
        have := congrArg List.length e
        rw [← Lib.size_eq] at this
        exact h0 this
      rw [if_neg (by simp), h1, if_neg (by simp), if_neg (by simp [h0])]
  · simp

theorem bld_alloc {B b : Nat} {l : List UInt8} {w : World} (h : Bld B b l w) (o : Obj) : Bld B b l (w.alloc o) := by
  rcases h with ⟨hB, v, hb, hown, hne⟩ | ⟨hB, v, hb, hown, hne⟩
  · exact .inl ⟨hB, v, (Below.heap_alloc _ _ _ (bld_lt hb)).trans hb, hown.alloc _, hne⟩
  · exact .inr ⟨hB, v, (Below.heap_alloc _ _ _ (bld_lt hb)).trans hb, hown.alloc _, hne⟩

def JsonRel (ss : List ByteArray) (om : List Bool) (zs : List Int) (l2 : Nat) (w : World) (s10 s30 : Value) (wr : World) : Prop :=
  ∃ k : Nat, k ≤ l2 ∧ s30 = .int .i64 k ∧ s10 = .bool (kept (lst ss) om ((nat zs).take k)).isEmpty ∧ Bld w.heap.size w.heap.size (tHead ++ body true (kept (lst ss) om ((nat zs).take k))) wr ∧ Below w.heap.size w wr

theorem body_le (ss : List ByteArray) (om : List Bool) (zs : List Int) (k : Nat) (h : unfoldSize (lst ss) (nat zs) ≤ 1048576) : (tHead ++ body true (kept (lst ss) om ((nat zs).take k))).length ≤ 1048600 := by
  have h1 := body_length (lst ss) om true ((nat zs).take k)
  have h2 := unfold_mono (ch := lst ss) (rc := nat zs) k
  rw [List.length_append]
  have : tHead.length = 15 := rfl
  omega

set_option maxHeartbeats 4000000 in
set_option maxRecDepth 100000 in
theorem json_any (bb bo g n : Nat) (a2 : Option Addr) (l2 c2 : Nat) (ss : List ByteArray) (om : List Bool) (zs : List Int) (R : Nat → Value) (w : World)
    (hfiles : w.cell? ⟨bb, 3, none⟩ = some (.slice (some ⟨g, 0, none⟩) n n)) (hopt : w.cell? ⟨bo, 88, none⟩ = some (.int .u8 0)) (hrow : Row w g 56 (n * 20) (fc ss om R)) (hss : ss.length = n) (hom : om.length = n) (hs : Small ss)
    (h2 : InRow w a2 l2 c2 (zs.map (Value.int .u32))) (hz : ∀ z ∈ zs, (Lit.int .u32 z).wf = true) (hin : ∀ z ∈ zs, z.toNat < n) (hun : unfoldSize (lst ss) (nat zs) ≤ 1048576) (hl2 : l2 ≤ 262144) :
    Calls Tryf.prog 15 #[.pointer (some ⟨bb, 0, none⟩), .slice none 0 0, .slice a2 l2 c2, .pointer (some ⟨bo, 0, none⟩)] w fun e w' => e = .returned (.string (S (metaText (kept (lst ss) om (nat zs))))) ∧ Below w.heap.size w w' := by
  have hbo := World.block_lt_of_cell? w _ hopt
  have hbb := World.block_lt_of_cell? w _ hfiles
  have hg := hrow.lt
  have hmm := @run_makeMap Tryf.prog
  have H := Lib.hid (And.intro hss (And.intro hom (And.intro hs (And.intro hz (And.intro hin hun)))))
  have HF := Lib.hid (And.intro hfiles (And.intro hopt (And.intro hrow h2)))
  have HLN := Lib.hid h2.len
  clear hss hom hs hz hin hun hrow h2
  have hnew := Lib.hid (Lib.fresh_isBuilder 123 5 w)
  go_enter Tryf.func15, Tryf.ntmps15
  go_wp2_with fail
  refine (maybe_any _ _).mono ?_
  rintro e w' ⟨rfl, rfl⟩
  go_wp2_with fail
  refine (writeString_any w.heap.size w.heap.size [] _ _ hnew.out (by show 0 + 15 ≤ _; omega) (by simp)).mono ?_
  rintro e w1 ⟨rfl, hbl, hb1⟩
  have hB1 : Below w.heap.size w w1 := ((Below.refl _ _).alloc (Nat.le_refl _) _).trans hb1
  have HB := Lib.hid (And.intro hbl hB1)
  clear hbl hb1 hB1 hfiles hopt
  go_wp2_with fail
  go_loopw [10, 30] (fun s10 s30 wr => JsonRel ss om zs l2 w s10 s30 wr) (fun _ s30 _ => l2 - (intOf s30).toNat)
  case atStart => exact ⟨0, Nat.zero_le _, rfl, rfl, HB.out.1, HB.out.2⟩
  case round =>
    obtain ⟨k, hk, rfl, rfl, hbl, hb⟩ := hrel
    have HR := Lib.hid (And.intro hbl hb)
    have hsz := hb.size
    have hle := body_le ss om zs k H.out.2.2.2.2.2
    have c1 : wr.cell? ⟨bb, 3, none⟩ = some (.slice (some ⟨g, 0, none⟩) n n) := by rw [hb.cell (p := ⟨bb, 3, none⟩) hbb]; exact HF.out.1
    have c2 : wr.cell? ⟨bo, 88, none⟩ = some (.int .u8 0) := by rw [hb.cell (p := ⟨bo, 88, none⟩) hbo]; exact HF.out.2.1
    have hrow := HF.out.2.2.1.below hb hg
    have hlt0 := HLN.out
    rw [List.length_map] at hlt0
    have HLZ := Lib.hid hlt0
    clear hbl hb hlt0
    by_cases hlt : k < l2
    · obtain ⟨x, z, rfl, hzk, hc⟩ := (HF.out.2.2.2.up HR.out.2).get hlt
      obtain ⟨z0, z1⟩ := bounds_u32 (H.out.2.2.2.1 z (List.mem_of_getElem? hzk))
      have hzn := H.out.2.2.2.2.1 z (List.mem_of_getElem? hzk)
      obtain ⟨s, hs⟩ : ∃ s, ss[z.toNat]? = some s := ⟨_, List.getElem?_eq_getElem (by have := H.out.1; omega)⟩
      obtain ⟨b, hbo2⟩ : ∃ b, om[z.toNat]? = some b := ⟨_, List.getElem?_eq_getElem (by have := H.out.2.1; omega)⟩
      have hnx := keep_next hzk hs hbo2
      have hss := H.out.2.2.1 s (List.mem_of_getElem? hs)
      have d0 : wr.cell? ⟨g, z.toNat * 20, none⟩ = some (.string s) := by rw [hrow.cell (i := z.toNat * 20) (by omega), fc0 hs]
      have d1 : wr.cell? ⟨g, z.toNat * 20 + 19, none⟩ = some (.bool b) := by rw [hrow.cell (i := z.toNat * 20 + 19) (by omega), fc19 hbo2]
      have hzi : z < (n : Int) := by omega
      have HN := Lib.hid hnx
      clear hrow hzk hs hbo2 hnx
      cases b
      · by_cases h0 : s.size = 0
        · have HZ := Lib.hid h0
          have h0' : s.size ≤ 0 := by omega
          clear h0
          go_wp2_with fail
          have hN := HN.out
          rw [if_pos (.inr HZ.out), List.append_nil] at hN
          refine ⟨⟨k + 1, by omega, by go_num, by rw [hN], by rw [hN]; exact HR.out.1, HR.out.2⟩, by simp [intOf]; omega⟩
        · have h0' : 0 < s.size := by omega
          have HZ := Lib.hid h0
          clear h0
          cases hf : (kept (lst ss) om ((nat zs).take k)).isEmpty
          · have HE := Lib.hid hf
            go_wp2_with fail
            refine (maybe_any _ _).mono ?_
            rintro e w' ⟨rfl, rfl⟩
            go_wp2_with fail
            refine (writeString_any w.heap.size w.heap.size _ _ _ HR.out.1 (Nat.le_trans (Nat.add_le_add_left (show _ ≤ 6 by decide) _) (by omega)) hsz).mono ?_
            rintro e w2 ⟨rfl, hbl2, hb2⟩
            have hB2 := HR.out.2.trans hb2
            have d0' : w2.cell? ⟨g, z.toNat * 20, none⟩ = some (.string s) := by rw [hb2.cell (p := ⟨g, z.toNat * 20, none⟩) hg]; exact d0
            have hs2 := hB2.size
            have HB2 := Lib.hid (And.intro hbl2 hB2)
            clear hbl2 hb2 hB2 d0 d1 c1 c2
            go_wp2_with fail
            refine (writeString_any w.heap.size w.heap.size _ _ _ HB2.out.1 (by rw [List.length_append]; exact Nat.le_trans (Nat.add_le_add (Nat.add_le_add_left (show _ ≤ 6 by decide) _) hss) (by omega)) hs2).mono ?_
            rintro e w3 ⟨rfl, hbl3, hb3⟩
            have HB3 := Lib.hid (And.intro hbl3 (HB2.out.2.trans hb3))
            clear hbl3 hb3
            go_wp2_with fail
            have hN := HN.out
            rw [if_neg (by rintro (h | h); · cases h
                           · exact HZ.out h)] at hN
            refine ⟨⟨k + 1, by omega, by go_num, by rw [hN]; simp, ?_, HB3.out.2⟩, by simp [intOf]; omega⟩
            rw [hN, body_snoc, HE.out]
            have := HB3.out.1
            simpa [List.append_assoc, tNext] using this
          · have HE := Lib.hid hf
            go_wp2_with fail
            refine (maybe_any _ _).mono ?_
            rintro e w' ⟨rfl, rfl⟩
            go_wp2_with fail
            refine (writeString_any w.heap.size w.heap.size _ _ _ HR.out.1 (Nat.le_trans (Nat.add_le_add_left (show _ ≤ 6 by decide) _) (by omega)) hsz).mono ?_
            rintro e w2 ⟨rfl, hbl2, hb2⟩
            have hB2 := HR.out.2.trans hb2
            have d0' : w2.cell? ⟨g, z.toNat * 20, none⟩ = some (.string s) := by rw [hb2.cell (p := ⟨g, z.toNat * 20, none⟩) hg]; exact d0
            have hs2 := hB2.size
            have HB2 := Lib.hid (And.intro hbl2 hB2)
            clear hbl2 hb2 hB2 d0 d1 c1 c2
            go_wp2_with fail
            refine (writeString_any w.heap.size w.heap.size _ _ _ HB2.out.1 (by rw [List.length_append]; exact Nat.le_trans (Nat.add_le_add (Nat.add_le_add_left (show _ ≤ 6 by decide) _) hss) (by omega)) hs2).mono ?_
            rintro e w3 ⟨rfl, hbl3, hb3⟩
            have HB3 := Lib.hid (And.intro hbl3 (HB2.out.2.trans hb3))
            clear hbl3 hb3
            go_wp2_with fail
            have hN := HN.out
            rw [if_neg (by rintro (h | h); · cases h
                           · exact HZ.out h)] at hN
            refine ⟨⟨k + 1, by omega, by go_num, by rw [hN]; simp, ?_, HB3.out.2⟩, by simp [intOf]; omega⟩
            rw [hN, body_snoc, HE.out]
            have := HB3.out.1
            simpa [List.append_assoc, tFirst] using this
      · go_wp2_with fail
        have hN := HN.out
        rw [if_pos (.inl rfl), List.append_nil] at hN
        refine ⟨⟨k + 1, by omega, by go_num, by rw [hN], by rw [hN]; exact HR.out.1, HR.out.2⟩, by simp [intOf]; omega⟩
    · have hall : (nat zs).take k = nat zs := List.take_of_length_le (by have := HLZ.out; simp [nat]; omega)
      have HA := Lib.hid hall
      clear hall hrow
      go_wp2_with fail
      refine (maybe_any _ _).mono ?_
      rintro e w' ⟨rfl, rfl⟩
      go_wp2_with fail
      refine (writeString_any w.heap.size w.heap.size _ _ _ HR.out.1 (Nat.le_trans (Nat.add_le_add_left (show _ ≤ 20 by decide) _) (by omega)) hsz).mono ?_
      rintro e w2 ⟨rfl, hbl2, hb2⟩
      have hB2 := HR.out.2.trans hb2
      have c2' : w2.cell? ⟨bo, 88, none⟩ = some (.int .u8 0) := by rw [hB2.cell (p := ⟨bo, 88, none⟩) hbo]; exact HF.out.2.1
      have hs2 := hB2.size
      have hlt2 : bo < w2.heap.size := by omega
      have HB2 := Lib.hid (And.intro hbl2 hB2)
      clear hbl2 hb2 hB2 c1 c2
      go_wp2_with fail
      go_loop [83] (fun s83 => s83 = .int .i64 0) (fun _ => 0)
      case atStart => rfl
      case round =>
        obtain rfl := hrel
        have hlen2 : (tHead ++ body true (kept (lst ss) om ((nat zs).take k))).length + 50 ≤ 140737488355328 := by omega
        go_wp2_with fail
        refine (maybe_any _ _).mono ?_
        rintro e w' ⟨rfl, rfl⟩
        go_wp2_with fail
        refine (writeString_any w.heap.size w.heap.size _ _ _ (bld_alloc HB2.out.1 _) (by rw [List.length_append]; exact Nat.le_trans (Nat.add_le_add (Nat.add_le_add_left (show _ ≤ 20 by decide) _) (show _ ≤ 6 by decide)) (by omega)) (by simp; omega)).mono ?_
        rintro e w3 ⟨rfl, hbl3, hb3⟩
        have hB3 := (HB2.out.2.alloc hs2 _).trans hb3
        have hs3 := hB3.size
        have HB3 := Lib.hid (And.intro hbl3 hB3)
        clear hbl3 hb3 hB3
        go_wp2_with fail
        refine (writeByte_any w.heap.size w.heap.size _ 10 _ rfl _ HB3.out.1 (by rw [List.length_append, List.length_append]; exact Nat.le_trans (Nat.add_le_add (Nat.add_le_add (Nat.add_le_add_left (show _ ≤ 20 by decide) _) (show _ ≤ 6 by decide)) (Nat.le_refl 1)) (by omega)) hs3).mono ?_
        rintro e w4 ⟨rfl, hbl4, hb4⟩
        have hB4 := HB3.out.2.trans hb4
        have hs4 := hB4.size
        have HB4 := Lib.hid (And.intro hbl4 hB4)
        clear hbl4 hb4 hB4
        go_wp2_with fail
        refine (Tryf.Builder_String_any w.heap.size w.heap.size _ _ HB4.out.1 hs4).mono ?_
        rintro e w5 ⟨rfl, hb5⟩
        have hT : tHead ++ body true (kept (lst ss) om ((nat zs).take k)) ++ (ByteArray.mk #[10, 32, 32, 125, 44, 10, 32, 32, 34, 111, 117, 116, 112, 117, 116, 115, 34, 58, 32, 123]).data.toList ++ (ByteArray.mk #[10, 32, 32, 125, 10, 125]).data.toList ++ [10] = metaText (kept (lst ss) om (nat zs)) := by
          rw [HA.out]
          rfl
        rw [hT]
        go_wp2_with fail
        go_ret
        exact ⟨rfl, HB4.out.2.trans hb5⟩

end Go.Proofs.YtejdbjfniepomaaFmt
