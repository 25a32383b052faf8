/-
  The contract of zzMetaKept: the kept chunks in a slice of the call's own; conditions: the sizes that it names.
-/
import Derived.Test.YtejdbjfniepomaaFmtShim
import Derived.Maps.AppendAt
namespace Go.Proofs.YtejdbjfniepomaaFmt
open Go.RowKit

theorem owns_in {w : World} {B : Nat} {e : TypeId} {v : Value} {m : Nat} {xs : List Value} (h : w.ownsRow B e 1 v m xs) : ∃ A cap, v = .slice A m cap ∧ InRow w A m cap xs := by
  obtain ⟨hl, ⟨rfl, rfl⟩ | ⟨g, cap, cur, rfl, _, hg, hn, hm, hs, ht⟩⟩ := h
  · exact ⟨none, 0, rfl, .inl ⟨rfl, rfl, rfl, List.eq_nil_of_length_eq_zero (by omega)⟩⟩
  · refine ⟨_, _, rfl, .inr ⟨_, rfl, hn, hm, by omega, fun i u hu => ?_⟩⟩
    have hi : i < m := by have := (List.getElem?_eq_some_iff.1 hu).1; omega
    have e : (⟨g, 0, none⟩ : Addr).add i = ⟨g, i, none⟩ := by
      unfold Addr.add
      split
      · next h0 => rw [h0]
      · simp
    rw [e, cell_of_row w g i cur _ (0, 0) hg, ← hu, ← ht, Nat.mul_one, List.getElem?_take_of_lt hi, Array.getElem?_toList]

/-- Byte lists as string values. -/
def sv (ks : List (List UInt8)) : List Value := (ks.map S).map Value.string
theorem sv_length (ks : List (List UInt8)) : (sv ks).length = ks.length := by simp [sv]
theorem sv_append (a b : List (List UInt8)) : sv (a ++ b) = sv a ++ sv b := by simp [sv]
theorem lst_S (ks : List (List UInt8)) : lst (ks.map S) = ks := by
  unfold lst
  rw [List.map_map]
  conv => rhs; rw [← List.map_id ks]
  exact List.map_congr_left fun k _ => S_data k

def KeptRel (ss : List ByteArray) (om : List Bool) (zs : List Int) (l2 : Nat) (w : World) (s7 s8 : Value) (wr : World) : Prop :=
  ∃ k : Nat, k ≤ l2 ∧ s8 = .int .i64 k ∧ wr.ownsRow w.heap.size 9 1 s7 (kept (lst ss) om ((nat zs).take k)).length (sv (kept (lst ss) om ((nat zs).take k))) ∧ Below w.heap.size w wr
def KeptEnd (ks : List (List UInt8)) (w : World) (e : Ending) (w' : World) : Prop := ∃ A cap, e = .returned (.slice A ks.length cap) ∧ InRow w' A ks.length cap ((ks.map S).map Value.string) ∧ Below w.heap.size w w'

theorem kept_bound (ss : List ByteArray) (om : List Bool) (zs : List Int) (k : Nat) (h : unfoldSize (lst ss) (nat zs) ≤ 1048576) : (kept (lst ss) om ((nat zs).take k)).length ≤ 131072 := by
  have h1 := kept_len (lst ss) om ((nat zs).take k)
  have h2 := unfold_mono (ch := lst ss) (rc := nat zs) k
  omega

set_option maxHeartbeats 4000000 in
set_option maxRecDepth 100000 in
theorem kept_any (a0 a1 a2 : Option Addr) (n c0 c1 l2 c2 : Nat) (ss : List ByteArray) (om : List Bool) (zs : List Int) (w : World)
    (h0 : InRow w a0 n c0 (ss.map Value.string)) (h1 : InRow w a1 n c1 (om.map Value.bool)) (hs : Small ss)
    (h2 : InRow w a2 l2 c2 (zs.map (Value.int .u32))) (hz : ∀ z ∈ zs, (Lit.int .u32 z).wf = true) (hin : ∀ z ∈ zs, z.toNat < n) (hun : unfoldSize (lst ss) (nat zs) ≤ 1048576) (hl2 : l2 ≤ 262144) :
    Calls Tryf.prog 12 #[.slice a0 n c0, .slice a1 n c1, .slice a2 l2 c2] w (KeptEnd (kept (lst ss) om (nat zs)) w) := by
  obtain ⟨i0, hi, hz0, hz1, hz2⟩ := info_parts info9
  have HI := Lib.hid (And.intro hi (And.intro hz0 (And.intro hz1 hz2)))
  have hl2' := h2.len
  rw [List.length_map] at hl2'
  have H := Lib.hid (And.intro h0 (And.intro h1 h2))
  have HP := Lib.hid (And.intro hl2' (And.intro hs (And.intro hz (And.intro hin hun))))
  clear hi hz0 hz1 hz2 hl2' h0 h1 h2 hs hz hin hun
  go_enter Tryf.func12, Tryf.ntmps12
  go_wp2_with fail
  go_loopw [7, 8] (fun s7 s8 wr => KeptRel ss om zs l2 w s7 s8 wr) (fun _ s8 _ => l2 - (intOf s8).toNat)
  case atStart => exact ⟨0, Nat.zero_le _, rfl, World.ownsRow_nil _ _ _ _, Below.refl _ _⟩
  case round =>
    obtain ⟨k, hk, rfl, hown, hb⟩ := hrel
    have HR := Lib.hid (And.intro hown hb)
    have hm := kept_bound ss om zs k HP.out.2.2.2.2
    have hsz := hb.size
    by_cases hlt : k < l2
    · obtain ⟨x, z, rfl, hzk, hc⟩ := (H.out.2.2.up hb).get hlt
      obtain ⟨z0, z1⟩ := bounds_u32 (HP.out.2.2.1 z (List.mem_of_getElem? hzk))
      have hzn := HP.out.2.2.2.1 z (List.mem_of_getElem? hzk)
      obtain ⟨y, s, rfl, hs, hc0⟩ := (H.out.1.up hb).get hzn
      obtain ⟨y1, b, rfl, hb1, hc1⟩ := (H.out.2.1.up hb).get hzn
      have hnx := keep_next hzk hs hb1
      have hss := HP.out.2.1 s (List.mem_of_getElem? hs)
      have hzi : z < (n : Int) := by omega
      have HN := Lib.hid hnx
      clear hzk hs hb1 hnx hown hb
      cases b
      · by_cases h0 : s.size = 0
        · have HZ := Lib.hid h0
          have h0' : s.size ≤ 0 := by omega
          clear h0
          go_wp2_with fail
          have hN := HN.out
          rw [if_pos (.inr HZ.out), List.append_nil] at hN
          refine ⟨⟨k + 1, by omega, by go_num, by rw [hN]; exact HR.out.1, HR.out.2⟩, by simp [intOf]; omega⟩
        · have h0' : 0 < s.size := by omega
          have HZ := Lib.hid h0
          clear h0
          go_wp2_with (at_builtin; refine wpList_append_own _ rfl _ _ 22 rfl w.heap.size 9 i0 (.string ⟨#[]⟩) 1 16 Tryf.underlying22 HI.out.1 HI.out.2.1 HI.out.2.2.1 HI.out.2.2.2 rfl (by decide) _ _ _ rfl (HR.out.1.alloc _) ⟨wr.heap.size, 0, none⟩ 1 1 [.string s] rfl rfl (cell_one_new _ _ _) (fun u hu => by rw [List.mem_singleton] at hu; subst hu; rfl) (by unfold maxLen; omega) (by omega) (by simp; omega) ?_; intro v' w2 hown' hgrow _)
          have hN := HN.out
          rw [if_neg (by rintro (h | h); · cases h
                         · exact HZ.out h)] at hN
          refine ⟨⟨k + 1, by omega, by go_num, ?_, (HR.out.2.alloc hsz _).grown hgrow (by simp; omega) (fun j hj => (HR.out.1.lt j hj).1)⟩, by simp [intOf]; omega⟩
          rw [hN, List.length_append, sv_append, show sv [s.data.toList] = [.string s] by simp [sv, S_L]]
          exact hown'
      · go_wp2_with fail
        have hN := HN.out
        rw [if_pos (.inl rfl), List.append_nil] at hN
        refine ⟨⟨k + 1, by omega, by go_num, by rw [hN]; exact HR.out.1, HR.out.2⟩, by simp [intOf]; omega⟩
    · have hall : (nat zs).take k = nat zs := List.take_of_length_le (by have := HP.out.1; simp [nat]; omega)
      rw [hall] at hown
      obtain ⟨A, cap, rfl, hin⟩ := owns_in hown
      have HI2 := Lib.hid hin
      clear hin hown hall hb hm
      go_wp2_with fail
      go_ret
      exact ⟨A, cap, rfl, HI2.out, HR.out.2⟩

end Go.Proofs.YtejdbjfniepomaaFmt
