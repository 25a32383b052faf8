/-
  The contract of mangleFor in one form, shape by shape of the first statement; conditions: those that it names.
-/
import Derived.Test.YtolpgogmbebmcaaFold
import Derived.Test.YtolpgogmbebmcaaFold2
import Derived.Test.YtolpgogmbebmcaaFor2
import Derived.Test.YtolpgogmbebmcaaTest
namespace Go.Proofs.Ytolpgogmbebmcaa
open Go.RowKit

section
variable {w w' : World} {B : Nat}
theorem IsIdent.same {v : Value} {ref : Int} (h : IsIdent w B v ref) (he : ∀ i, B ≤ i → i < w.heap.size → w'.heap[i]? = w.heap[i]?) : IsIdent w' B v ref := by
  obtain ⟨q, h1, h2, h3⟩ := h
  exact ⟨q, h1, h2, (World.cell?_of_block (a := ⟨q, 1, none⟩) (he q h2 (World.block_lt_of_cell? w _ h3))).trans h3⟩
theorem IsBreak.same {v l : Value} (h : IsBreak w B v l) (he : ∀ i, B ≤ i → i < w.heap.size → w'.heap[i]? = w.heap[i]?) : IsBreak w' B v l := by
  obtain ⟨q, h1, h2, h3⟩ := h
  exact ⟨q, h1, h2, h3.same (he q h2 h3.lt)⟩
theorem IsIf.same {v T Y N : Value} {a b c : Int} (h : IsIf w B v T a Y b N c) (he : ∀ i, B ≤ i → i < w.heap.size → w'.heap[i]? = w.heap[i]?) : IsIf w' B v T a Y b N c := by
  obtain ⟨q, h1, h2, h3⟩ := h
  exact ⟨q, h1, h2, h3.same (he q h2 h3.lt)⟩
theorem ShapeOf.same {sh : Nat} {v : Value} (h : ShapeOf w B sh v) (hs : w.heap.size ≤ w'.heap.size) (he : ∀ i, B ≤ i → i < w.heap.size → w'.heap[i]? = w.heap[i]?) : ShapeOf w' B sh v := by
  obtain ⟨x, hx, h⟩ := h
  refine ⟨x, hx.same he, ?_⟩
  rcases h with ⟨e, k, a1, a2⟩ | ⟨e, k, y, a1, a2, a3⟩ | ⟨e, k, y, a1, a2, a3⟩ | ⟨e, k, nx, a1, a2, a3⟩ | ⟨e, k, a, a1, a2⟩ | ⟨e, y, a1, a2⟩ | ⟨e, a1⟩ | ⟨e, y, z, a1, a2, a3⟩ | ⟨e, y, k, a, a1, a2, a3⟩
  · exact .inl ⟨e, k, a1.same he, a2.same he⟩
  · exact .inr (.inl ⟨e, k, y, a1.same he, a2, a3.same he⟩)
  · exact .inr (.inr (.inl ⟨e, k, y, a1.same he, a2, a3.same he⟩))
  · exact .inr (.inr (.inr (.inl ⟨e, k, nx, a1.same he, a2.same hs he, a3.same he⟩)))
  · exact .inr (.inr (.inr (.inr (.inl ⟨e, k, a, a1.same he, a2.same he⟩))))
  · exact .inr (.inr (.inr (.inr (.inr (.inl ⟨e, y, a1, a2.same he⟩)))))
  · exact .inr (.inr (.inr (.inr (.inr (.inr (.inl ⟨e, a1⟩))))))
  · exact .inr (.inr (.inr (.inr (.inr (.inr (.inr (.inl ⟨e, y, z, a1, a2, a3.same he⟩)))))))
  · exact .inr (.inr (.inr (.inr (.inr (.inr (.inr (.inr ⟨e, y, k, a, a1, a2.same he, a3.same he⟩)))))))
theorem IsKind.same {k : Nat} {v : Value} (h : IsKind w B k v) (hs : w.heap.size ≤ w'.heap.size) (he : ∀ i, B ≤ i → i < w.heap.size → w'.heap[i]? = w.heap[i]?) : IsKind w' B k v := by
  rcases h with h | ⟨hk, b, hv, hb, hl, hc⟩
  · exact .inl h
  · exact .inr ⟨hk, b, hv, hb, by omega, fun h1 h2 => (World.cell?_of_block (a := ⟨b, 1, none⟩) (he b hb hl)).trans (hc h1 h2)⟩
end

/-- The old test. -/
def TestIn (w : World) (B : Nat) (ht : Bool) (T : Value) (TL : Int) : Prop := (ht = false ∧ T = .nilIface) ∨ (ht = true ∧ TL = 12 ∧ IsIdent w B T 1)
theorem TestIn.same {w w' : World} {B : Nat} {ht : Bool} {T : Value} {TL : Int} (h : TestIn w B ht T TL) (he : ∀ i, B ≤ i → i < w.heap.size → w'.heap[i]? = w.heap[i]?) : TestIn w' B ht T TL := by
  rcases h with h | ⟨h1, h2, h3⟩
  · exact .inl h
  · exact .inr ⟨h1, h2, h3.same he⟩
theorem TestIn.shape {w : World} {B : Nat} {ht : Bool} {T : Value} {TL : Int} (h : TestIn w B ht T TL) : T = .nilIface ∨ ∃ Tt tq, T = .iface Tt (.pointer (some ⟨tq, 0, none⟩)) := by
  rcases h with ⟨_, h⟩ | ⟨_, _, q, h, _⟩
  · exact .inl h
  · exact .inr ⟨_, _, h⟩

/-- What a folded loop is. -/
def Folded (N0 : Nat) (w : World) (S M n k1 : Nat) (ht wn h : Bool) (p : Value) (w' : World) : Prop :=
  ∃ T' TL' v l, ForAt w' S T' TL' v l ∧ Done M w' n (decide (20 ≤ k1)) h v l p ∧ TestOk w' ht wn T' TL' ∧ Below N0 w w'

theorem folded_of {N0 : Nat} {w w' : World} {S N M n k1 : Nat} {h ht wn : Bool} {T p bd : Value} {TL : Int} {Q : Value → Int → World → Prop} {e : Ending} (hS : ForAt w S T TL bd 16777216) (hT : TestIn w 0 ht T TL) (hN0 : N0 ≤ S) (hN : N0 ≤ N)
    (hQ : ∀ nx nl, (∀ v ref, IsIdent w 0 v ref → IsIdent w' 0 v ref) → Q nx nl w' → InnerOk w' wn nx nl) (hf : FoldPost w S N M n k1 h T p TL Q e w') : e = .returned (.tuple #[]) ∧ Folded N0 w S M n k1 ht wn h p w' := by
  obtain ⟨he, T', TL', v, l, row, nx, nl, h1, h2, h3, h4, h5, h6, h7, h8, h9, h10⟩ := hf
  have hid : ∀ v ref, IsIdent w 0 v ref → IsIdent w' 0 v ref := fun v ref ⟨q, a1, a2, a3⟩ => by
    have hq := World.block_lt_of_cell? w _ a3
    refine ⟨q, a1, a2, (World.cell?_of_block (a := ⟨q, 1, none⟩) (h10 q hq ?_ ?_)).trans a3⟩
    · rintro rfl
      have := hS.c1.symm.trans a3
      injection this with this
      injection this with this
      cases this
    · intro e
      obtain ⟨_, c, hc⟩ := h5 q e.symm
      have := hc.symm.trans a3
      injection this with this
      injection this with this
      cases this
  refine ⟨he, T', TL', v, l, h1, h2, ?_, h7, h8, h9, h6, fun i hi => h10 i ?_ ?_ ?_⟩
  · have hin := hQ nx nl hid h4
    rcases hT with ⟨rfl, rfl⟩ | ⟨rfl, rfl, ho⟩
    · rcases h3 with ⟨_, rfl, rfl⟩ | ⟨hh, _⟩
      · exact .inl ⟨rfl, hin⟩
      · exact absurd rfl hh
    · rcases h3 with ⟨rfl, _⟩ | ⟨_, rfl, e, rfl, _, h13⟩
      · obtain ⟨q, a1, _⟩ := ho
        cases a1
      · exact .inr ⟨rfl, rfl, e, T, nx, nl, rfl, h13, hid _ _ ho, hin⟩
  · have := hS.lt
    omega
  · omega
  · intro e
    have := (h5 i e.symm).1.1
    omega

theorem IsIdent.low {w : World} {B : Nat} {v : Value} {ref : Int} (h : IsIdent w B v ref) : IsIdent w 0 v ref := by
  obtain ⟨q, h1, h2, h3⟩ := h
  exact ⟨q, h1, Nat.zero_le _, h3⟩
theorem iface_inj {T T' q q' : Nat} (h : Value.iface T (.pointer (some ⟨q, 0, none⟩)) = .iface T' (.pointer (some ⟨q', 0, none⟩))) : T = T' ∧ q = q' := by
  injection h with h1 h2
  injection h2 with h2
  injection h2 with h2
  injection h2 with h2
  exact ⟨h1, h2⟩
theorem IsNot.fn {w : World} {B B' : Nat} {v x x' : Value} {l l' : Int} (h : IsNot w B v x l) (h' : IsNot w B' v x' l') : x = x' ∧ l = l' := by
  obtain ⟨q, rfl, _, _, a1, a2, _⟩ := h
  obtain ⟨q', e, _, _, b1, b2, _⟩ := h'
  obtain ⟨_, rfl⟩ := iface_inj e
  rw [a1] at b1
  rw [a2] at b2
  injection b1 with b1
  injection b2 with b2
  injection b2 with _ b2
  exact ⟨b1, b2⟩

set_option maxHeartbeats 400000 in
theorem shim20 (S : Nat) (w : World) (R : World → Prop) (h : Calls Try.prog 27 #[.pointer (some ⟨S, 0, none⟩)] w fun e w' => e = .returned (.tuple #[]) ∧ R w') : Calls Try.prog 20 #[.pointer (some ⟨S, 0, none⟩)] w fun e w' => e = .returned (.tuple #[]) ∧ R w' := by
  have H := Lib.hid h
  clear h
  go_enter Try.func20, Try.ntmps20
  go_wp2_with fail
  refine H.out.mono ?_
  rintro e w' ⟨rfl, hR⟩
  go_wp2_with fail
  go_end0
  exact ⟨rfl, hR⟩

theorem mangle_any (N0 S sh M n k1 Tb qb T0 q : Nat) (T p : Value) (TL : Int) (ht : Bool) (w : World) (hS : ForAt w S T TL (.iface Tb (.pointer (some ⟨qb, 0, none⟩))) 16777216) (hT : TestIn w 0 ht T TL) (hf : FirstIs w (.iface Tb (.pointer (some ⟨qb, 0, none⟩))) T0 q)
    (hsh : ShapeOf w (S + 1) sh (.iface T0 (.pointer (some ⟨q, 0, none⟩)))) (hbody : ∀ w', w.grownBy w' (some S) → Body (S + 1) M w' n k1 (.iface Tb (.pointer (some ⟨qb, 0, none⟩))) p) (hN0 : N0 ≤ S) (hM : M ≤ w.heap.size) :
    Calls Try.prog 20 #[.pointer (some ⟨S, 0, none⟩)] w fun e w' => e = .returned (.tuple #[]) ∧ ((4 ≤ sh ∧ Below w.heap.size w w') ∨ (sh ≤ 3 ∧ Folded N0 w S M n k1 ht (decide (sh ≤ 1)) (decide (sh = 1 ∨ sh = 2)) p w')) := by
  obtain ⟨x, hx, hsh⟩ := hsh
  have hx0 := hx.low
  obtain ⟨xq, rfl, hxq, hxc⟩ := hx
  have hMN : ∀ g, S + 1 ≤ g → g < M → g ≠ S := fun g h1 _ => by omega
  rcases hsh with ⟨rfl, k, a1, a2⟩ | ⟨rfl, k, y, a1, a2, a3⟩ | ⟨rfl, k, y, a1, a2, a3⟩ | ⟨rfl, k, nx, a1, a2, a3⟩ | ⟨rfl, k, a, a1, a2⟩ | ⟨rfl, y, a1, a2⟩ | ⟨rfl, a1⟩ | ⟨rfl, y, z, a1, a2, a3⟩ | ⟨rfl, y, k, a, a1, a2, a3⟩
  · obtain ⟨kq, rfl, _, hk⟩ := a1
    obtain ⟨q2, e, hq2, hif⟩ := a2
    obtain ⟨rfl, rfl⟩ := iface_inj e
    refine shim20 S w _ ((mangle_yes S q kq (S + 1) M n k1 Tb qb 150 xq T .nilIface p TL 10 0 0 false w hS hf hif hk (.inl rfl) hT.shape (by omega) hbody (.inl ⟨rfl, rfl⟩) hMN hM).mono fun e w' h => ?_)
    obtain ⟨he, hF⟩ := folded_of (wn := true) hS hT hN0 (by omega) (fun nx nl hid hq => by
      rcases hq with ⟨x', _, h2, h3⟩ | ⟨u, h1, _⟩
      · exact ⟨h2, .inl ⟨rfl, _, h3.mono (Nat.zero_le _), hid _ _ hx0⟩⟩
      · exact absurd (iface_inj h1).1 (by decide)) h
    exact ⟨he, .inr ⟨by omega, hF⟩⟩
  · obtain ⟨kq, rfl, _, hk⟩ := a1
    obtain ⟨yq, rfl⟩ := a2
    obtain ⟨q2, e, hq2, hif⟩ := a3
    obtain ⟨rfl, rfl⟩ := iface_inj e
    refine shim20 S w _ ((mangle_yes S q kq (S + 1) M n k1 Tb qb 150 xq T _ p TL 10 0 16777217 true w hS hf hif hk (.inl rfl) hT.shape (by omega) hbody (.inr ⟨rfl, rfl, _, _, rfl⟩) hMN hM).mono fun e w' h => ?_)
    obtain ⟨he, hF⟩ := folded_of (wn := true) hS hT hN0 (by omega) (fun nx nl hid hq => by
      rcases hq with ⟨x', _, h2, h3⟩ | ⟨u, h1, _⟩
      · exact ⟨h2, .inl ⟨rfl, _, h3.mono (Nat.zero_le _), hid _ _ hx0⟩⟩
      · exact absurd (iface_inj h1).1 (by decide)) h
    exact ⟨he, .inr ⟨by omega, hF⟩⟩
  · obtain ⟨kq, rfl, _, hk⟩ := a1
    obtain ⟨yq, rfl⟩ := a2
    obtain ⟨q2, e, hq2, hif⟩ := a3
    obtain ⟨rfl, rfl⟩ := iface_inj e
    refine shim20 S w _ ((mangle_no S q kq (S + 1) M n k1 Tb qb 150 xq 81 yq T p TL 10 16777217 0 true w hS hf hif hk (by decide) hT.shape (by omega) hbody (.inr ⟨rfl, rfl, _, _, rfl⟩) hMN hM).mono fun e w' h => ?_)
    obtain ⟨he, hF⟩ := folded_of (wn := false) hS hT hN0 (by omega) (fun nx nl hid hq => by
      obtain ⟨rfl, rfl⟩ := hq
      exact ⟨rfl, .inr ⟨rfl, hid _ _ hx0⟩⟩) h
    exact ⟨he, .inr ⟨by omega, hF⟩⟩
  · obtain ⟨kq, rfl, _, hk⟩ := a1
    have hnot := a2
    obtain ⟨u, rfl, _⟩ := a2
    obtain ⟨q2, e, hq2, hif⟩ := a3
    obtain ⟨rfl, rfl⟩ := iface_inj e
    refine shim20 S w _ ((mangle_yes S q kq (S + 1) M n k1 Tb qb 71 u T .nilIface p TL 11 0 0 false w hS hf hif hk (.inr ⟨rfl, 150, xq, 10, hnot.mono (Nat.zero_le _)⟩) hT.shape (by omega) hbody (.inl ⟨rfl, rfl⟩) hMN hM).mono fun e w' h => ?_)
    obtain ⟨he, hF⟩ := folded_of (wn := false) hS hT hN0 (by omega) (fun nx nl hid hq => by
      rcases hq with ⟨x', h1, _⟩ | ⟨u, h1, h2⟩
      · exact absurd (iface_inj h1).1 (by decide)
      · obtain ⟨rfl, rfl⟩ := hnot.fn h2
        exact ⟨rfl, .inr ⟨rfl, hid _ _ hx0⟩⟩) h
    exact ⟨he, .inr ⟨by omega, hF⟩⟩
  · obtain ⟨kq, rfl, _, hk⟩ := a1
    obtain ⟨q2, e, hq2, hif⟩ := a2
    obtain ⟨rfl, rfl⟩ := iface_inj e
    refine shim20 S w _ ((mangle_keep S q T _ _ _ _ TL 10 0 0 w hS hf hif (.inr ⟨kq, _, rfl, hk⟩) (.inl rfl)).mono fun e w' h => ⟨h.1, .inl ⟨by omega, h.2⟩⟩)
  · obtain ⟨q2, e, hq2, hif⟩ := a2
    obtain ⟨rfl, rfl⟩ := iface_inj e
    refine shim20 S w _ ((mangle_keep S q T _ _ _ _ TL 10 _ 0 w hS hf hif (.inl a1) (.inl rfl)).mono fun e w' h => ⟨h.1, .inl ⟨by omega, h.2⟩⟩)
  · obtain ⟨q2, e⟩ := a1
    obtain ⟨rfl, rfl⟩ := iface_inj e
    refine shim20 S w _ ((mangle_noif S q 81 T _ TL w hS (by decide) hf).mono fun e w' h => ⟨h.1, .inl ⟨by omega, h.2⟩⟩)
  · obtain ⟨q2, e, hq2, hif⟩ := a3
    obtain ⟨rfl, rfl⟩ := iface_inj e
    refine shim20 S w _ ((mangle_keep S q T _ _ _ _ TL 10 _ _ w hS hf hif (.inl a1) (.inr (.inl a2))).mono fun e w' h => ⟨h.1, .inl ⟨by omega, h.2⟩⟩)
  · obtain ⟨kq, rfl, _, hk⟩ := a2
    obtain ⟨q2, e, hq2, hif⟩ := a3
    obtain ⟨rfl, rfl⟩ := iface_inj e
    refine shim20 S w _ ((mangle_keep S q T _ _ _ _ TL 10 _ _ w hS hf hif (.inl a1) (.inr (.inr ⟨kq, _, rfl, hk⟩))).mono fun e w' h => ⟨h.1, .inl ⟨by omega, h.2⟩⟩)

end Go.Proofs.Ytolpgogmbebmcaa
