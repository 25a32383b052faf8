/-
  Folding k leading breaks, one call of mangleFor after the other: the chain of tests and the body's state; conditions: those that each names.
-/
import Derived.Test.YtolpgogmbebmcaaLefty
namespace Go.Proofs.Ytolpgogmbebmcaa
open Go.RowKit

theorem iface_inj {T T' q q' : Nat} (h : Value.iface T (.pointer (some ⟨q, 0, none⟩)) = .iface T' (.pointer (some ⟨q', 0, none⟩))) : T = T' ∧ q = q' := by
  injection h with h1 h2
  injection h2 with h2
  injection h2 with h2
  injection h2 with h2
  exact ⟨h1, h2⟩
theorem kind_same {w w' : World} {B k : Nat} {v : Value} (h : IsKind w B k v) (hs : w.heap.size ≤ w'.heap.size) (he : ∀ i, B ≤ i → i < w.heap.size → w'.heap[i]? = w.heap[i]?) : IsKind w' B k v := by
  rcases h with h | ⟨hk, b, hv, hb, hl, hc⟩
  · exact .inl h
  · exact .inr ⟨hk, b, hv, hb, by omega, fun h1 h2 => (World.cell?_of_block (a := ⟨b, 1, none⟩) (he b hb hl)).trans (hc h1 h2)⟩
set_option maxHeartbeats 400000 in
theorem shim20 (S : Nat) (w : World) (R : World → Prop) (h : Calls Try.prog 27 #[.pointer (some ⟨S, 0, none⟩)] w fun e w' => e = .returned (.tuple #[]) ∧ R w') : Calls Try.prog 20 #[.pointer (some ⟨S, 0, none⟩)] w fun e w' => e = .returned (.tuple #[]) ∧ R w' := by
  have H := Lib.hid h
  clear h
  go_enter Try.func20, Try.ntmps20
  go_wp2_with fail
  refine H.out.mono ?_
  rintro e w' ⟨rfl, hR⟩
  go_wp2_with fail
  go_end0
  exact ⟨rfl, hR⟩

/-- An if with a plain break, its test the identifier ref at ref; its blocks lie from B on. -/
def IfAt (w : World) (B : Nat) (d : Value) (ref : Int) : Prop :=
  ∃ q xq kq, d = .iface 59 (.pointer (some ⟨q, 0, none⟩)) ∧ B ≤ q ∧ B ≤ xq ∧ B ≤ kq ∧
    Has w q 65 #[.iface 150 (.pointer (some ⟨xq, 0, none⟩)), .int .i32 ref, .iface 60 (.pointer (some ⟨kq, 0, none⟩)), .int .i32 0, .nilIface, .int .i32 0, .bool false, .bool false] ∧ Has w kq 63 #[.pointer none] ∧ w.cell? ⟨xq, 1, none⟩ = some (.int .u32 ref)
theorem IfAt.same2 {w w' : World} {B : Nat} {d : Value} {ref : Int} (h : IfAt w B d ref) (he : ∀ i, B ≤ i → i < w.heap.size → w'.heap[i]? = w.heap[i]?) : IfAt w' B d ref := by
  obtain ⟨q, xq, kq, h1, h2, h3, h4, h5, h6, h7⟩ := h
  exact ⟨q, xq, kq, h1, h2, h3, h4, h5.same (he q h2 h5.lt), h6.same (he kq h4 h6.lt), (World.cell?_of_block (a := ⟨xq, 1, none⟩) (he xq h3 (World.block_lt_of_cell? w _ h7))).trans h7⟩
theorem IfAt.below {w w' : World} {B : Nat} {d : Value} {ref : Int} (h : IfAt w B d ref) (hb : Below w.heap.size w w') : IfAt w' B d ref := h.same2 fun i _ hi => hb.block i hi
theorem IfAt.low {w : World} {B : Nat} {d : Value} {ref : Int} (h : IfAt w B d ref) : IfAt w 0 d ref := by
  obtain ⟨q, xq, kq, h1, h2, h3, h4, h5⟩ := h
  exact ⟨q, xq, kq, h1, Nat.zero_le _, Nat.zero_le _, Nat.zero_le _, h5⟩
theorem IfAt.kind {w : World} {B : Nat} {d : Value} {ref : Int} (h : IfAt w B d ref) : IsKind w 0 4 d := by
  obtain ⟨q, xq, kq, h1, h2, h3, h4, h5, h6, h7⟩ := h
  exact .inr ⟨by decide, q, h1, Nat.zero_le _, h5.lt, fun a b => by omega⟩

/-- A negation of the identifier i at i. -/
def NotAt (w : World) (S g : Nat) (i : Int) (nx : Value) (nl : Int) : Prop :=
  nl = i ∧ ∃ u xq, nx = .iface 71 (.pointer (some ⟨u, 0, none⟩)) ∧ u ≠ S ∧ u ≠ g ∧ xq ≠ S ∧ xq ≠ g ∧ w.cell? ⟨u, 0, none⟩ = some (.iface 150 (.pointer (some ⟨xq, 0, none⟩))) ∧ w.cell? ⟨u, 1, none⟩ = some (.int .i32 i) ∧ w.cell? ⟨u, 2, none⟩ = some (.int .u8 3) ∧ w.cell? ⟨xq, 1, none⟩ = some (.int .u32 i)
def OldAt (w : World) (S g : Nat) (ht : Bool) (T : Value) (TL : Int) : Prop :=
  (ht = false ∧ T = .nilIface) ∨ (ht = true ∧ TL = 16777219 ∧ ∃ xq, T = .iface 150 (.pointer (some ⟨xq, 0, none⟩)) ∧ xq ≠ S ∧ xq ≠ g ∧ w.cell? ⟨xq, 1, none⟩ = some (.int .u32 0))
/-- The test behind c folds. -/
def Chain (w : World) (S g : Nat) (ht : Bool) : Nat → Value → Int → Prop
  | 0, T, TL => OldAt w S g ht T TL
  | c + 1, T, TL => (ht = false ∧ c = 0 ∧ NotAt w S g 1 T TL) ∨
      ((ht = true ∨ 1 ≤ c) ∧ ∃ e o ol nx nl, T = .iface 66 (.pointer (some ⟨e, 0, none⟩)) ∧ e ≠ S ∧ e ≠ g ∧ Has w e 70 #[o, .int .i32 ol, nx, .int .i32 nl, .int .u8 32, .bool false] ∧ Chain w S g ht c o ol ∧ NotAt w S g ((c : Int) + 1) nx nl)

def Keeps (w w' : World) (S g : Nat) : Prop := ∀ i, i < w.heap.size → i ≠ S → i ≠ g → w'.heap[i]? = w.heap[i]?
theorem Keeps.cell {w w' : World} {S g : Nat} (h : Keeps w w' S g) {q o : Nat} {u : Value} (h1 : q ≠ S) (h2 : q ≠ g) (hc : w.cell? ⟨q, o, none⟩ = some u) : w'.cell? ⟨q, o, none⟩ = some u :=
  (World.cell?_of_block (a := ⟨q, o, none⟩) (h q (World.block_lt_of_cell? w _ hc) h1 h2)).trans hc
theorem Keeps.below {w w' : World} {S g : Nat} (hb : Below w.heap.size w w') : Keeps w w' S g := fun i hi _ _ => hb.block i hi
theorem NotAt.keep {w w' : World} {S g : Nat} {i : Int} {nx : Value} {nl : Int} (h : NotAt w S g i nx nl) (hk : Keeps w w' S g) : NotAt w' S g i nx nl := by
  obtain ⟨h0, u, xq, h1, h2, h3, h4, h5, h6, h7, h8, h9⟩ := h
  exact ⟨h0, u, xq, h1, h2, h3, h4, h5, hk.cell h2 h3 h6, hk.cell h2 h3 h7, hk.cell h2 h3 h8, hk.cell h4 h5 h9⟩
theorem Chain.keep {w w' : World} {S g : Nat} {ht : Bool} (hk : Keeps w w' S g) : ∀ (c : Nat) {T : Value} {TL : Int}, Chain w S g ht c T TL → Chain w' S g ht c T TL
  | 0, T, TL, h => by
    rcases h with h | ⟨h1, h2, xq, h3, h4, h5, h6⟩
    · exact .inl h
    · exact .inr ⟨h1, h2, xq, h3, h4, h5, hk.cell h4 h5 h6⟩
  | c + 1, T, TL, h => by
    rcases h with ⟨h1, h2, h3⟩ | ⟨h1, e, o, ol, nx, nl, h2, h3, h4, h5, h6, h7⟩
    · exact .inl ⟨h1, h2, h3.keep hk⟩
    · exact .inr ⟨h1, e, o, ol, nx, nl, h2, h3, h4, h5.same (hk e h5.lt h3 h4), Chain.keep hk c h6, h7.keep hk⟩
theorem Chain.shape {w : World} {S g : Nat} {ht : Bool} : ∀ (c : Nat) {T : Value} {TL : Int}, Chain w S g ht c T TL → (T = .nilIface ∧ c = 0 ∧ ht = false) ∨ ((ht = true ∨ 1 ≤ c) ∧ ∃ Tt tq, T = .iface Tt (.pointer (some ⟨tq, 0, none⟩)))
  | 0, T, TL, h => by
    rcases h with ⟨h1, h2⟩ | ⟨h1, h2, xq, h3, _⟩
    · exact .inl ⟨h2, rfl, h1⟩
    · exact .inr ⟨.inl h1, _, _, h3⟩
  | c + 1, T, TL, h => by
    rcases h with ⟨h1, h2, h3, u, xq, h4, _⟩ | ⟨h1, e, o, ol, nx, nl, h2, _⟩
    · exact .inr ⟨.inr (by omega), _, _, h4⟩
    · exact .inr ⟨.inr (by omega), _, _, h2⟩

/-- The body behind c folds. -/
def State (w : World) (g b N : Nat) (D : Nat → Value) (c : Nat) (bd : Value) (bl : Int) : Prop :=
  (bd = .iface 26 (.pointer (some ⟨g, 0, none⟩)) ∧ bl = 16777216 ∧ c ≤ N ∧ Left w g b N (N - c) D) ∨ (c + 1 = N ∧ 1 ≤ c ∧ bd = D (N - 1) ∧ bl = (N : Int)) ∨ (c = N ∧ 2 ≤ N ∧ (∃ q, bd = .iface 76 (.pointer (some ⟨q, 0, none⟩))) ∧ bl = (N : Int))
theorem State.same {w w' : World} {g b N c : Nat} {D : Nat → Value} {bd : Value} {bl : Int} (h : State w g b N D c bd bl) (hg : w'.heap[g]? = w.heap[g]?) (hb : w'.heap[b]? = w.heap[b]?) : State w' g b N D c bd bl := by
  rcases h with ⟨h1, h2, h3, h4⟩ | h | h
  · exact .inl ⟨h1, h2, h3, h4.same hg fun _ => hb⟩
  · exact .inr (.inl h)
  · exact .inr (.inr h)

/-- drain26 once more: where the second statement alone is left, it is that statement. -/
theorem drain_at (g b N c k : Nat) (D : Nat → Value) (rl : Int) (w : World) (hc : c < N) (hL : Left w g b N (N - c) D) (hk : N - c = 2 → IsKind w 0 k (D (N - 1))) :
    Calls Try.prog 26 #[.agg #[.iface 26 (.pointer (some ⟨g, 0, none⟩)), .int .i32 16777216], .agg #[.nilIface, .int .i32 rl]] w (DropAt g (fun w' v l => State w' g b N D (c + 1) v l) w) := by
  obtain ⟨A, hB, hmN, hN, hA⟩ := hL
  obtain ⟨rfl, hbg, hR⟩ := hA (by omega)
  have hne : some b ≠ some g := by simpa using hbg
  rw [show N - (N - c) = c by omega] at hB
  by_cases h2 : N - c = 2
  · rw [h2] at hB
    have hk := hk h2
    have c1 : w.cell? ⟨b, c * 2 + 2, none⟩ = some (D (N - 1)) := by
      have := hR.cell (i := (N - 1) * 2) (by omega)
      rw [sc_even] at this
      rw [show c * 2 + 2 = (N - 1) * 2 by omega]
      exact this
    have c2 : w.cell? ⟨b, c * 2 + 2 + 1, none⟩ = some (.int .i32 (N : Int)) := by
      have := hR.cell (i := (N - 1) * 2 + 1) (by omega)
      rw [sc_odd] at this
      rw [show c * 2 + 2 + 1 = (N - 1) * 2 + 1 by omega, this]
      show some (Value.int .i32 (((N - 1 : Nat) : Int) + 1)) = _
      rw [show ((N - 1 : Nat) : Int) + 1 = (N : Int) by omega]
    by_cases hc20 : 20 ≤ k
    · refine (drop_cut2 g b _ 2 k 0 0 16777216 rl N (D (N - 1)) w (Nat.le_refl _) (by omega) hB hR.lt c1 c2 hk hc20).mono ?_
      rintro e w' ⟨rfl, hB', hg⟩
      exact ⟨_, _, rfl, rfl, hg, .inl ⟨rfl, rfl, by omega, _, by rw [show N - (c + 1) = 2 - 1 by omega]; exact hB', by omega, hN, fun _ => ⟨by rw [show c * 2 + 2 = (N - (N - (c + 1))) * 2 by omega], hbg, hR.grown hg hne⟩⟩⟩
    · refine (drop_two g b _ 2 k 0 0 16777216 rl N (D (N - 1)) w hB hR.lt c1 c2 hk (by omega)).mono ?_
      rintro e w' ⟨rfl, hbe⟩
      exact ⟨_, _, rfl, hk.one, grown_any (grown_of_below hbe) _, .inr (.inl ⟨by omega, by omega, rfl, rfl⟩)⟩
  · by_cases h1 : N - c = 1
    · rw [h1] at hB
      refine (drop_cut1 g b _ 0 16777216 rl w hB).mono ?_
      rintro e w' ⟨rfl, hB', hg⟩
      exact ⟨_, _, rfl, rfl, hg, .inl ⟨rfl, rfl, by omega, _, by rw [show N - (c + 1) = 0 by omega]; exact hB', by omega, hN, fun h => absurd h (by omega)⟩⟩
    · refine (drop_cut g b _ (N - c) (N - c) 0 16777216 rl w (by omega) (by simp; omega) (Nat.le_refl _) (by omega) (by omega) hB).mono ?_
      rintro e w' ⟨rfl, hB', hg⟩
      exact ⟨_, _, rfl, rfl, hg, .inl ⟨rfl, rfl, by omega, _, by rw [show N - (c + 1) = N - c - 1 by omega]; exact hB', by omega, hN, fun _ => ⟨by rw [show c * 2 + 2 = (N - (N - (c + 1))) * 2 by omega], hbg, hR.grown hg hne⟩⟩⟩

/-- What holds behind c calls; w3: the world ahead of the block statement. -/
def FoldInv (w3 : World) (ht : Bool) (b N : Nat) (D : Nat → Value) (c : Nat) (w : World) : Prop :=
  Below w3.heap.size w3 w ∧ ∃ T TL bd bl, ForAt w (w3.heap.size + 1) T TL bd bl ∧ Chain w (w3.heap.size + 1) w3.heap.size ht c T TL ∧ State w w3.heap.size b N D c bd bl

theorem chain_step {w w' : World} {S g c xq : Nat} {ht : Bool} {T T' nx : Value} {TL TL' nl : Int} (h : Chain w S g ht c T TL) (hk : Keeps w w' S g) (hS : S < w.heap.size) (hg : g < w.heap.size) (hxS : xq ≠ S) (hxg : xq ≠ g) (hx : w.cell? ⟨xq, 1, none⟩ = some (.int .u32 ((c : Int) + 1)))
    (hT : TestVal w' w.heap.size T TL nx nl T' TL') (hN : NotOf w w.heap.size (.iface 150 (.pointer (some ⟨xq, 0, none⟩))) ((c : Int) + 1) nx nl w') : Chain w' S g ht (c + 1) T' TL' := by
  have hn : NotAt w' S g ((c : Int) + 1) nx nl := by
    rcases hN with ⟨x', h1, h2, u, h3, h4, h5, h6, h7, h8⟩ | ⟨u, h1, _⟩
    · exact ⟨h2, u, xq, h3, by omega, by omega, hxS, hxg, h6, h7, h8, hk.cell hxS hxg hx⟩
    · exact absurd (iface_inj h1).1 (by decide)
  rcases hT with ⟨rfl, rfl, rfl⟩ | ⟨h0, h1, e, h2, h3, h4⟩
  · rcases h.shape with ⟨_, rfl, rfl⟩ | ⟨_, _, _, h⟩
    · exact .inl ⟨rfl, rfl, hn⟩
    · cases h
  · refine .inr ⟨?_, e, T, TL, nx, nl, h2, by omega, by omega, h4, h.keep hk c, hn⟩
    rcases h.shape with ⟨h, _⟩ | ⟨h, _⟩
    · exact absurd h h0
    · exact h

theorem fold_step (w3 : World) (ht : Bool) (b N k c kl : Nat) (D : Nat → Value) (w : World) (hc : c < k) (hkN : k ≤ N) (hb : b < w3.heap.size) (hif : ∀ i, i < k → IfAt w3 0 (D i) ((i : Int) + 1)) (hK : IsKind w3 0 kl (D (N - 1))) (h : FoldInv w3 ht b N D c w) :
    Calls Try.prog 20 #[.pointer (some ⟨w3.heap.size + 1, 0, none⟩)] w fun e w' => e = .returned (.tuple #[]) ∧ FoldInv w3 ht b N D (c + 1) w' := by
  obtain ⟨hbw, T, TL, bd, bl, hS, hch, hst⟩ := h
  have hSl := hS.lt
  have hTs : T = .nilIface ∨ ∃ Tt tq, T = .iface Tt (.pointer (some ⟨tq, 0, none⟩)) := by
    rcases hch.shape with ⟨h, _⟩ | ⟨_, h⟩
    · exact .inl h
    · exact .inr h
  obtain ⟨q, xq, kq, hd, _, _, _, hq, hkq, hxq⟩ := hif c hc
  have hxl := World.block_lt_of_cell? w3 _ hxq
  simp only at hxl
  have hq' := hq.up hbw
  have hkq' := hkq.up hbw
  have hxq' : w.cell? ⟨xq, 1, none⟩ = some (.int .u32 ((c : Int) + 1)) := by rw [hbw.cell (p := ⟨xq, 1, none⟩) hxl]; exact hxq
  have hql := hq.lt
  refine shim20 _ _ _ ?_
  have fin : ∀ e w', MPost w (w3.heap.size + 1) w3.heap.size xq T TL ((c : Int) + 1) (fun w' v l => State w' w3.heap.size b N D (c + 1) v l) e w' → e = .returned (.tuple #[]) ∧ FoldInv w3 ht b N D (c + 1) w' := by
    rintro e w' ⟨rfl, T', TL', v, l, nx, nl, h1, h2, h3, h4, h5, h6, h7, h8, h9⟩
    have hk : Keeps w w' (w3.heap.size + 1) w3.heap.size := h9
    exact ⟨rfl, hbw.trans ⟨h6, h7, h8, h5, fun i hi => h9 i (by have := hbw.size; omega) (by omega) (by omega)⟩, T', TL', v, l, h1, chain_step hch hk hSl (by omega) (by omega) (by omega) hxq' h3 h4, h2⟩
  have hRS : ∀ (wx : World) (x y : Value) (v : Value) (l : Int), State wx w3.heap.size b N D (c + 1) v l → State ((wx.setCell ⟨w3.heap.size + 1, 6, none⟩ x).setCell ⟨w3.heap.size + 1, 7, none⟩ y) w3.heap.size b N D (c + 1) v l := fun wx x y v l h => by
    refine h.same ?_ ?_
    · rw [Below.heap_setCell _ _ _ _ (by show w3.heap.size ≠ w3.heap.size + 1; omega), Below.heap_setCell _ _ _ _ (by show w3.heap.size ≠ w3.heap.size + 1; omega)]
    · rw [Below.heap_setCell _ _ _ _ (by show b ≠ w3.heap.size + 1; omega), Below.heap_setCell _ _ _ _ (by show b ≠ w3.heap.size + 1; omega)]
  have hbx : ∀ wx, w.grownBy wx (some (w3.heap.size + 1)) → Below w3.heap.size w3 wx := fun wx hg => hbw.grown hg hbw.size fun i hi => by cases hi; omega
  rcases hst with ⟨rfl, rfl, hcN, hL⟩ | ⟨h1, h2, rfl, rfl⟩ | ⟨h1, _⟩
  · have hf : FirstAt w (.iface 26 (.pointer (some ⟨w3.heap.size, 0, none⟩))) 59 q := by
      obtain ⟨A, hB, _, _, hA⟩ := hL
      obtain ⟨rfl, _, hR⟩ := hA (by omega)
      refine .inr ⟨_, b, (N - (N - c)) * 2, _, _, _, ((c : Int) + 1), rfl, hB, by omega, ?_, ?_⟩
      · have := hR.cell (i := c * 2) (by omega)
        rw [sc_even, hd] at this
        rw [show N - (N - c) = c by omega]
        exact this
      · have := hR.cell (i := c * 2 + 1) (by omega)
        rw [sc_odd] at this
        rw [show N - (N - c) = c by omega]
        exact this
    refine (mangle_at _ q kq xq w3.heap.size 26 w3.heap.size T TL ((c : Int) + 1) 0 16777216 _ w hS hf hq' hkq' hTs (by omega) (by omega) (by omega) (fun wx hg => ?_) hRS).mono fin
    exact drain_at _ b N c kl D 0 wx (by omega) (hL.same (hg.block _ (by omega) (by simp)) fun _ => hg.block b (by have := hbw.size; omega) (by simp; omega)) fun _ => hK.below (hbx wx hg)
  · have hcd : c = N - 1 := by omega
    rw [← hcd, hd] at hS
    have hf : FirstAt w (.iface 59 (.pointer (some ⟨q, 0, none⟩))) 59 q := .inl ⟨rfl, by decide⟩
    refine (mangle_at _ q kq xq w3.heap.size 59 q T TL ((c : Int) + 1) 0 N _ w hS hf hq' hkq' hTs (by omega) (by omega) (by omega) (fun wx hg => ?_) hRS).mono fin
    refine (keep_other_none 59 _ N 0 wx (by decide)).mono ?_
    rintro e w' ⟨⟨q', rfl⟩, hbe⟩
    exact ⟨_, _, rfl, rfl, grown_any (grown_of_below hbe) _, .inr (.inr ⟨by omega, by omega, ⟨q', rfl⟩, rfl⟩)⟩
  · omega

end Go.Proofs.Ytolpgogmbebmcaa
