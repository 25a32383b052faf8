/-
  The contract of strings.IndexRune in a text of slash and backslash, at every rune; conditions: the rune's bounds.
-/
import Derived.Test.YtejdbjfniepomaaDoorShelf
import Derived.Test.YtejdbjfniepomaaDoorStr
import Derived.Deep.QuietTactic
import Derived.Deep.LoopGhost
import Derived.BigQuiet
import Derived.Laws.Runes
import Derived.WalkMore
namespace Go.Proofs.YtejdbjfniepomaaDoor
open Go.RowKit

def CH : ByteArray := ⟨#[47, 92]⟩
theorem idx_ascii : ∀ i : Fin 128, (0 ≤ Lib.indexByte CH.data.toList (i.val.toUInt8) ↔ (i.val = 47 ∨ i.val = 92)) := by decide

def RuneEnd (r : Int) (w : World) (e : Ending) (w' : World) : Prop := (∃ x : Int, e = .returned (.int .i64 x) ∧ (0 ≤ x ↔ (r = 47 ∨ r = 92))) ∧ Below w.heap.size w w'

theorem idx_empty (s : ByteArray) (h : s.data.toList = []) (c : Int) (w : World) : Calls Tryd.prog 46 #[.string s, .int .u8 c] w fun e w' => e = .returned (.int .i64 (-1)) ∧ w' = w := by
  have := Tryd.strings_IndexByte s c w
  rw [h] at this
  exact this

theorem iter_below (w : World) (s : ByteArray) (i : Nat) : Below w.heap.size w (w.iter s i) := by
  unfold World.iter
  exact (Below.refl _ _).alloc (Nat.le_refl _) _

set_option maxHeartbeats 2000000 in
set_option maxRecDepth 100000 in
theorem rune_err (w : World) : Calls Tryd.prog 35 #[.string CH, .int .i32 65533] w (RuneEnd 65533 w) := by
  have hch : CH.size = 2 := rfl
  obtain ⟨ch, hc⟩ : ∃ ch, CH = ch := ⟨_, rfl⟩
  have hlow : ∀ i (hi : i < ch.size), (ch[i]'hi).toNat < 128 := by
    subst hc
    intro i hi
    have : i = 0 ∨ i = 1 := by omega
    rcases this with rfl | rfl
    · exact (by decide : (47 : UInt8).toNat < 128)
    · exact (by decide : (92 : UInt8).toNat < 128)
  rw [hc] at hch ⊢
  have HL := Lib.hid hlow
  clear hlow hc
  go_enter Tryd.func35, Tryd.ntmps35
  go_wp2
  go_loopg [5, 6] 2 (fun g _ _ wx => ∃ i : Nat, i + g = 2 ∧ wx = w.iter ch i)
  case atStart => exact ⟨0, by omega, rfl⟩
  case round =>
    obtain ⟨i, hig, rfl⟩ := hrel
    cases gk with
    | zero =>
      obtain rfl : i = 2 := by omega
      have hnx := fun ty => run_next_end (P := Tryd.prog) w ch 2 ty (by omega)
      go_wp2
      go_ret
      exact ⟨⟨-1, rfl, by decide⟩, iter_below w ch _⟩
    | succ g =>
      have hi : i < ch.size := by omega
      have hx128 := HL.out i hi
      have hnx := fun ty => run_next_ascii (P := Tryd.prog) w ch i ty hi hx128
      have hne : (((ch[i]'hi).toNat : Int) == 65533) = false := by rw [beq_eq_false_iff_ne]; omega
      go_wp2
      go_roundg g
      case measure => omega
      case rel => exact ⟨i + 1, by omega, rfl⟩

set_option maxHeartbeats 2000000 in
set_option maxRecDepth 100000 in
theorem rune_high (r : Int) (w : World) (h128 : 128 ≤ r) (hv : Utf8.valid r = true) (hne : r ≠ 65533) : Calls Tryd.prog 35 #[.string CH, .int .i32 r] w (RuneEnd r w) := by
  have hE := encode_facts r hv h128
  obtain ⟨E, he⟩ : ∃ E, Utf8.encode r = E := ⟨_, rfl⟩
  rw [he] at hE
  have hvr : Lib.validRune r = true := by rw [← hv]; unfold Utf8.valid Lib.validRune; apply Bool.eq_iff_iff.2; simp; omega
  have hcv := run_convert_int_string (P := Tryd.prog) w 21 9 .i32 r (by rw [Tryd.underlying21]; rfl) Tryd.underlying9
  rw [he] at hcv
  have hm1 : ¬ (0 : Int) ≤ -1 := by decide
  have hfin : (0 : Int) ≤ -1 ↔ (r = 47 ∨ r = 92) := ⟨fun h => absurd h hm1, fun h => by omega⟩
  have HF := Lib.hid hfin
  have hneb : (r == 65533) = false := beq_eq_false_iff_ne.2 hne
  clear hfin hm1 hv hne he
  obtain ⟨h2, h4, hl⟩ := hE
  have h21 : CH.size = 2 := rfl
  by_cases hsz : E.size = 2
  · obtain ⟨c, hc⟩ : ∃ c, E[1]'(by omega) = c := ⟨_, rfl⟩
    have hc128 : 128 ≤ c.toNat := by
      have hll := hl (by omega)
      rw [← hc]
      simpa [hsz] using hll
    have hcb : (((92 : UInt8).toNat : Int) == (c.toNat : Int)) = false := by
      rw [beq_eq_false_iff_ne]
      have : (92 : UInt8).toNat = 92 := rfl
      omega
    have h92 : CH[1]'(by decide) = 92 := rfl
    have t1 : (0 : Int) ≤ 1 := by decide
    have t2 : (1 : Int) < (CH.size : Int) := by decide
    have t3 : (1 : Int) < (E.size : Int) := by omega
    have t4 : (2 : Int) ≤ (CH.size : Int) := by decide
    have t5 : (0 : Int) ≤ 2 := by decide
    have t6 : IntKind.i64.wrap 2 = 2 := by decide
    go_enter Tryd.func35, Tryd.ntmps35
    go_wp2_with (go_at_call 47; refine (Tryd.utf8_ValidRune r _).mono ?_; rintro e w' ⟨rfl, hw⟩; rw [hw, hvr])
    go_step3
    go_wp2
    go_loopg [9, 10, 11, 12] 1 (fun _ s9 s10 s11 s12 wx => s9 = .int .i64 1 ∧ s10 = .int .i64 0 ∧ wx = w)
    case atStart => exact ⟨rfl, rfl, rfl⟩
    case round =>
      obtain ⟨rfl, rfl, rfl⟩ := hrel
      go_wp2_with fail
      go_step3
      go_wp2_with fail
      go_quiet (fail)
      go_wp2_with fail
      go_quiet ((refine (idx_empty ByteArray.empty rfl _ _).mono ?_; rintro e w' ⟨rfl, rfl⟩; exact ⟨rfl, _, rfl⟩))
      go_wp2_with fail
      go_ret
      exact ⟨⟨-1, rfl, HF.out⟩, ⟨rfl, rfl, rfl, Nat.le_refl _, fun _ _ => rfl⟩⟩
  · have h3 : 3 ≤ E.size := by omega
    clear hl
    go_enter Tryd.func35, Tryd.ntmps35
    go_wp2_with (go_at_call 47; refine (Tryd.utf8_ValidRune r _).mono ?_; rintro e w' ⟨rfl, hw⟩; rw [hw, hvr])
    go_step3
    go_wp2
    go_loopg [9, 10, 11, 12] 1 (fun _ s9 s10 s11 s12 wx => s9 = .int .i64 ((E.size : Int) - 1) ∧ s10 = .int .i64 0 ∧ wx = w)
    case atStart => exact ⟨rfl, rfl, rfl⟩
    case round =>
      obtain ⟨rfl, rfl, rfl⟩ := hrel
      go_wp2
      go_ret
      exact ⟨⟨-1, rfl, HF.out⟩, Below.refl _ _⟩

set_option maxHeartbeats 400000 in
theorem rune_any (r : Int) (w : World) (h0 : 0 ≤ r) (hv : 128 ≤ r → Utf8.valid r = true) : Calls Tryd.prog 35 #[.string CH, .int .i32 r] w (RuneEnd r w) := by
  by_cases h128 : 128 ≤ r
  · by_cases hne : r = 65533
    · subst hne
      exact rune_err w
    · exact rune_high r w h128 (hv h128) hne
  · refine (Tryd.strings_IndexRune_ascii CH r w h0 (by omega)).mono ?_
    rintro e w' ⟨rfl, rfl⟩
    have := idx_ascii ⟨r.toNat, by omega⟩
    refine ⟨⟨_, rfl, this.trans ?_⟩, Below.refl _ _⟩
    show (r.toNat = 47 ∨ r.toNat = 92) ↔ _
    omega

end Go.Proofs.YtejdbjfniepomaaDoor
