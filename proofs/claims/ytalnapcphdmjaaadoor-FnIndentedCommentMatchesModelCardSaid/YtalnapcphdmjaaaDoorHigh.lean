/-
  The contract of strings.EqualFold at a text that holds a byte beyond ASCII, against an ASCII tag of the same length: false; conditions: what the listed tables hold, the sizes that it names.
-/
import Derived.Test.YtalnapcphdmjaaaDoorFold
import Derived.Lib.MapLaws
import Derived.Lib.OthersKept
import Derived.Lib.Walk
import Derived.ScopeJumps
namespace Go.Proofs.YtalnapcphdmjaaaDoor
open Go.RowKit

theorem decode_facts (s : ByteArray) (pos : Nat) (h : pos < s.size) : 1 ≤ (Utf8.decode s pos).2 ∧ pos + (Utf8.decode s pos).2 ≤ s.size ∧ (Utf8.decode s pos).1 ≤ 1114111 ∧ ((Utf8.decode s pos).1 < 128 → (Utf8.decode s pos).2 = 1) ∧ (128 ≤ (Utf8.decode s pos).1 → (Utf8.decode s pos).1 = 65533 ∨ 2 ≤ (Utf8.decode s pos).2) ∧ (128 ≤ (s.data.toList.getD pos 0).toNat → 128 ≤ (Utf8.decode s pos).1) := by
  have hl : pos < s.data.toList.length := by rw [← Lib.size_eq]; exact h
  have hle := Lib.decode_N s pos
  rw [Lib.size_eq s]
  rw [hle]
  have k0 := (s.data.toList.getD pos 0).toNat_lt
  have k1 := (s.data.toList.getD (pos + 1) 0).toNat_lt
  have k2 := (s.data.toList.getD (pos + 2) 0).toNat_lt
  have k3 := (s.data.toList.getD (pos + 3) 0).toNat_lt
  rcases Lib.decodeN_shape (s.data.toList.length - pos) (s.data.toList.getD pos 0).toNat (s.data.toList.getD (pos + 1) 0).toNat (s.data.toList.getD (pos + 2) 0).toNat (s.data.toList.getD (pos + 3) 0).toNat with ⟨c, e⟩ | ⟨c1, c2, c3, cv, e⟩ | ⟨c1, c2, c3, c4, cv, cs, e⟩ | ⟨c1, c2, c3, c4, c5, cv, cw, e⟩ | e
  all_goals (rw [e]; dsimp only; omega)

def Ascii (t : ByteArray) : Prop := ∀ (j : Nat) b, t.data.toList[j]? = some b → b.toNat < 128
theorem Ascii.tail {t : ByteArray} (h : Ascii t) (n : Nat) : Ascii (t.extract n t.size) := by
  intro j b hb
  rw [Lib.extract_data] at hb
  have h2 := (List.getElem?_eq_some_iff.1 hb).1
  rw [List.getElem?_take_of_lt (by simp at h2; omega), List.getElem?_drop] at hb
  exact h _ b hb
theorem Ascii.get {t : ByteArray} (h : Ascii t) (j : Nat) (hj : j < t.size) : t[j].toNat < 128 := h j _ (Lib.data_getElem? t j hj)

def Jump (s t : ByteArray) (p : Nat) (w : World) (a' : Act) (w' : World) : Prop :=
  w = w' ∧ a'.defers = [] ∧ a'.tmps.size = 123 ∧ a'.tmps[0]? = some (.string s) ∧ a'.tmps[1]? = some (.string t) ∧ a'.tmps[5]? = some (.int .i64 p)
set_option maxRecDepth 100000 in
theorem range_lit (V : Nat → Value) : ((List.range 123).map V).toArray = #[V 0, V 1, V 2, V 3, V 4, V 5, V 6, V 7, V 8, V 9, V 10, V 11, V 12, V 13, V 14, V 15, V 16, V 17, V 18, V 19, V 20, V 21, V 22, V 23, V 24, V 25, V 26, V 27, V 28, V 29, V 30, V 31, V 32, V 33, V 34, V 35, V 36, V 37, V 38, V 39, V 40, V 41, V 42, V 43, V 44, V 45, V 46, V 47, V 48, V 49, V 50, V 51, V 52, V 53, V 54, V 55, V 56, V 57, V 58, V 59, V 60, V 61, V 62, V 63, V 64, V 65, V 66, V 67, V 68, V 69, V 70, V 71, V 72, V 73, V 74, V 75, V 76, V 77, V 78, V 79, V 80, V 81, V 82, V 83, V 84, V 85, V 86, V 87, V 88, V 89, V 90, V 91, V 92, V 93, V 94, V 95, V 96, V 97, V 98, V 99, V 100, V 101, V 102, V 103, V 104, V 105, V 106, V 107, V 108, V 109, V 110, V 111, V 112, V 113, V 114, V 115, V 116, V 117, V 118, V 119, V 120, V 121, V 122] := by simp only [List.range, List.range.loop, List.map]
theorem Jump.lit {s t : ByteArray} {p : Nat} {w : World} {a' : Act} {w' : World} (h : Jump s t p w a' w') : w = w' ∧ ∃ V : Nat → Value, a' = { tmps := #[.string s, .string t, V 2, V 3, V 4, .int .i64 p, V 6, V 7, V 8, V 9, V 10, V 11, V 12, V 13, V 14, V 15, V 16, V 17, V 18, V 19, V 20, V 21, V 22, V 23, V 24, V 25, V 26, V 27, V 28, V 29, V 30, V 31, V 32, V 33, V 34, V 35, V 36, V 37, V 38, V 39, V 40, V 41, V 42, V 43, V 44, V 45, V 46, V 47, V 48, V 49, V 50, V 51, V 52, V 53, V 54, V 55, V 56, V 57, V 58, V 59, V 60, V 61, V 62, V 63, V 64, V 65, V 66, V 67, V 68, V 69, V 70, V 71, V 72, V 73, V 74, V 75, V 76, V 77, V 78, V 79, V 80, V 81, V 82, V 83, V 84, V 85, V 86, V 87, V 88, V 89, V 90, V 91, V 92, V 93, V 94, V 95, V 96, V 97, V 98, V 99, V 100, V 101, V 102, V 103, V 104, V 105, V 106, V 107, V 108, V 109, V 110, V 111, V 112, V 113, V 114, V 115, V 116, V 117, V 118, V 119, V 120, V 121, V 122], defers := [] } := by
  obtain ⟨hw, hd, hs, h0, h1, h5⟩ := h
  refine ⟨hw, ?_⟩
  obtain ⟨tmps, defers⟩ := a'
  simp only at hd hs h0 h1 h5
  subst hd
  obtain ⟨V, hV⟩ : ∃ V : Nat → Value, ∀ i, V i = (tmps[i]?).getD .nilIface := ⟨_, fun _ => rfl⟩
  have e : tmps = ((List.range 123).map V).toArray := by
    apply Array.ext
    · simp [hs]
    · intro i hi _
      simp [hV, Array.getElem?_eq_getElem hi]
  have v0 : V 0 = .string s := by rw [hV, h0]; rfl
  have v1 : V 1 = .string t := by rw [hV, h1]; rfl
  have v5 : V 5 = .int .i64 p := by rw [hV, h5]; rfl
  refine ⟨V, ?_⟩
  rw [e, range_lit, v0, v1, v5]

def HighRel (S1 : ByteArray) (k : Nat) (w : World) (gk : Nat) (s1 : Value) (wr : World) : Prop :=
  ∃ (pos : Nat) (tt : ByteArray), s1 = .string tt ∧ Ascii tt ∧ tt.size ≤ 65536 ∧ wr.heap[k]? = some (.stringIter S1 pos) ∧ pos + gk = S1.size ∧ Below k w wr ∧ ((pos = 0 ∧ tt.size = S1.size) ∨ S1.size - pos < tt.size)

def Spin (c gk : Nat) (s13 : Value) : Prop := ∃ r : Nat, s13 = .int .i32 r ∧ Orbit r ∧ ((gk = 2 ∧ r = nx c) ∨ (gk = 1 ∧ r = nx (nx c) ∧ nx c ≠ c) ∨ (gk = 0 ∧ r = c))

theorem nx_self (c : Nat) (hc : c < 128) : (nx (nx (nx c)) = c ∨ nx (nx c) = c ∨ nx c = c) := by
  have := (orbit_all ⟨c, hc⟩).2.2.2
  simp only at this
  omega

set_option maxHeartbeats 8000000 in
set_option maxRecDepth 1000000 in
theorem fold_high (s t : ByteArray) (p : Nat) (w : World) (hT : Tabs w) (hst : s.size = t.size) (hs : s.size ≤ 65536) (ht : Ascii t) (hp : p < s.size) (hpre : ∀ (j : Nat) b, j < p → s.data.toList[j]? = some b → b.toNat < 128) (hhi : 128 ≤ (s.data.toList.getD p 0).toNat) :
    Calls Tryd.prog 26 #[.string s, .string t] w fun e w' => e = .returned (.bool false) ∧ Below w.heap.size w w' := by
  have HTb := Lib.hid hT
  have HAt := Lib.hid ht
  have HPre := Lib.hid hpre
  have HHi := Lib.hid hhi
  clear hT ht hpre hhi
  obtain ⟨M, hM⟩ : ∃ M : Nat, min (s.size : Int) (t.size : Int) = (M : Int) := ⟨min s.size t.size, by omega⟩
  have hMs : M = s.size := by omega
  go_enter Tryd.func26, Tryd.ntmps26
  go_wp2
  refine wp_scope_jumps 0 (Jump s t p w) (fun _ _ => 0) rfl ?_ ?_
  · have hpM : p < M := by omega
    have hts : p < t.size := by omega
    have HM := Lib.hid hMs
    clear hMs hst
    go_wp2
    go_loopg [5] p (fun g s5 wx => w = wx ∧ ∃ i : Nat, i + g = p ∧ s5 = .int .i64 i)
    case atStart => exact ⟨rfl, 0, by omega, rfl⟩
    case round =>
      obtain ⟨rfl, i, hig, rfl⟩ := hrel
      clear hM
      have hiM : (i : Int) < (M : Int) := by omega
      have hisz : (i : Int) < (s.size : Int) := by omega
      have hitz : (i : Int) < (t.size : Int) := by omega
      obtain ⟨x, hx⟩ : ∃ x : UInt8, s[i]'(by omega) = x := ⟨_, rfl⟩
      obtain ⟨y, hy⟩ : ∃ y : UInt8, t[i]'(by omega) = y := ⟨_, rfl⟩
      have hxl : s.data.toList[i]? = some x := by rw [← hx]; exact Lib.data_getElem? s i (by omega)
      have hy128 : y.toNat < 128 := by rw [← hy]; exact HAt.out.get i (by omega)
      have hx256 := x.toNat_lt
      have hor : bits .or .u8 (x.toNat : Int) (y.toNat : Int) = ((x.toNat ||| y.toNat : Nat) : Int) := u8_or_nat _ _ (by omega) (by omega)
      cases gk with
      | zero =>
        obtain rfl : i = p := by omega
        have hx128 : 128 ≤ x.toNat := by
          have := HHi.out
          rw [List.getD_eq_getElem?_getD, hxl] at this
          exact this
        have hor128 : (128 : Int) ≤ ((x.toNat ||| y.toNat : Nat) : Int) := by
          have := @Nat.left_le_or x.toNat y.toNat
          omega
        clear hxl
        go_wp2
        go_step3
        exact ⟨rfl, rfl, rfl, rfl, rfl, rfl, rfl⟩
      | succ g =>
        have hx128 : x.toNat < 128 := HPre.out i x (by omega) hxl
        have hor128 : ¬ ((128 : Int) ≤ ((x.toNat ||| y.toNat : Nat) : Int)) := by have := Nat.or_lt_two_pow (n := 7) hx128 hy128; omega
        clear hxl
        go_wp2
        all_goals first
          | (go_roundg g
             case measure => omega
             case rel => exact ⟨rfl, i + 1, by omega, by first | rfl | simp⟩)
          | (simp only [Exit.jump]; go_ret; exact ⟨rfl, Below.refl _ _⟩)
  · intro a' w' hj
    obtain ⟨rfl, V, rfl⟩ := hj.lit
    clear hj hM
    have hpt : p < t.size := by omega
    obtain ⟨S1, hS1⟩ : ∃ S1, s.extract p t.size = S1 := ⟨_, rfl⟩
    obtain ⟨T1, hT1⟩ : ∃ T1, t.extract p t.size = T1 := ⟨_, rfl⟩
    have hS1s : S1.size = t.size - p := by rw [← hS1]; simp; omega
    have hT1s : T1.size = t.size - p := by rw [← hT1]; simp
    have hT1a : Ascii T1 := by rw [← hT1]; exact HAt.out.tail p
    have hS1h : 128 ≤ (S1.data.toList.getD 0 0).toNat := by
      rw [← hS1, Lib.extract_data, List.getD_eq_getElem?_getD, List.getElem?_take_of_lt (by omega), List.getElem?_drop, Nat.add_zero, ← List.getD_eq_getElem?_getD]
      exact HHi.out
    have HA1 := Lib.hid (And.intro hT1a (And.intro hS1h (And.intro hS1s hT1s)))
    have HM2 := Lib.hid hMs
    clear hT1a hS1h hS1s hT1s hMs
    go_wp2
    clear hS1 hT1
    have hbd : S1.size ≤ 65536 := by have := HA1.out.2.2.1; omega
    go_loopg [1] S1.size (fun gk s1 wr => HighRel S1 w.heap.size w gk s1 wr)
    case atStart => exact ⟨0, T1, rfl, HA1.out.1, by have := HA1.out.2.2.2; omega, World.iter_heap w S1 0, by omega, (Below.refl _ _).alloc (Nat.le_refl _) _, .inl ⟨rfl, by have := HA1.out.2.2; omega⟩⟩
    case round =>
      obtain ⟨pos, tt, rfl, hta, htl, hit, hpg, hb, hinv⟩ := hrel
      have hsz : w.heap.size < wr.heap.size := (Array.getElem?_eq_some_iff.1 hit).1
      by_cases hp : pos < S1.size
      · have htt : 0 < tt.size := by omega
        obtain ⟨R, hR⟩ : ∃ R, (Utf8.decode S1 pos).1 = R := ⟨_, rfl⟩
        obtain ⟨wd, hwd⟩ : ∃ wd, (Utf8.decode S1 pos).2 = wd := ⟨_, rfl⟩
        have hnx : ∀ ty, (Instr.next (.pointer (some ⟨w.heap.size, 0, none⟩)) true ty).run Tryd.prog wr = _ := fun ty => Lib.run_next_any_at (P := Tryd.prog) wr w.heap.size S1 pos ty hit hp
        have hdf := decode_facts S1 pos hp
        rw [hR, hwd] at hdf
        simp only [hR, hwd] at hnx
        clear hR hwd
        obtain ⟨d1, d2, d3, d4, d5, d6⟩ := hdf
        have hit2 := Lib.iterAt_heap wr w.heap.size S1 pos (pos + wd) hit
        have hb2 := Lib.below_iterAt hb (Nat.le_refl _) S1 (pos + wd)
        obtain ⟨W2, hW2⟩ : ∃ W2, wr.iterAt w.heap.size S1 (pos + wd) = W2 := ⟨_, rfl⟩
        rw [hW2] at hit2 hb2
        simp only [hW2] at hnx
        have hd6 : pos = 0 → 128 ≤ R := fun h => d6 (by rw [h]; exact HA1.out.2.1)
        have HW := Lib.hid (And.intro hit2 (And.intro hb2 (HTb.out.up hb2)))
        have HTA := Lib.hid hta
        obtain ⟨c, hc⟩ : ∃ c : UInt8, tt[0] = c := ⟨_, rfl⟩
        have hc128 : c.toNat < 128 := by rw [← hc]; exact hta.get 0 htt
        have hte : (tt.extract 1 tt.size).size = tt.size - 1 := by simp
        have HE := Lib.hid hte
        have HD := Lib.hid (And.intro d4 (And.intro d5 hd6))
        have HINV := Lib.hid hinv
        obtain ⟨g', hg'⟩ : ∃ g', pos + wd + g' = S1.size := ⟨S1.size - (pos + wd), by omega⟩
        have HDc := Lib.hid (decode_ascii1 tt W2 htt (by rw [hc]; exact hc128))
        clear d4 d5 d6 hd6 hit hb hit2 hb2 hta hte hinv hW2
        by_cases hcR : R = c.toNat
        · have q1 : ((c.toNat : Int) == (R : Int)) = true := by rw [hcR]; simp
          have HCR := Lib.hid hcR
          clear hcR
          go_wp2_with (go_at_call 31; refine HDc.out.mono ?_; rintro e w' ⟨rfl, rfl⟩; rw [hc])
          go_roundg g'
          case measure => omega
          case rel =>
            refine ⟨pos + wd, tt.extract 1 tt.size, rfl, HTA.out.tail 1, by rw [HE.out]; omega, HW.out.1, by omega, HW.out.2.1, .inr ?_⟩
            rw [HE.out]
            have h1 := HINV.out
            have h2 := HD.out.1
            have h3 := HD.out.2.2
            have h4 := HCR.out
            omega
        · have q1 : ((c.toNat : Int) == (R : Int)) = false := by rw [beq_eq_false_iff_ne]; omega
          have HCR := Lib.hid hcR
          clear hcR
          by_cases hR8 : R < 128
          · go_wp2_with (go_at_call 31; refine HDc.out.mono ?_; rintro e w' ⟨rfl, rfl⟩; rw [hc])
            all_goals first
              | (go_roundg g'
                 case measure => omega
                 case rel =>
                   refine ⟨pos + wd, tt.extract 1 tt.size, rfl, HTA.out.tail 1, by rw [HE.out]; omega, HW.out.1, by omega, HW.out.2.1, .inr ?_⟩
                   rw [HE.out]
                   have h1 := HINV.out
                   have h2 := HD.out.1 hR8
                   have h3 := HD.out.2.2
                   omega)
              | (simp only [Exit.jump]; go_ret; exact ⟨rfl, HW.out.2.1⟩)
          · have hle8 : ¬ ((R : Int) < 128) := by omega
            have hcr : (c.toNat : Int) < (R : Int) := by omega
            have horb := orbit_all ⟨c.toNat, hc128⟩
            simp only at horb
            have HORB := Lib.hid (And.intro horb (nx_self c.toNat hc128))
            have hsf := fun (r : Nat) (h : Orbit r) => sf_any r W2 HW.out.2.2 h
            have HSF := Lib.hid hsf
            have h0c : Orbit c.toNat := .inl hc128
            have HOC := Lib.hid h0c
            clear horb hsf h0c
            go_wp2_with (first | (go_at_call 31; refine HDc.out.mono ?_; rintro e w' ⟨rfl, rfl⟩; rw [hc]) | (go_at_call 32; refine (HSF.out _ HOC.out).mono ?_; rintro e w' ⟨rfl, rfl⟩))
            go_loopg [13] 2 (fun g s13 wx => W2 = wx ∧ Spin c.toNat g s13)
            case atStart => exact ⟨rfl, nx c.toNat, rfl, HORB.out.1.1, .inl ⟨rfl, rfl⟩⟩
            case round =>
              obtain ⟨rfl, r, rfl, hr, hsp⟩ := hrel
              have HR := Lib.hid hr
              have HSP := Lib.hid hsp
              by_cases hrc : r = c.toNat
              · have q2 : ((r : Int) != (c.toNat : Int)) = false := by rw [hrc]; simp
                have q3 : ((r : Int) == (R : Int)) = false := by rw [beq_eq_false_iff_ne]; omega
                clear hr hsp hrc
                go_wp2
                simp only [Exit.jump]
                go_ret
                exact ⟨rfl, HW.out.2.1⟩
              · have q2 : ((r : Int) != (c.toNat : Int)) = true := by rw [bne_iff_ne]; omega
                by_cases hrR : r < R
                · obtain ⟨h, hgh⟩ : ∃ h, gk = h + 1 := ⟨gk - 1, by
                    rcases hsp with ⟨h1, _⟩ | ⟨h1, _⟩ | ⟨_, h2⟩
                    · omega
                    · omega
                    · exact absurd h2 hrc⟩
                  have hnext : Spin c.toNat h (.int .i32 (nx r : Nat)) := by
                    have hs3 := HORB.out.2
                    rcases hsp with ⟨h1, h2⟩ | ⟨h1, h2, h3⟩ | ⟨_, h2⟩
                    · subst h2
                      exact ⟨_, rfl, HORB.out.1.2.1, .inr (.inl ⟨by omega, rfl, hrc⟩)⟩
                    · subst h2
                      refine ⟨_, rfl, HORB.out.1.2.2.1, .inr (.inr ⟨by omega, ?_⟩)⟩
                      rcases hs3 with e | e | e
                      · exact e
                      · exact absurd e hrc
                      · exact absurd e h3
                    · exact absurd h2 hrc
                  have HNX := Lib.hid hnext
                  have hrRi : (r : Int) < (R : Int) := by omega
                  clear hr hsp hrc hnext
                  go_wp2_with (go_at_call 32; refine (HSF.out r HR.out).mono ?_; rintro e w' ⟨rfl, rfl⟩)
                  go_roundg h
                  case measure => omega
                  case rel => exact ⟨rfl, HNX.out⟩
                · have hrRi : ¬ ((r : Int) < (R : Int)) := by omega
                  by_cases hre : r = R
                  · have q3 : ((r : Int) == (R : Int)) = true := by rw [hre]; simp
                    have hw2 : 2 ≤ wd := by
                      have h5 := HD.out.2.1 (by omega)
                      rcases HR.out with h | h | h <;> omega
                    clear hr hsp hrc hre hrR
                    go_wp2
                    go_roundg g'
                    case measure => omega
                    case rel =>
                      refine ⟨pos + wd, tt.extract 1 tt.size, rfl, HTA.out.tail 1, by rw [HE.out]; omega, HW.out.1, by omega, HW.out.2.1, .inr ?_⟩
                      rw [HE.out]
                      have h1 := HINV.out
                      omega
                  · have q3 : ((r : Int) == (R : Int)) = false := by rw [beq_eq_false_iff_ne]; omega
                    clear hr hsp hrc hre hrR
                    go_wp2
                    simp only [Exit.jump]
                    go_ret
                    exact ⟨rfl, HW.out.2.1⟩
      · have hnx : ∀ ty, (Instr.next (.pointer (some ⟨w.heap.size, 0, none⟩)) true ty).run Tryd.prog wr = _ := fun ty => Lib.run_next_end_at (P := Tryd.prog) wr w.heap.size S1 pos ty hit hp
        have htt : 0 < tt.size := by have := HA1.out.2.2; omega
        have hz : ((tt.size : Int) == 0) = false := by rw [beq_eq_false_iff_ne]; omega
        have HB := Lib.hid hb
        clear hit hb hta hinv
        go_wp2
        simp only [Exit.jump]
        go_ret
        exact ⟨rfl, HB.out⟩

end Go.Proofs.YtalnapcphdmjaaaDoor
