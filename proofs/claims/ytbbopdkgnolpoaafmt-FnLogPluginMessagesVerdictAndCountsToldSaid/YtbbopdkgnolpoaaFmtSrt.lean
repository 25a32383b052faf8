/-
  sort.Stable over messages without a place: it compares, and moves nothing; conditions: those that each lemma names.
-/
import Derived.Test.YtbbopdkgnolpoaaFmtMsg
import Derived.Deep.LoopGhost
import Derived.Deep.Cut
namespace Go.Proofs.YtbbopdkgnolpoaaFmt
open Go.RowKit

theorem meth_less (g n cap : Nat) (w : World) : (method 286 45 (.slice (some ⟨g, 0, none⟩) n cap) "Less").run Tryf.prog w = .ok (75, .slice (some ⟨g, 0, none⟩) n cap) w := by kernel_rfl
theorem meth_len (g n cap : Nat) (w : World) : (method 286 45 (.slice (some ⟨g, 0, none⟩) n cap) "Len").run Tryf.prog w = .ok (74, .slice (some ⟨g, 0, none⟩) n cap) w := by kernel_rfl

def Done0 (w : World) (e : Ending) (w' : World) : Prop := e = .returned (.tuple #[]) ∧ Below w.heap.size w w'

set_option maxHeartbeats 1000000 in
set_option maxRecDepth 100000 in
theorem ins_any (g n cap : Nat) (ms : List Mg) (hn : ms.length = n) (hm : n ≤ 65536) (a b : Nat) (hab : a ≤ b) (hb : b ≤ n) (w : World) (h : MRow w g ms) :
    Calls Tryf.prog 33 #[.iface 45 (.slice (some ⟨g, 0, none⟩) n cap), .int .i64 a, .int .i64 b] w (Done0 w) := by
  have H := Lib.hid (And.intro h hn)
  have hme := meth_less g n cap
  clear h hn
  go_enter Tryf.func33, Tryf.ntmps33
  go_wp2_with fail
  go_loopw [6, 7] (fun s6 _ wr => ∃ i : Nat, s6 = .int .i64 i ∧ a < i ∧ i ≤ b + 1 ∧ Below w.heap.size w wr) (fun s6 _ _ => b + 1 - (intOf s6).toNat)
  case atStart => exact ⟨a + 1, by go_num, by omega, by omega, Below.refl _ _⟩
  case round =>
    obtain ⟨i, rfl, hai, hib, hbw⟩ := hrel
    have hz := hbw.size
    have HB := Lib.hid hbw
    clear hbw
    by_cases hlt : i < b
    · go_wp2_with fail
      go_loopw [7] (fun s7 wr2 => s7 = .int .i64 i ∧ wr2 = wr) (fun _ _ => 0)
      case atStart => exact ⟨rfl, rfl⟩
      case round =>
        obtain ⟨rfl, rfl⟩ := hrel
        have hl := less_any g n cap i (i - 1) ms wr (H.out.1.below HB.out (H.out.1.lt (by have := H.out.2; omega))) H.out.2 (by omega) (by omega) hm
        rw [show (((i - 1 : Nat) : Int)) = (i : Int) - 1 by omega] at hl
        have HL := Lib.hid hl
        clear hl
        go_wp2_with (go_at_call 75; refine HL.out.mono ?_; rintro e w2 ⟨rfl, hb2⟩)
        go_roundw
        case rel => exact ⟨i + 1, by go_num, by omega, by omega, HB.out.trans (hb2.mono hz)⟩
        case measure => simp [intOf]; omega
    · go_wp2_with fail
      go_end0
      exact ⟨rfl, HB.out⟩

set_option maxHeartbeats 2000000 in
set_option maxRecDepth 100000 in
theorem sym_any (g n cap : Nat) (ms : List Mg) (hn : ms.length = n) (hm : n ≤ 65536) : ∀ (fuel a m b : Nat), b - a ≤ fuel → a < m → m < b → b ≤ n → ∀ (w : World), MRow w g ms →
    Calls Tryf.prog 34 #[.iface 45 (.slice (some ⟨g, 0, none⟩) n cap), .int .i64 a, .int .i64 m, .int .i64 b] w (Done0 w) := by
  intro fuel
  induction fuel with
  | zero => intro a m b h1 h2 h3; omega
  | succ fuel ih =>
    intro a m b hf ham hmb hb w h
    have H := Lib.hid (And.intro h hn)
    have IH := Lib.hid ih
    have hme := meth_less g n cap
    clear h hn ih
    by_cases h1 : m - a = 1
    · have e1 : ((m : Int) - a == 1) = true := by rw [beq_iff_eq]; omega
      have h1' : m ≤ a + 1 := by omega
      clear h1
      go_enter Tryf.func34, Tryf.ntmps34
      go_wp2_with fail
      go_loopw [8, 9] (fun s8 s9 wr => ∃ j : Nat, s8 = .int .i64 m ∧ s9 = .int .i64 j ∧ m ≤ j ∧ j ≤ b ∧ Below w.heap.size w wr) (fun _ s9 _ => (intOf s9).toNat)
      case atStart => exact ⟨b, rfl, rfl, by omega, by omega, Below.refl _ _⟩
      case round =>
        obtain ⟨j, rfl, rfl, hmj, hjb, hbw⟩ := hrel
        have hz := hbw.size
        have HB := Lib.hid hbw
        clear hbw
        by_cases hlt : m < j
        · obtain ⟨c, hc, hc1, hc2⟩ : ∃ c : Nat, c = (m + j) / 2 ∧ m ≤ c ∧ c < j := ⟨_, rfl, by omega, by omega⟩
          have hl := less_any g n cap c a ms wr (H.out.1.below HB.out (H.out.1.lt (by have := H.out.2; omega))) H.out.2 (by omega) (by omega) hm
          have HL := Lib.hid (And.intro hl hc)
          clear hl hc
          go_upto_region 5 with fail
          rw [show ((m : Int) + j) / 2 = (c : Int) by have := HL.out.2; omega]
          go_wp2_with (go_at_call 75; refine HL.out.1.mono ?_; rintro e w2 ⟨rfl, hb2⟩)
          go_roundw
          case rel => exact ⟨c, rfl, rfl, hc1, by omega, HB.out.trans (hb2.mono hz)⟩
          case measure => simp [intOf]; omega
        · go_wp2_with fail
          go_loopw [11] (fun s11 wr2 => s11 = .int .i64 a ∧ wr2 = wr) (fun _ _ => 0)
          case atStart => exact ⟨rfl, rfl⟩
          case round =>
            obtain ⟨rfl, rfl⟩ := hrel
            go_wp2_with fail
            go_end0
            exact ⟨rfl, HB.out⟩
    have e1 : ((m : Int) - a == 1) = false := by rw [beq_eq_false_iff_ne]; omega
    by_cases h2 : b - m = 1
    · have e2 : ((b : Int) - m == 1) = true := by rw [beq_iff_eq]; omega
      clear h1 h2
      go_enter Tryf.func34, Tryf.ntmps34
      go_wp2_with fail
      go_loopw [12, 13] (fun s12 s13 wr => ∃ i : Nat, s12 = .int .i64 i ∧ s13 = .int .i64 m ∧ a ≤ i ∧ i ≤ m ∧ Below w.heap.size w wr) (fun s12 _ _ => m - (intOf s12).toNat)
      case atStart => exact ⟨a, rfl, rfl, by omega, by omega, Below.refl _ _⟩
      case round =>
        obtain ⟨i, rfl, rfl, hai, him, hbw⟩ := hrel
        have hz := hbw.size
        have HB := Lib.hid hbw
        clear hbw
        by_cases hlt : i < m
        · obtain ⟨c, hc, hc1, hc2⟩ : ∃ c : Nat, c = (i + m) / 2 ∧ i ≤ c ∧ c < m := ⟨_, rfl, by omega, by omega⟩
          have hl := less_any g n cap m c ms wr (H.out.1.below HB.out (H.out.1.lt (by have := H.out.2; omega))) H.out.2 (by omega) (by omega) hm
          have HL := Lib.hid (And.intro hl hc)
          clear hl hc
          go_upto_region 17 with fail
          rw [show ((i : Int) + m) / 2 = (c : Int) by have := HL.out.2; omega]
          go_wp2_with (go_at_call 75; refine HL.out.1.mono ?_; rintro e w2 ⟨rfl, hb2⟩)
          go_roundw
          case rel => exact ⟨c + 1, by go_num, rfl, by omega, by omega, HB.out.trans (hb2.mono hz)⟩
          case measure => simp [intOf]; omega
        · obtain rfl : i = m := by omega
          go_wp2_with fail
          go_loopw [15] (fun s15 wr2 => s15 = .int .i64 i ∧ wr2 = wr) (fun _ _ => 0)
          case atStart => exact ⟨rfl, rfl⟩
          case round =>
            obtain ⟨rfl, rfl⟩ := hrel
            go_wp2_with fail
            go_end0
            exact ⟨rfl, HB.out⟩
    have e2 : ((b : Int) - m == 1) = false := by rw [beq_eq_false_iff_ne]; omega
    obtain ⟨mid, hmid, hm1, hm2⟩ : ∃ c : Nat, c = (a + b) / 2 ∧ a < c ∧ c < b := ⟨_, rfl, by omega, by omega⟩
    have hm3 : 2 * mid ≤ a + b := by omega
    have hm4 : a + b ≤ 2 * mid + 1 := by omega
    have HM := Lib.hid hmid
    clear h1 h2 hmid
    by_cases hmm : mid < m
    · go_enter Tryf.func34, Tryf.ntmps34
      go_upto_region 25 with fail
      rw [show ((a : Int) + b) / 2 = (mid : Int) by have := HM.out; omega]
      go_wp2_with fail
      go_loopw [18, 19] (fun s18 s19 wr => ∃ st : Nat, s18 = .int .i64 st ∧ s19 = .int .i64 mid ∧ mid + m ≤ st + b ∧ st ≤ mid ∧ Below w.heap.size w wr) (fun s18 _ _ => mid - (intOf s18).toNat)
      case atStart => exact ⟨mid + m - b, by go_num, rfl, by omega, by omega, Below.refl _ _⟩
      case round =>
        obtain ⟨st, rfl, rfl, hs1, hs2, hbw⟩ := hrel
        have hz := hbw.size
        have HB := Lib.hid hbw
        clear hbw
        by_cases hlt : st < mid
        · obtain ⟨c, hc, hc1, hc2⟩ : ∃ c : Nat, c = (st + mid) / 2 ∧ st ≤ c ∧ c < mid := ⟨_, rfl, by omega, by omega⟩
          have hl := less_any g n cap (mid + m - 1 - c) c ms wr (H.out.1.below HB.out (H.out.1.lt (by have := H.out.2; omega))) H.out.2 (by omega) (by omega) hm
          rw [show ((mid + m - 1 - c : Nat) : Int) = (mid : Int) + m - 1 - c by omega] at hl
          have HL := Lib.hid (And.intro hl hc)
          clear hl hc
          go_upto_region 35 with fail
          rw [show ((st : Int) + mid) / 2 = (c : Int) by have := HL.out.2; omega]
          go_wp2_with (go_at_call 75; refine HL.out.1.mono ?_; rintro e w2 ⟨rfl, hb2⟩)
          go_roundw
          case rel => exact ⟨c + 1, by go_num, rfl, by omega, by omega, HB.out.trans (hb2.mono hz)⟩
          case measure => simp [intOf]; omega
        · obtain rfl : st = mid := by omega
          go_upto_region 39 with fail
          rw [show (st : Int) + m - st = (m : Int) by omega]
          go_wp2_with (go_at_call 34; refine (IH.out st m b (by omega) hmm hmb hb wr (H.out.1.below HB.out (H.out.1.lt (by have := H.out.2; omega)))).mono ?_; rintro e w2 ⟨rfl, hb2⟩)
          go_end0
          exact ⟨rfl, HB.out.trans (hb2.mono hz)⟩
    · go_enter Tryf.func34, Tryf.ntmps34
      go_upto_region 25 with fail
      rw [show ((a : Int) + b) / 2 = (mid : Int) by have := HM.out; omega]
      go_wp2_with fail
      go_loopw [18, 19] (fun s18 s19 wr => ∃ st : Nat, s18 = .int .i64 st ∧ s19 = .int .i64 m ∧ a ≤ st ∧ st ≤ m ∧ Below w.heap.size w wr) (fun s18 _ _ => m - (intOf s18).toNat)
      case atStart => exact ⟨a, rfl, rfl, by omega, by omega, Below.refl _ _⟩
      case round =>
        obtain ⟨st, rfl, rfl, hs1, hs2, hbw⟩ := hrel
        have hz := hbw.size
        have HB := Lib.hid hbw
        clear hbw
        by_cases hlt : st < m
        · obtain ⟨c, hc, hc1, hc2⟩ : ∃ c : Nat, c = (st + m) / 2 ∧ st ≤ c ∧ c < m := ⟨_, rfl, by omega, by omega⟩
          have hl := less_any g n cap (mid + m - 1 - c) c ms wr (H.out.1.below HB.out (H.out.1.lt (by have := H.out.2; omega))) H.out.2 (by omega) (by omega) hm
          rw [show ((mid + m - 1 - c : Nat) : Int) = (mid : Int) + m - 1 - c by omega] at hl
          have HL := Lib.hid (And.intro hl hc)
          clear hl hc
          go_upto_region 35 with fail
          rw [show ((st : Int) + m) / 2 = (c : Int) by have := HL.out.2; omega]
          go_wp2_with (go_at_call 75; refine HL.out.1.mono ?_; rintro e w2 ⟨rfl, hb2⟩)
          go_roundw
          case rel => exact ⟨c + 1, by go_num, rfl, by omega, by omega, HB.out.trans (hb2.mono hz)⟩
          case measure => simp [intOf]; omega
        · obtain rfl : st = m := by omega
          by_cases hml : st < mid
          · go_upto_region 39 with fail
            go_wp2_with (go_at_call 34; refine (IH.out a st mid (by omega) (by omega) hml (by omega) wr (H.out.1.below HB.out (H.out.1.lt (by have := H.out.2; omega)))).mono ?_; rintro e w2 ⟨rfl, hb2⟩)
            go_end0
            exact ⟨rfl, HB.out.trans (hb2.mono hz)⟩
          · go_upto_region 39 with fail
            go_wp2_with fail
            go_end0
            exact ⟨rfl, HB.out⟩

set_option maxHeartbeats 2000000 in
set_option maxRecDepth 100000 in
theorem stable_any (g n cap : Nat) (ms : List Mg) (hn : ms.length = n) (hm : n ≤ 65536) (h0 : 0 < n) (w : World) (h : MRow w g ms) :
    Calls Tryf.prog 19 #[.iface 45 (.slice (some ⟨g, 0, none⟩) n cap), .int .i64 n] w (Done0 w) := by
  have H := Lib.hid (And.intro h hn)
  have hg := h.lt (by omega)
  clear h hn
  go_enter Tryf.func19, Tryf.ntmps19
  go_wp2_with fail
  go_loopw [5, 6] (fun s5 s6 wr => ∃ a : Nat, s5 = .int .i64 a ∧ s6 = .int .i64 (a + 20 : Nat) ∧ a ≤ n ∧ Below w.heap.size w wr) (fun s5 _ _ => n - (intOf s5).toNat)
  case atStart => exact ⟨0, rfl, rfl, by omega, Below.refl _ _⟩
  case round =>
    obtain ⟨a, rfl, rfl, ha, hbw⟩ := hrel
    have hz := hbw.size
    have HB := Lib.hid hbw
    clear hbw
    rw [show ((a + 20 : Nat) : Int) = (a : Int) + 20 by omega]
    by_cases hlt : a + 20 ≤ n
    · have hl := ins_any g n cap ms H.out.2 hm a (a + 20) (by omega) hlt wr (H.out.1.below HB.out hg)
      rw [show ((a + 20 : Nat) : Int) = (a : Int) + 20 by omega] at hl
      have HL := Lib.hid hl
      clear hl
      go_wp2_with (go_at_call 33; refine HL.out.mono ?_; rintro e w2 ⟨rfl, hb2⟩)
      go_roundw
      case rel => exact ⟨a + 20, by go_num, by go_num, hlt, HB.out.trans (hb2.mono hz)⟩
      case measure => simp [intOf]; omega
    · have hl := ins_any g n cap ms H.out.2 hm a n ha (Nat.le_refl _) wr (H.out.1.below HB.out hg)
      have HL := Lib.hid hl
      clear hl
      go_wp2_with fail
      refine HL.out.mono ?_
      rintro e w2 ⟨rfl, hb2⟩
      have HB2 := Lib.hid (HB.out.trans (hb2.mono hz))
      clear hb2 hlt
      go_wp2_with fail
      go_loopw [4, 5, 6, 7] (fun s4 _ _ _ wr => ∃ bs : Nat, s4 = .int .i64 bs ∧ 20 ≤ bs ∧ bs ≤ 131072 ∧ Below w.heap.size w wr) (fun s4 _ _ _ _ => 131072 - (intOf s4).toNat)
      case atStart => exact ⟨20, rfl, by omega, by omega, HB2.out⟩
      case round =>
        obtain ⟨bs, rfl, hb1, hb3, hbw⟩ := hrel
        have hz := hbw.size
        have HB := Lib.hid hbw
        clear hbw
        by_cases hlt : bs < n
        · go_wp2_with fail
          obtain ⟨wo, rfl⟩ : ∃ wo : World, wo = wr := ⟨_, rfl⟩
          go_loopw [5, 6] (fun s5 s6 wr => ∃ a : Nat, s5 = .int .i64 a ∧ s6 = .int .i64 (a + 2 * bs : Nat) ∧ a ≤ n ∧ Below w.heap.size w wr) (fun s5 _ _ => n - (intOf s5).toNat)
          case atStart => exact ⟨0, rfl, by go_num, by omega, HB.out⟩
          case round =>
            obtain ⟨a, rfl, rfl, ha, hbw⟩ := hrel
            have hz := hbw.size
            have HB := Lib.hid hbw
            clear hbw
            rw [show ((a + 2 * bs : Nat) : Int) = (a : Int) + 2 * bs by omega]
            by_cases hlt2 : a + 2 * bs ≤ n
            · have hl := sym_any g n cap ms H.out.2 hm (2 * bs) a (a + bs) (a + 2 * bs) (by omega) (by omega) (by omega) hlt2 wr (H.out.1.below HB.out hg)
              rw [show ((a + 2 * bs : Nat) : Int) = (a : Int) + 2 * bs by omega, show ((a + bs : Nat) : Int) = (a : Int) + bs by omega] at hl
              have HL := Lib.hid hl
              clear hl
              go_wp2_with (go_at_call 34; refine HL.out.mono ?_; rintro e w2 ⟨rfl, hb2⟩)
              go_roundw
              case rel => exact ⟨a + 2 * bs, by go_num, by go_num, hlt2, HB.out.trans (hb2.mono hz)⟩
              case measure => simp [intOf]; omega
            · by_cases hlt3 : a + bs < n
              · have hl := sym_any g n cap ms H.out.2 hm n a (a + bs) n (by omega) (by omega) hlt3 (Nat.le_refl _) wr (H.out.1.below HB.out hg)
                rw [show ((a + bs : Nat) : Int) = (a : Int) + bs by omega] at hl
                have HL := Lib.hid hl
                clear hl
                go_wp2_with (go_at_call 34; refine HL.out.mono ?_; rintro e w2 ⟨rfl, hb2⟩)
                go_roundw
                case rel => exact ⟨bs * 2, by go_num, by omega, by omega, HB.out.trans (hb2.mono hz)⟩
                case measure => simp [intOf]; omega
              · go_wp2_with fail
                go_roundw
                case rel => exact ⟨bs * 2, by go_num, by omega, by omega, HB.out⟩
                case measure => simp [intOf]; omega
        · go_wp2_with fail
          go_end0
          exact ⟨rfl, HB.out⟩
set_option maxHeartbeats 1000000 in
theorem ins_none (v : Value) (w : World) : Calls Tryf.prog 33 #[.iface 45 v, .int .i64 0, .int .i64 0] w (Done0 w) := by
  go_enter Tryf.func33, Tryf.ntmps33
  go_wp2_with fail
  go_loopw [6] (fun s6 wr => s6 = .int .i64 1 ∧ wr = w) (fun _ _ => 0)
  case atStart => exact ⟨rfl, rfl⟩
  case round =>
    obtain ⟨rfl, rfl⟩ := hrel
    go_wp2_with fail
    go_end0
    exact ⟨rfl, Below.refl _ _⟩
set_option maxHeartbeats 1000000 in
theorem stable_none (v : Value) (w : World) : Calls Tryf.prog 19 #[.iface 45 v, .int .i64 0] w (Done0 w) := by
  go_enter Tryf.func19, Tryf.ntmps19
  go_wp2_with fail
  go_loopw [5, 6] (fun s5 s6 wr => s5 = .int .i64 0 ∧ s6 = .int .i64 20 ∧ wr = w) (fun _ _ _ => 0)
  case atStart => exact ⟨rfl, rfl, rfl⟩
  case round =>
    obtain ⟨rfl, rfl, rfl⟩ := hrel
    go_wp2_with fail
    refine (ins_none v _).mono ?_
    rintro e w2 ⟨rfl, hb2⟩
    go_wp2_with fail
    go_loopw [4] (fun s4 wr2 => s4 = .int .i64 20 ∧ wr2 = w2) (fun _ _ => 0)
    case atStart => exact ⟨rfl, rfl⟩
    case round =>
      obtain ⟨rfl, rfl⟩ := hrel
      go_wp2_with fail
      go_end0
      exact ⟨rfl, hb2⟩
theorem meth_len0 (w : World) : (method 286 45 (.slice none 0 0) "Len").run Tryf.prog w = .ok (74, .slice none 0 0) w := by kernel_rfl
theorem len_none (w : World) : Calls Tryf.prog 74 #[.slice none 0 0] w fun e w' => e = .returned (.int .i64 0) ∧ w = w' := by
  go_enter Tryf.func74, Tryf.ntmps74
  go_wp2
  go_ret
  exact ⟨rfl, rfl⟩
set_option maxHeartbeats 1000000 in
theorem sort_none (w : World) : Calls Tryf.prog 14 #[.iface 45 (.slice none 0 0)] w (Done0 w) := by
  have hme := meth_len0
  go_enter Tryf.func14, Tryf.ntmps14
  go_wp2_with (first | (go_at_call 74; refine (len_none _).mono ?_; rintro e w' ⟨rfl, rfl⟩) | (go_at_call 19; refine (stable_none _ _).mono ?_; rintro e w2 ⟨rfl, hb2⟩))
  go_end0
  exact ⟨rfl, hb2⟩
set_option maxHeartbeats 1000000 in
theorem sort_any (g n cap : Nat) (ms : List Mg) (hn : ms.length = n) (hm : n ≤ 65536) (h0 : 0 < n) (w : World) (h : MRow w g ms) :
    Calls Tryf.prog 14 #[.iface 45 (.slice (some ⟨g, 0, none⟩) n cap)] w (Done0 w) := by
  have H := Lib.hid (And.intro h hn)
  clear h hn
  have hme := meth_len g n cap
  go_enter Tryf.func14, Tryf.ntmps14
  go_wp2_with (first | (go_at_call 74; refine (len_any g n cap _).mono ?_; rintro e w' ⟨rfl, rfl⟩) | (go_at_call 19; refine (stable_any g n cap ms H.out.2 hm h0 _ H.out.1).mono ?_; rintro e w2 ⟨rfl, hb2⟩))
  go_end0
  exact ⟨rfl, hb2⟩
end Go.Proofs.YtbbopdkgnolpoaaFmt
