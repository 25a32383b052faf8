/-
  zzShuffle: the letters in their order; conditions: those that each lemma names.
-/
import Derived.Test.YtmnoffiblcnjpaaDfl
import Derived.Test.YtmnoffiblcnjpaaOrd
import Derived.Test.YtmnoffiblcnjpaaTws
import Derived.BigQuiet
namespace Go.Proofs.Ytmnoffiblcnjpaa
open Go.RowKit Go.Sort

theorem tb_new (w : World) (T : TypeId) : Tb w.heap.size T (w.alloc (.cells (Array.replicate 64 (.int .i32 0)) T)) (fun _ => 0) (w.alloc (.cells (Array.replicate 64 (.int .i32 0)) T)) :=
  ⟨Row.new w T _ 64 _ (by simp) fun i hi => by simp [cf, hi], Gs.refl _ _⟩
theorem Tb.add' {f : Nat} {T : TypeId} {w wr W : World} {C : Nat → Int} (h : Tb f T w C wr) (i : Nat) (dl v : Int) (hv : v = IntKind.i32.wrap (C i + dl)) (hW : W = wr.setCell ⟨f, i, none⟩ (.int .i32 v)) : Tb f T w (addc dl C i) W := by
  subst hW
  exact ⟨(h.row.set i _).congr fun j _ => cf_set C i dl v hv j, h.gs.set _ _⟩
theorem ix_call (c : UInt8) (w : World) : Calls Try.prog 12 #[.string ⟨#[97, 98, 99, 100, 101, 102, 103, 104, 105, 106, 107, 108, 109, 110, 111, 112, 113, 114, 115, 116, 117, 118, 119, 120, 121, 122, 65, 66, 67, 68, 69, 70, 71, 72, 73, 74, 75, 76, 77, 78, 79, 80, 81, 82, 83, 84, 85, 86, 87, 88, 89, 90, 48, 49, 50, 51, 52, 53, 54, 55, 56, 57, 95, 36]⟩, .int .u8 (c.toNat : Int)] w fun e w' => e = .returned (.int .i64 (ixI c)) ∧ w' = w := by
  have hc := Try.strings_IndexByte (S jsT) (c.toNat : Int) w
  rw [back, S_data, ixc_byte] at hc
  exact hc
theorem info3 : (Try.prog.info? 3).map (fun i => (i.zero, i.size, i.bytes)) = some (some (.int .i64 0), 1, 8) := by kernel_rfl
/-- A row of places. -/
abbrev pv (o : Nat → Nat) (j : Nat) : Value := .int .i64 (o j : Int)
/-- The places 0 .. k-1, then zeros. -/
def upto (k j : Nat) : Nat := if j < k then j else 0
theorem upto_next (k : Nat) (j : Nat) : (if j = k then (.int .i64 (k : Int) : Value) else pv (upto k) j) = pv (upto (k + 1)) j := by
  unfold pv upto
  by_cases h : j = k
  · subst h
    rw [if_pos rfl, if_pos (Nat.lt_succ_self _)]
  · rw [if_neg h]
    by_cases h2 : j < k
    · rw [if_pos h2, if_pos (by omega)]
    · rw [if_neg h2, if_neg (by omega)]
theorem range_get (n j : Nat) (h : j < n) : (List.range n)[j]! = j := by
  rw [getElem!_pos _ j (by rw [List.length_range]; exact h), List.getElem_range]
theorem gap_next (o : List Nat) {p i : Nat} (hp : p + 1 ≤ i) (j : Nat) : (if j = p + 1 then (.int .i64 (o[p]! : Int) : Value) else pv (gap o (p + 1) i) j) = pv (gap o p i) j := by
  have h := gap_step o hp j
  unfold pv
  rw [← h]
  split <;> rfl
theorem gap_end (o : List Nat) {p i : Nat} (hp : p ≤ i) (hi : i < o.length) (j : Nat) (hj : j < o.length) : (if j = p then (.int .i64 (o[i]! : Int) : Value) else pv (gap o p i) j) = pv (fun m => (ins o p i)[m]!) j := by
  show _ = Value.int .i64 (((ins o p i)[j]! : Nat) : Int)
  unfold pv
  rw [ins_get o hp hi j hj]
  split <;> rfl
theorem Gs.trans {g : Nat} {a b c : World} (h : Gs g a b) (k : Gs g b c) : Gs g a c := ⟨k.os.trans h.os, k.tape.trans h.tape, k.output.trans h.output, k.size.trans h.size, fun i hi => (k.block i hi).trans (h.block i hi)⟩
theorem Row.gs {g f n : Nat} {T : TypeId} {F : Nat → Value} {w w' : World} (h : Row w f T n F) (k : Gs g w w') (hne : f ≠ g) : Row w' f T n F := by
  obtain ⟨cs, h1, h2, h3⟩ := h
  exact ⟨cs, (k.block f hne).trans h1, h2, h3⟩
theorem Gs.drewN {g : Nat} {a b : World} (h : Gs g a b) (k : Nat) : Gs g a (b.drewN k) := ⟨h.os, h.tape, h.output, h.size, h.block⟩
def isDig (c : UInt8) : Bool := decide (48 ≤ c.toNat ∧ c.toNat ≤ 57)
/-- The places in the order of the letters' counts. -/
def Ordered (T : List UInt8) (C : Nat → Int) (o : List Nat) : Prop := o.Perm (List.range T.length) ∧ o.Pairwise (Ri T C)
/-- The order in the making: the first i places stand in order. -/
structure OI (T : List UInt8) (C : Nat → Int) (g : Nat) (w : World) (i : Nat) (o : List Nat) (wr : World) : Prop where
  perm : o.Perm (List.range T.length)
  srt : (o.take i).Pairwise (Ri T C)
  row : Row wr g 3 T.length (pv fun j => o[j]!)
  gs : Gs g w wr
theorem OI.length {T : List UInt8} {C : Nat → Int} {g : Nat} {w : World} {i : Nat} {o : List Nat} {wr : World} (h : OI T C g w i o wr) : o.length = T.length := by
  have := h.perm.length_eq
  rwa [List.length_range] at this
theorem OI.lt {T : List UInt8} {C : Nat → Int} {g : Nat} {w : World} {i : Nat} {o : List Nat} {wr : World} (h : OI T C g w i o wr) {j : Nat} (hj : j < T.length) : o[j]! < T.length := by
  have hl : j < o.length := by rw [h.length]; exact hj
  rw [getElem!_pos o j hl]
  exact List.mem_range.1 (h.perm.mem_iff.1 (List.getElem_mem hl))
theorem OI.close {T : List UInt8} {C : Nat → Int} {g : Nat} {w : World} {i p : Nat} {o : List Nat} {wr wx W : World} (h : OI T C g w i o wr) (hi : i < T.length) (hp : p ≤ i) (hrow : Row wx g 3 T.length (pv (gap o p i))) (hgs : Gs g w wx)
    (hup : ∀ k, p ≤ k → k < i → Ri T C o[i]! o[k]!) (hlo : 0 < p → ltE (elT T C o[p - 1]!) (elT T C o[i]!) = true) (hW : W = wx.setCell ⟨g, p, none⟩ (.int .i64 (o[i]! : Int))) : OI T C g w (i + 1) (ins o p i) W := by
  subst hW
  have hl := h.length
  exact ⟨(ins_perm o hp (by omega)).trans h.perm, ins_sorted T C o hp (by omega) h.srt hup hlo, (hrow.set p _).congr fun j hj => gap_end o hp (by omega) j (by omega), hgs.set _ _⟩
theorem tails_next (T : List UInt8) (o : List Nat) {k : Nat} (h : k < o.length) : (o.take (k + 1)).map (fun i => T[i]!) = (o.take k).map (fun i => T[i]!) ++ [T[o[k]!]!] := by
  rw [List.take_succ_eq_append_getElem h, List.map_append, getElem!_pos o k h]
  rfl
theorem heads_next (T : List UInt8) (o : List Nat) {k : Nat} (h : k < o.length) : ((o.take (k + 1)).map (fun i => T[i]!)).filter (fun c => !isDig c) = ((o.take k).map (fun i => T[i]!)).filter (fun c => !isDig c) ++ (if isDig T[o[k]!]! then [] else [T[o[k]!]!]) := by
  rw [tails_next T o h, List.filter_append]
  congr 1
  obtain ⟨c, hc⟩ : ∃ c, T[o[k]!]! = c := ⟨_, rfl⟩
  rw [hc]
  by_cases e : isDig c = true
  · rw [if_pos e, List.filter_cons_of_neg (by simp [e]), List.filter_nil]
  · rw [if_neg e, List.filter_cons_of_pos (by simpa using e), List.filter_nil]
def ShufRel (T : List UInt8) (o : List Nat) (B : Nat) (w : World) (k : Nat) (wx : World) : Prop :=
  Tw B B (B + 1) (((o.take k).map (fun i => T[i]!)).filter fun c => !isDig c) ((o.take k).map (fun i => T[i]!)) wx ∧ Below B w wx
theorem heads_ne {T : List UInt8} {o : List Nat} (hp : o.Perm (List.range T.length)) (h0 : 0 < T.length) (hd : isDig T[0]! = false) : ((o.map (fun i => T[i]!)).filter fun c => !isDig c) ≠ [] := by
  intro e
  have hm : (0 : Nat) ∈ o := hp.mem_iff.2 (List.mem_range.2 h0)
  have h2 : T[0]! ∈ ((o.map (fun i => T[i]!)).filter fun c => !isDig c) := List.mem_filter.2 ⟨List.mem_map.2 ⟨0, hm, rfl⟩, by rw [hd]; rfl⟩
  rw [e] at h2
  cases h2
theorem ret_two (a b : ByteArray) {c d : ByteArray} (h1 : a = c) (h2 : b = d) : Ending.returned (.tuple #[.string a, .string b]) = .returned (.tuple #[.string c, .string d]) := by rw [h1, h2]
set_option maxHeartbeats 8000000 in
set_option maxRecDepth 100000 in
theorem zsh_any (s tl : ByteArray) (dl : Int) (w : World) (hs : s.size ≤ 1048576) (ht : tl.size ≤ 64) (ht0 : 1 ≤ tl.size) (hx0 : isDig tl.data.toList[0]! = false) :
    Calls Try.prog 8 #[.string s, .int .i32 dl, .string tl] w fun e w' => ∃ h t : ByteArray, e = .returned (.tuple #[.string h, .string t]) ∧
      (∃ o, Ordered tl.data.toList (cnt dl (fun _ => 0) s.data.toList) o ∧ t.data.toList = o.map (fun i => tl.data.toList[i]!) ∧ h.data.toList = (o.map fun i => tl.data.toList[i]!).filter fun c => !isDig c) ∧ Below w.heap.size w w' := by
  obtain ⟨i0, hi, hz0, hz1, hz2⟩ := info_parts info3
  have HI := Lib.hid (And.intro hi (And.intro hz0 (And.intro hz1 hz2)))
  have HD0 := Lib.hid hx0
  clear hi hz0 hz1 hz2 hx0
  go_enter Try.func8, Try.ntmps8
  go_wp2_with fail
  have hN := Lib.hid (tb_new w 22)
  go_loopw [9] (fun s9 wr => ∃ k : Nat, s9 = .int .i64 k ∧ k ≤ s.size ∧ Tb w.heap.size 22 (w.alloc (.cells (Array.replicate 64 (.int .i32 0)) 22)) (cnt dl (fun _ => 0) (s.data.toList.take k)) wr) (fun s9 _ => s.size - (intOf s9).toNat)
  case atStart => exact ⟨0, rfl, by omega, hN.out⟩
  case round =>
    obtain ⟨k, rfl, hk, hT⟩ := hrel
    by_cases hlt : k < s.size
    · have hst := cnt_step dl (fun _ => 0) s.data.toList k (by rw [size_len]; exact hlt)
      rw [at_get s k hlt] at hst
      obtain ⟨D, hD⟩ : ∃ D, cnt dl (fun _ => 0) (s.data.toList.take k) = D := ⟨_, rfl⟩
      rw [hD] at hst hT
      have hcell : ∀ i, i < 64 → wr.cell? ⟨w.heap.size, i, none⟩ = some (.int .i32 (D i)) := fun i hi => hT.row.cell hi
      have hfr : ∀ i, wr.frozen? ⟨w.heap.size, i, none⟩ = false := fun i => hT.row.frozen i
      have c1 := ix_call s[k]
      unfold ixI at c1
      have hb : bump dl D s[k] = (match ixc s[k] with | none => D | some i => addc dl D i) := rfl
      have hil : ∀ i, ixc s[k] = some i → i < 64 := fun i h => ixc_lt h
      have HT := Lib.hid (And.intro hT (hst.trans hb))
      clear hT hst hb hD
      cases hx : ixc s[k] with
      | none =>
        rw [hx] at c1 HT
        clear hcell hfr hil hx
        go_wp2_with (go_at_call 12; refine (c1 _).mono ?_; rintro e w' ⟨rfl, hw⟩; obtain rfl := hw.symm; clear hw)
        go_roundw
        case rel => exact ⟨k + 1, by go_num, by omega, by rw [HT.out.2]; exact HT.out.1⟩
        case measure => simp [intOf]; omega
      | some i =>
        rw [hx] at c1 HT
        have hi := hil i hx
        obtain ⟨v, hv⟩ : ∃ v, D i = v := ⟨_, rfl⟩
        have hci := hcell i (by omega)
        have hfi := hfr i
        rw [hv] at hci
        have HX := Lib.hid hv
        clear hcell hfr hil hx hv
        simp only at c1
        go_wp2_with (go_at_call 12; refine (c1 _).mono ?_; rintro e w' ⟨rfl, hw⟩; obtain rfl := hw.symm; clear hw)
        go_roundw
        case rel => exact ⟨k + 1, by go_num, by omega, by rw [HT.out.2]; exact HT.out.1.add' i dl _ (by rw [HX.out, IntKind.wrap_i32]; simp only [wrap32]) rfl⟩
        case measure => simp [intOf]; omega
    · obtain rfl : k = s.size := by omega
      obtain ⟨C, hC⟩ : ∃ C, cnt dl (fun _ => 0) s.data.toList = C := ⟨_, rfl⟩
      rw [List.take_of_length_le (by rw [size_len]; omega), hC] at hT
      obtain ⟨f, hf⟩ : ∃ f, w.heap.size = f := ⟨_, rfl⟩
      obtain ⟨g, hg⟩ : ∃ g, wr.heap.size = g := ⟨_, rfl⟩
      have hfg : f < g := by rw [← hg, hT.gs.size, ← hf]; simp
      have hB0 : Below f w wr := by
        have h1 : Below f w (w.alloc (.cells (Array.replicate 64 (.int .i32 0)) 22)) := (Below.refl _ _).alloc (by omega) _
        have k := hT.gs
        rw [hf] at k
        exact ⟨k.os.trans h1.os, k.tape.trans h1.tape, k.output.trans h1.output, by rw [k.size]; exact h1.size, fun i hi => (k.block i (by omega)).trans (h1.block i hi)⟩
      rw [hf] at hT
      have HT := Lib.hid (And.intro hT.row (And.intro hB0 (And.intro hC hf)))
      clear hT hk hlt hB0 hC
      go_wp2_with (at_make; refine wpList_make_full _ rfl _ _ 41 rfl wr.heap.size 3 i0 (.int .i64 0) 1 Try.underlying41 HI.out.1 HI.out.2.1 HI.out.2.2.1 _ _ _ _ tl.size rfl rfl rfl rfl (by rw [HI.out.2.2.2]; omega) (by unfold maxLen; omega) (Nat.le_refl _) ?_; intro w2 hown hgrow)
      have r0 : Row w2 wr.heap.size 3 (tl.size * 1) (pv (upto 0)) := row_made (size := 1) rfl (by decide) _ (fun i _ => by
        rw [Nat.mod_one]; rfl) hown
      rw [Nat.mul_one] at r0
      have rC : Row w2 f 22 64 (cf C) := HT.out.1.grown hgrow (by simp)
      have hB2 : Below f w w2 := HT.out.2.1.grown hgrow (by omega) (fun k hk => by cases hk)
      rw [hg] at r0
      try rw [hg]
      have HR := Lib.hid (And.intro r0 (And.intro rC hB2))
      clear r0 rC hB2 hown hgrow hg
      go_loopw [13] (fun s13 wx => ∃ k : Nat, s13 = .int .i64 k ∧ k ≤ tl.size ∧ Row wx g 3 tl.size (pv (upto k)) ∧ Gs g w2 wx) (fun s13 _ => tl.size - (intOf s13).toNat)
      case atStart => exact ⟨0, rfl, by omega, HR.out.1, Gs.refl _ _⟩
      case round =>
        obtain ⟨k, rfl, hk, hrow, hgs⟩ := hrel
        by_cases hlt : k < tl.size
        · have hf1 := hrow.frozen k
          have hc1 := hrow.cell hlt
          have hl1 := hrow.lt
          have HX := Lib.hid (And.intro hrow hgs)
          clear hrow hgs
          go_wp2_with fail
          go_roundw
          case rel => exact ⟨k + 1, by go_num, by omega, (HX.out.1.set k _).congr fun j _ => upto_next k j, HX.out.2.set _ _⟩
          case measure => simp [intOf]; omega
        · obtain rfl : k = tl.size := by omega
          have hO : OI tl.data.toList C g w2 1 (List.range tl.size) wr := by
            refine ⟨by rw [size_len], ?_, by rw [size_len]; exact hrow.congr fun j hj => (by
              show Value.int .i64 ((upto tl.size j : Nat) : Int) = .int .i64 (((List.range tl.size)[j]! : Nat) : Int)
              unfold upto
              rw [if_pos hj, range_get _ _ hj]), hgs⟩
            obtain ⟨m, hm⟩ : ∃ m, tl.size = m + 1 := ⟨tl.size - 1, by omega⟩
            rw [hm, List.range_succ_eq_map]
            exact List.pairwise_singleton _ _
          have HO := Lib.hid hO
          clear hO hrow hgs hk hlt
          go_wp2_with fail
          go_loopw [14, 15, 16, 17] (fun s14 _ _ _ wx => ∃ (i : Nat) (o : List Nat), s14 = .int .i64 i ∧ 1 ≤ i ∧ i ≤ tl.size ∧ OI tl.data.toList C g w2 i o wx) (fun s14 _ _ _ _ => tl.size - (intOf s14).toNat)
          case atStart => exact ⟨1, _, rfl, by omega, by omega, HO.out⟩
          case round =>
            obtain ⟨i, o, rfl, hi1, hin, hO⟩ := hrel
            obtain ⟨wo, rfl⟩ : ∃ wo : World, wo = wr := ⟨_, rfl⟩
            have hTl := size_len tl
            by_cases hlt : i < tl.size
            · have hlt' : i < tl.data.toList.length := by omega
              have hxl := hO.lt hlt'
              obtain ⟨x, hx⟩ : ∃ x, o[i]! = x := ⟨_, rfl⟩
              have hcx := hO.row.cell hlt'
              have hcc : wo.cell? ⟨g, i, none⟩ = some (.int .i64 (x : Int)) := by rw [hcx]; show some (Value.int .i64 ((o[i]! : Nat) : Int)) = _; rw [hx]
              have hx64 : x < 64 := by omega
              have HO := Lib.hid hO
              have HX := Lib.hid hx
              clear hO hcx hx
              go_wp2_with fail
              go_loopw [16, 17] (fun s16 _ wx => ∃ p : Nat, s16 = .int .i64 ((p : Int) - 1) ∧ p ≤ i ∧ Row wx g 3 tl.data.toList.length (pv (gap o p i)) ∧ Gs g w2 wx ∧ ∀ k, p ≤ k → k < i → Ri tl.data.toList C o[i]! o[k]!) (fun s16 _ _ => (intOf s16 + 1).toNat)
              case atStart => exact ⟨i, rfl, by omega, HO.out.row.congr fun j _ => (by unfold pv; rw [gap_self]), HO.out.gs, fun k h1 h2 => by omega⟩
              case round =>
                obtain ⟨p, rfl, hp, hrow, hgs, hup⟩ := hrel
                have hfp := hrow.frozen p
                have hgl := hrow.lt
                have hcp : wr.cell? ⟨g, p, none⟩ = some (pv (gap o p i) p) := hrow.cell (by omega)
                cases p with
                | zero =>
                  have HP := Lib.hid (And.intro hrow (And.intro hgs hup))
                  clear hrow hgs hup
                  go_wp2_with fail
                  go_roundw
                  case rel => exact ⟨i + 1, _, by go_num, by omega, by omega, HO.out.close (p := 0) (by have := size_len tl; omega) (by omega) (HP.out.1) (HP.out.2.1) HP.out.2.2 (fun h => by omega) (by rw [HX.out])⟩
                  case measure => simp [intOf]; omega
                | succ p =>
                  rw [show (((p + 1 : Nat) : Int)) - 1 = (p : Int) by omega]
                  obtain ⟨y, hy⟩ : ∃ y, o[p]! = y := ⟨_, rfl⟩
                  have hyl := HO.out.lt (j := p) (by omega)
                  rw [hy] at hyl
                  have hy64 : y < 64 := by omega
                  have hcy : wr.cell? ⟨g, p, none⟩ = some (.int .i64 (y : Int)) := by
                    rw [hrow.cell (i := p) (by omega)]
                    show some (Value.int .i64 ((gap o (p + 1) i p : Nat) : Int)) = _
                    unfold gap
                    rw [if_neg (by omega), hy]
                  have rC : Row wr f 22 64 (cf C) := HR.out.2.1.gs hgs (by omega)
                  obtain ⟨a, ha⟩ : ∃ a, C y = a := ⟨_, rfl⟩
                  obtain ⟨b, hb⟩ : ∃ b, C x = b := ⟨_, rfl⟩
                  have hca : wr.cell? ⟨f, y, none⟩ = some (.int .i32 a) := by rw [rC.cell hy64, cf, ha]
                  have hcb : wr.cell? ⟨f, x, none⟩ = some (.int .i32 b) := by rw [rC.cell hx64, cf, hb]
                  have hP1 : ((p : Int)) < (tl.size : Int) := by omega
                  have hP2 : ((p : Int)) + 1 < (tl.size : Int) := by omega
                  have hyes : (b < a ∨ (a = b ∧ y < x)) → ltE (elT tl.data.toList C o[p + 1 - 1]!) (elT tl.data.toList C o[i]!) = true := fun h => by
                    rw [ltE_iff]
                    show C o[i]! < C o[p]! ∨ (C o[p]! = C o[i]! ∧ o[p]! < o[i]!)
                    rw [hy, HX.out, ha, hb]
                    exact h
                  have hno : ¬ (b < a ∨ (a = b ∧ y < x)) → Ri tl.data.toList C o[i]! o[p]! := fun h => by
                    unfold Ri
                    rw [ltE_not]
                    show ¬ (C o[i]! < C o[p]! ∨ (C o[p]! = C o[i]! ∧ o[p]! < o[i]!))
                    rw [hy, HX.out, ha, hb]
                    exact h
                  have HP := Lib.hid (And.intro hrow (And.intro hgs (And.intro hup (And.intro hyes (And.intro hno hy)))))
                  clear hrow hgs hup rC hyes hno hy ha hb hyl
                  by_cases h1 : b < a
                  · go_wp2_with fail
                    go_quiet (fail)
                    go_wp2_with fail
                    go_roundw
                    case rel => exact ⟨i + 1, _, by go_num, by omega, by omega, HO.out.close (p := p + 1) (by have := size_len tl; omega) (by omega) (HP.out.1.drewN nq) (HP.out.2.1.drewN nq) HP.out.2.2.1 (fun _ => HP.out.2.2.2.1 (.inl h1)) (by rw [HX.out])⟩
                    case measure => simp [intOf]; omega
                  · by_cases h2 : a = b
                    · subst h2
                      by_cases h3 : y < x
                      · go_wp2_with fail
                        go_quiet (fail)
                        go_wp2_with fail
                        go_roundw
                        case rel => exact ⟨i + 1, _, by go_num, by omega, by omega, HO.out.close (p := p + 1) (by have := size_len tl; omega) (by omega) (HP.out.1.drewN nq) (HP.out.2.1.drewN nq) HP.out.2.2.1 (fun _ => HP.out.2.2.2.1 (by first | exact .inr ⟨trivial, h3⟩ | exact .inr ⟨rfl, h3⟩ | simp [h3])) (by rw [HX.out])⟩
                        case measure => simp [intOf]; omega
                      · go_wp2_with fail
                        go_quiet (fail)
                        go_wp2_with fail
                        go_roundw
                        case rel => exact ⟨p, by rfl, by omega, ((HP.out.1.drewN nq).set (p + 1) _).congr fun j _ => (by have := gap_next o (p := p) (i := i) (by omega) j; rw [HP.out.2.2.2.2.2] at this; exact this), (HP.out.2.1.drewN nq).set _ _, fun k k1 k2 => by
                          by_cases e : k = p
                          · subst e; exact HP.out.2.2.2.2.1 (by omega)
                          · exact HP.out.2.2.1 k (by omega) k2⟩
                        case measure => simp [intOf] <;> omega
                    · have h4 : (a == b) = false := by simpa using h2
                      have HH := Lib.hid (And.intro h1 h2)
                      have h6 : decide (b < a) = false := by simp; omega
                      have h8 : decide (a = b) = false := by simp; omega
                      clear h1 h2
                      go_wp2_with fail
                      go_big_quiet (fail)
                      go_wp2_with fail
                      go_roundw
                      case rel => exact ⟨p, by rfl, by omega, ((HP.out.1.drewN nq).set (p + 1) _).congr fun j _ => (by have := gap_next o (p := p) (i := i) (by omega) j; rw [HP.out.2.2.2.2.2] at this; exact this), (HP.out.2.1.drewN nq).set _ _, fun k k1 k2 => by
                          by_cases e : k = p
                          · subst e; exact HP.out.2.2.2.2.1 (by have k7 := HH.out.1; have k8 := HH.out.2; omega)
                          · exact HP.out.2.2.1 k (by omega) k2⟩
                      case measure => simp [intOf] <;> omega
            · obtain rfl : i = tl.size := by omega
              have hord : Ordered tl.data.toList C o := ⟨hO.perm, by have := hO.srt; rwa [List.take_of_length_le (by rw [hO.length]; omega)] at this⟩
              have hB1 : Below f w wo := by
                have k := hO.gs
                have h1 := HR.out.2.2
                exact ⟨k.os.trans h1.os, k.tape.trans h1.tape, k.output.trans h1.output, by rw [k.size]; exact h1.size, fun i hi => (k.block i (by omega)).trans (h1.block i hi)⟩
              have hol := hO.length
              have hfl : f < wo.heap.size := Nat.lt_trans hfg hO.row.lt
              have HO := Lib.hid (And.intro hO (And.intro hord (And.intro hB1 hol)))
              clear hO hord hB1 hol hlt hi1 hin
              go_wp2_with fail
              have hTN := Lib.hid (tw_new wo rfl)
              go_loopw [21, 22, 106] (fun _ _ s106 wx => ∃ k : Nat, s106 = .int .i64 k ∧ k ≤ tl.size ∧ ShufRel tl.data.toList o wo.heap.size wo k wx) (fun _ _ s106 _ => tl.size - (intOf s106).toNat)
              case atStart => exact ⟨0, rfl, by omega, hTN.out⟩
              case round =>
                obtain ⟨k, rfl, hk, hT, hB⟩ := hrel
                by_cases hlt : k < tl.size
                · have hko : k < o.length := by rw [HO.out.2.2.2]; omega
                  have hil := HO.out.1.lt (j := k) (by omega)
                  have hn1 := tails_next tl.data.toList o hko
                  have hn2 := heads_next tl.data.toList o hko
                  obtain ⟨i, hi⟩ : ∃ i, o[k]! = i := ⟨_, rfl⟩
                  have hrow := HO.out.1.row.below hB HO.out.1.row.lt
                  have hci : wr.cell? ⟨g, k, none⟩ = some (.int .i64 (i : Int)) := by
                    rw [hrow.cell (i := k) (by omega)]
                    show some (Value.int .i64 ((o[k]! : Nat) : Int)) = _
                    rw [hi]
                  have hgl := hrow.lt
                  rw [hi] at hil hn1 hn2
                  have hit : i < tl.size := by omega
                  rw [at_get tl i hit] at hn1 hn2
                  have hl1 : (((o.take k).map (fun i => tl.data.toList[i]!)).filter fun c => !isDig c).length ≤ k := Nat.le_trans (List.length_filter_le _ _) (by rw [List.length_map, List.length_take]; omega)
                  have hl2 : ((o.take k).map (fun i => tl.data.toList[i]!)).length ≤ k := by rw [List.length_map, List.length_take]; omega
                  have hBs := hB.size
                  have HK := Lib.hid (And.intro hT (And.intro hB (And.intro hn1 (And.intro hn2 (And.intro hl1 hl2)))))
                  clear hT hB hn1 hn2 hl1 hl2 hi hko hrow
                  by_cases c1 : tl[i].toNat < 48
                  · have c1' : (tl[i].toNat : Int) < 48 := by omega
                    have hd : isDig tl[i] = false := by unfold isDig; simp; omega
                    have HD := Lib.hid hd
                    clear hd
                    go_wp2_with fail
                    refine (tw_one tl[i] _ rfl _ HK.out.1 (by have := HK.out.2.2.2.2.1; omega) (by omega)).mono ?_
                    rintro e w3 ⟨rfl, hT3, hB3⟩
                    have HK3 := Lib.hid (And.intro hT3 (HK.out.2.1.trans hB3))
                    clear hT3 hB3
                    go_wp2_with fail
                    refine (tw_two tl[i] _ rfl _ HK3.out.1 (by have := HK.out.2.2.2.2.2; omega) (by have := HK3.out.2.size; omega)).mono ?_
                    rintro e w4 ⟨rfl, hT4, hB4⟩
                    have HK4 := Lib.hid (And.intro hT4 (HK3.out.2.trans hB4))
                    clear hT4 hB4
                    go_wp2_with fail
                    go_roundw
                    case rel => exact ⟨k + 1, by go_num, by omega, by rw [HK.out.2.2.2.1, HK.out.2.2.1, if_neg (by rw [HD.out]; decide)]; exact HK4.out.1, HK4.out.2⟩
                    case measure => simp [intOf]; omega
                  · by_cases c2 : 57 < tl[i].toNat
                    · have c2' : (57 : Int) < (tl[i].toNat : Int) := by omega
                      have hd : isDig tl[i] = false := by unfold isDig; simp; omega
                      have HD := Lib.hid hd
                      clear hd
                      go_wp2_with fail
                      refine (tw_one tl[i] _ rfl _ HK.out.1 (by have := HK.out.2.2.2.2.1; omega) (by omega)).mono ?_
                      rintro e w3 ⟨rfl, hT3, hB3⟩
                      have HK3 := Lib.hid (And.intro hT3 (HK.out.2.1.trans hB3))
                      clear hT3 hB3
                      go_wp2_with fail
                      refine (tw_two tl[i] _ rfl _ HK3.out.1 (by have := HK.out.2.2.2.2.2; omega) (by have := HK3.out.2.size; omega)).mono ?_
                      rintro e w4 ⟨rfl, hT4, hB4⟩
                      have HK4 := Lib.hid (And.intro hT4 (HK3.out.2.trans hB4))
                      clear hT4 hB4
                      go_wp2_with fail
                      go_roundw
                      case rel => exact ⟨k + 1, by go_num, by omega, by rw [HK.out.2.2.2.1, HK.out.2.2.1, if_neg (by rw [HD.out]; decide)]; exact HK4.out.1, HK4.out.2⟩
                      case measure => simp [intOf]; omega
                    · have c1' : ¬ (tl[i].toNat : Int) < 48 := by omega
                      have c2' : ¬ (57 : Int) < (tl[i].toNat : Int) := by omega
                      have hd : isDig tl[i] = true := by unfold isDig; simp; omega
                      have HD := Lib.hid hd
                      clear hd
                      go_wp2_with fail
                      refine (tw_two tl[i] _ rfl _ HK.out.1 (by have := HK.out.2.2.2.2.2; omega) (by omega)).mono ?_
                      rintro e w4 ⟨rfl, hT4, hB4⟩
                      have HK4 := Lib.hid (And.intro hT4 (HK.out.2.1.trans hB4))
                      clear hT4 hB4
                      go_wp2_with fail
                      go_roundw
                      case rel => exact ⟨k + 1, by go_num, by omega, by rw [HK.out.2.2.2.1, HK.out.2.2.1, if_pos HD.out, List.append_nil]; exact HK4.out.1, HK4.out.2⟩
                      case measure => simp [intOf]; omega
                · obtain rfl : k = tl.size := by omega
                  have hBs := hB.size
                  rw [List.take_of_length_le (by rw [HO.out.2.2.2]; omega)] at hT
                  have hne := heads_ne HO.out.2.1.1 (by rw [size_len]; omega) HD0.out
                  obtain ⟨L2, hL2⟩ : ∃ L2, o.map (fun i => tl.data.toList[i]!) = L2 := ⟨_, rfl⟩
                  rw [hL2] at hT hne
                  obtain ⟨L1, hL1⟩ : ∃ L1, L2.filter (fun c => !isDig c) = L1 := ⟨_, rfl⟩
                  rw [hL1] at hT hne
                  have HK := Lib.hid (And.intro hT (And.intro hB (And.intro hne (And.intro hL1 hL2))))
                  clear hT hB hne hL1 hL2
                  go_wp2_with fail
                  refine (tw_str _ HK.out.1 HK.out.2.2.1).mono ?_
                  rintro e w5 ⟨rfl, hb5, hB5⟩
                  have HK5 := Lib.hid (And.intro hb5 (And.intro (HK.out.2.1.trans hB5) (Nat.le_trans hBs hB5.size)))
                  clear hB5 hb5
                  go_wp2_with fail
                  refine (Try.Builder_String_any wo.heap.size (wo.heap.size + 1) _ _ HK5.out.1 HK5.out.2.2).mono ?_
                  rintro e w6 ⟨rfl, hB6⟩
                  have HK6 := Lib.hid (HK5.out.2.1.trans hB6)
                  clear hB6
                  go_wp2_with fail
                  go_ret2
                  refine ⟨_, _, rfl, ⟨o, by rw [HT.out.2.2.1]; exact HO.out.2.1, (S_data L2).trans HK.out.2.2.2.2.symm, (S_data L1).trans (by rw [← HK.out.2.2.2.1, ← HK.out.2.2.2.2])⟩, ?_⟩
                  rw [hf]
                  exact HO.out.2.2.1.trans (HK6.out.mono (by omega))
end Go.Proofs.Ytmnoffiblcnjpaa
