/-
  The contract of validatePathTemplate: the parts of the slashed template, in memory of the call's own; conditions: the template is at most 1 MiB long.
-/
import Derived.Test.YtchgiafmbfdpdaaRepl
import Derived.Test.YtchgiafmbfdpdaaSpec
import Derived.Test.YtchgiafmbfdpdaaShelf
import Derived.Deep.QuietTactic
import Derived.BigQuiet
namespace Go.Proofs.Ytchgiafmbfdpdaa
open Go.RowKit

/-- Each backslash turned into a slash. -/
def slashed (l : List UInt8) : List UInt8 := l.map fun b => if b = 92 then 47 else b
theorem slashed_flat (l : List UInt8) : (l.flatMap fun b => if b = 92 then [47] else [b]) = slashed l := by
  unfold slashed
  induction l with
  | nil => rfl
  | cons b r ih =>
    rw [List.flatMap_cons, ih, List.map_cons]
    by_cases h : b = 92 <;> simp [h]
theorem slashed_length (l : List UInt8) : (slashed l).length = l.length := by simp [slashed]
def tpl (l : List UInt8) : List UInt8 := 46 :: 47 :: slashed l

/-- The cells of the parts. -/
def pc (ps : List (List UInt8 × Nat)) : List Value := ps.flatMap fun x => [.string (S x.1), .int .u8 (x.2 : Int)]
theorem pc_length (ps : List (List UInt8 × Nat)) : (pc ps).length = ps.length * 2 := by
  induction ps with
  | nil => rfl
  | cons x r ih =>
    have e : pc (x :: r) = [.string (S x.1), .int .u8 (x.2 : Int)] ++ pc r := rfl
    rw [e, List.length_append, ih, List.length_cons, List.length_cons, List.length_cons, List.length_nil]
    omega
theorem pc_append (a b : List (List UInt8 × Nat)) : pc (a ++ b) = pc a ++ pc b := by simp [pc]

def Parts (B : Nat) (v : Value) (ps : List (List UInt8 × Nat)) (W0 w : World) : Prop :=
  w.ownsRow B 36 2 v ps.length (pc ps) ∧ Below B W0 w ∧ B ≤ w.heap.size ∧ v ≠ .slice none 0 0

theorem info36 : (Try.prog.info? 36).map (fun i => (i.zero, i.size, i.bytes)) = some (some (.agg #[.string ⟨#[]⟩, .int .u8 0]), 2, 24) := by kernel_rfl

theorem parts_append {ops : Array Oper} {rest : List Oper} {o : Oper} {a : Act} {Q : Exit → Act → World → Prop} (hgd : o.guard = none) (s x : Operand)
    (ho : o.op = .call { callee := .builtin .append, args := #[s, x], argTypes := #[32, 32] })
    (B : Nat) (v : Value) (ps : List (List UInt8 × Nat)) (hs : a.eval s = v) (W0 w0 : World) (d : ByteArray) (p : Int) (q : Nat) (hq : p = (q : Int)) (hb : Parts B v ps W0 w0)
    (hx : a.eval x = .slice (some ⟨w0.heap.size, 0, none⟩) 1 1) (hlen : ps.length ≤ 16777216)
    (h : ∀ v' w', Parts B v' (ps ++ [(d.data.toList, q)]) W0 w' → wpList Try.prog ops Q rest (a.put o.dst v') w') : wpList Try.prog ops Q (o :: rest) a (w0.alloc (.cells #[.string d, .int .u8 p] 36)) := by
  obtain ⟨i0, hi0, hz0, hz1, hz2⟩ := info_parts info36
  obtain ⟨h1, h2, h3, h4⟩ := hb
  refine wpList_append_own _ hgd s x 32 ho B 36 i0 _ 2 24 Try.underlying32 hi0 hz0 hz1 hz2 rfl (by decide) v ps.length (pc ps) hs (h1.alloc _) ⟨w0.heap.size, 0, none⟩ 1 1 [.string d, .int .u8 p] hx rfl ?_ ?_ (by unfold maxLen; omega) (by omega) (Nat.le_trans h3 (by simp)) ?_
  · intro j u hj
    match j, hj with
    | 0, hj => simp at hj; subst hj; simp [Addr.add]
    | 1, hj => simp at hj; subst hj; simp [Addr.add]
    | (j + 2), hj => simp at hj
  · intro u hu; simp at hu; rcases hu with rfl | rfl <;> rfl
  · intro v' w' hown hg hnil
    refine h v' w' ⟨?_, (h2.alloc h3 _).grown hg (Nat.le_trans h3 (by simp)) (fun k hk => (h1.lt k hk).1), Nat.le_trans h3 (Nat.le_trans (by simp) hg.size), fun e => h4 (hnil.1 e).1⟩
    rw [pc_append, List.length_append]
    have e : pc [(d.data.toList, q)] = [.string d, .int .u8 p] := by
      show [Value.string (S d.data.toList), Value.int .u8 (q : Int)] = _
      rw [S_L, hq]
    rw [e]
    exact hown

theorem indexByte_val (s : ByteArray) (i : Int) (w : World) (h : Lib.indexByte s.data.toList 91 = i) :
    Calls Try.prog 19 #[.string s, .int .u8 91] w fun e w' => e = .returned (.int .i64 i) ∧ w = w' := by
  refine (Try.strings_IndexByte s 91 w).mono fun e w' hh => ?_
  have e1 : Lib.indexByte s.data.toList (91 : Int).toNat.toUInt8 = i := h
  rw [e1] at hh
  exact ⟨hh.1, hh.2.symm⟩
theorem hasPrefix_val (s p : ByteArray) (r : Bool) (w : World) (h : Lib.hasPrefix s.data.toList p.data.toList = r) :
    Calls Try.prog 20 #[.string s, .string p] w fun e w' => e = .returned (.bool r) ∧ w = w' := by
  refine (Try.strings_HasPrefix s p w).mono fun e w' hh => ?_
  rw [h] at hh
  exact ⟨hh.1, hh.2.symm⟩

theorem Parts.drewN {B : Nat} {v : Value} {ps : List (List UInt8 × Nat)} {W0 w : World} (h : Parts B v ps W0 w) (n : Nat) : Parts B v ps W0 (w.drewN n) :=
  ⟨h.1, ⟨h.2.1.os, h.2.1.tape, h.2.1.output, h.2.1.size, h.2.1.block⟩, h.2.2.1, h.2.2.2⟩

theorem tail_data (t : ByteArray) (m : Nat) : (t.extract m t.size).data.toList = t.data.toList.drop m := Lib.extract_to_end t m

theorem next_parts (t : ByteArray) (k j p n : Nat) (done : List (List UInt8 × Nat)) (full : List (List UInt8 × Nat)) (hk : k < t.size) (hi : Lib.indexByte (t.data.toList.drop k) 91 = (j : Int))
    (hr : done ++ split t.size t.data.toList k = full) (ht : tokAt (t.data.toList.drop (k + j)) = some p) (hn : (tok p).length = n) (hl : done.length + t.size ≤ 1048578) :
    (done ++ [((t.extract 0 (k + j)).data.toList, p)]).length + (t.extract (k + j + n) t.size).size ≤ 1048578 ∧
    (done ++ [((t.extract 0 (k + j)).data.toList, p)]) ++ split (t.extract (k + j + n) t.size).size (t.extract (k + j + n) t.size).data.toList 0 = full ∧
    (t.extract (k + j + n) t.size).size - 0 < t.size - k := by
  have hpl := tok_len (tokAt_some ht).1
  obtain ⟨_, r, hrr⟩ := tokAt_some ht
  have hlen := congrArg List.length hrr
  rw [List.length_drop, List.length_append, ← Lib.size_eq] at hlen
  have e1 : (t.extract (k + j + n) t.size).size = t.size - (k + j + n) := by simp
  refine ⟨?_, ?_, ?_⟩
  · rw [e1, List.length_append, List.length_singleton]; omega
  · rw [← hr, split_tok (n := t.size) (by rw [← Lib.size_eq]; exact hk) (by rw [← Lib.size_eq]; omega) hi ht, Lib.size_eq (t.extract _ _), tail_data, hn, Lib.extract_data, List.drop_zero, Nat.sub_zero, List.append_assoc]
    rfl
  · omega

theorem next_skip (t : ByteArray) (k j : Nat) (hk : k < t.size) (hi : Lib.indexByte (t.data.toList.drop k) 91 = (j : Int)) (ht : tokAt (t.data.toList.drop (k + j)) = none) :
    split t.size t.data.toList k = split t.size t.data.toList (k + j + 1) :=
  split_skip (by rw [← Lib.size_eq]; exact hk) (by rw [← Lib.size_eq]; omega) hi ht

theorem pre_val (t : ByteArray) (m p : Nat) (r : Bool) (h : (tok p).isPrefixOf (t.data.toList.drop m) = r) : Lib.hasPrefix (t.extract m t.size).data.toList (tok p) = r := by
  unfold Lib.hasPrefix
  rw [tail_data]
  exact h

theorem hasPrefix_t1 (t : ByteArray) (m : Nat) (r : Bool) (w : World) (h : (tok 1).isPrefixOf (t.data.toList.drop m) = r) :
    Calls Try.prog 20 #[.string (t.extract m t.size), .string ⟨#[91, 100, 105, 114, 93]⟩] w fun e w' => e = .returned (.bool r) ∧ w = w' :=
  hasPrefix_val _ _ r w (pre_val t m 1 r h)
theorem hasPrefix_t2 (t : ByteArray) (m : Nat) (r : Bool) (w : World) (h : (tok 2).isPrefixOf (t.data.toList.drop m) = r) :
    Calls Try.prog 20 #[.string (t.extract m t.size), .string ⟨#[91, 110, 97, 109, 101, 93]⟩] w fun e w' => e = .returned (.bool r) ∧ w = w' :=
  hasPrefix_val _ _ r w (pre_val t m 2 r h)
theorem hasPrefix_t3 (t : ByteArray) (m : Nat) (r : Bool) (w : World) (h : (tok 3).isPrefixOf (t.data.toList.drop m) = r) :
    Calls Try.prog 20 #[.string (t.extract m t.size), .string ⟨#[91, 104, 97, 115, 104, 93]⟩] w fun e w' => e = .returned (.bool r) ∧ w = w' :=
  hasPrefix_val _ _ r w (pre_val t m 3 r h)
theorem hasPrefix_t4 (t : ByteArray) (m : Nat) (r : Bool) (w : World) (h : (tok 4).isPrefixOf (t.data.toList.drop m) = r) :
    Calls Try.prog 20 #[.string (t.extract m t.size), .string ⟨#[91, 101, 120, 116, 93]⟩] w fun e w' => e = .returned (.bool r) ∧ w = w' :=
  hasPrefix_val _ _ r w (pre_val t m 4 r h)

/-- What the scan leaves. -/
def ValPost (l : List UInt8) (w : World) (e : Ending) (w' : World) : Prop :=
  ∃ v, e = .returned v ∧ Parts w.heap.size v (parts (tpl l)) w w'

set_option maxHeartbeats 1000000 in
theorem val_some (s : ByteArray) (w : World) (h0 : s.toList.isEmpty = false) (hs : s.size ≤ 1048576) :
    Calls Try.prog 12 #[.string s] w (ValPost s.data.toList w) := by
  have h1 : s.size * ((ByteArray.mk #[47]).size + 1) ≤ 1099511627776 := by show s.size * 2 ≤ _; omega
  have h2 := replaceAll_any s ⟨#[92]⟩ ⟨#[47]⟩ w (by decide) (by decide) h1 (by decide)
  have e0 : repl (ByteArray.mk #[92]).data.toList (ByteArray.mk #[47]).data.toList s.size s.data.toList = slashed s.data.toList := by
    rw [← slashed_flat]
    exact repl_one 92 [47] s.size _ (by rw [Lib.size_eq]; exact Nat.le_refl _)
  rw [e0] at h2
  have HC := Lib.hid h2
  clear h1 h2 e0
  have hadd := run_add_S (P := Try.prog) ⟨#[46, 47]⟩ (S (slashed s.data.toList)) (by rw [S_size, slashed_length, ← Lib.size_eq]; show 2 + _ ≤ _; omega)
  rw [S_data] at hadd
  have e1 : (ByteArray.mk #[46, 47]).data.toList ++ slashed s.data.toList = tpl s.data.toList := rfl
  rw [e1] at hadd
  have htl : (tpl s.data.toList).length ≤ 1048578 := by
    unfold tpl
    rw [List.length_cons, List.length_cons, slashed_length, ← Lib.size_eq]
    omega
  obtain ⟨i0, hi0, hz0, hz1, hz2⟩ := info_parts info36
  have HI := Lib.hid (And.intro hi0 (And.intro hz0 (And.intro hz1 hz2)))
  clear hi0 hz0 hz1 hz2 e1
  go_enter Try.func12, Try.ntmps12
  go_wp2_with fail
  refine HC.out.mono ?_
  rintro e w1 ⟨rfl, hb1⟩
  have hsz := hb1.size
  go_wp2_with (at_make; refine wpList_make_own _ rfl _ _ 32 rfl w.heap.size 36 i0 (.agg #[.string ⟨#[]⟩, .int .u8 0]) 2 Try.underlying32 HI.out.1 HI.out.2.1 HI.out.2.2.1 _ _ _ 4 rfl rfl rfl (by rw [HI.out.2.2.2]; decide) (by unfold maxLen; omega) hsz ?_; intro w2 hown hgrow)
  have hp : Parts w.heap.size (.slice (some ⟨w1.heap.size, 0, none⟩) 0 4) [] w w2 := ⟨hown, hb1.grown hgrow hsz (fun k hk => by cases hk), Nat.le_trans hsz hgrow.size, by simp⟩
  clear hown hgrow hb1 hsz HC
  go_loopw [0, 3, 4] (fun p v i wr => ∃ (t : ByteArray) (k : Nat) (done : List (List UInt8 × Nat)), p = .string t ∧ i = .int .i64 k ∧ Parts w.heap.size v done w wr ∧ k ≤ t.size ∧ done.length + t.size ≤ 1048578 ∧ done ++ split t.size t.data.toList k = parts (tpl s.data.toList)) (fun p _ i _ => match p with | .string t => t.size - (intOf i).toNat | _ => 0)
  case atStart =>
    refine ⟨S (tpl s.data.toList), 0, [], rfl, rfl, hp, Nat.zero_le _, ?_, ?_⟩
    · rw [S_size]; simpa using htl
    · rw [S_size, S_data]
      exact split_fuel _ _ _ _ (by omega) (by omega)
  case round =>
    clear hp hadd htl
    obtain ⟨t, k, done, rfl, rfl, hp, hk, hl, hr⟩ := hrel
    have HR := Lib.hid hr
    clear hr
    by_cases hlt : k < t.size
    · have hltl : k < t.data.toList.length := by rw [← Lib.size_eq]; exact hlt
      rcases index_spec 91 (t.data.toList.drop k) with ⟨hi, hnot⟩ | ⟨a, b, hab, hna, hi⟩
      · have hiv : Lib.indexByte (t.extract k t.size).data.toList 91 = -1 := by rw [Lib.extract_to_end]; exact hi
        have HV := Lib.hid hiv
        have HF := Lib.hid (split_none (n := t.size) hltl hi)
        clear hi hiv hnot
        go_wp2_with (first | (go_at_call 19; refine (indexByte_val _ (-1) _ HV.out).mono ?_; rintro e w' ⟨rfl, rfl⟩) | (at_builtin; refine parts_append rfl (.tmp 69) (.tmp 72) rfl w.heap.size _ done rfl w _ t 0 0 rfl hp rfl (by omega) ?_; intro v' w' hp'; clear hp))
        go_ret
        refine ⟨v', rfl, ?_⟩
        rw [← HR.out, HF.out]
        exact hp'
      · have hj : k + a.length < t.size := by
          have := congrArg List.length hab
          rw [List.length_drop, List.length_append, List.length_cons, ← Lib.size_eq] at this
          omega
        have hiv : Lib.indexByte (t.extract k t.size).data.toList 91 = (a.length : Int) := by rw [Lib.extract_to_end]; exact hi
        have HV := Lib.hid hiv
        have HI2 := Lib.hid hi
        generalize hal : a.length = j at *
        clear hiv hi hab hna hal
        go_wp2_with (first | (go_at_call 19; refine (indexByte_val _ (j : Int) _ HV.out).mono ?_; rintro e w' ⟨rfl, rfl⟩))
        go_quiet (fail)
        replace hp := hp.drewN nq
        generalize wr.drewN nq = wq at *
        by_cases c1 : (tok 1).isPrefixOf (t.data.toList.drop (k + j)) = true
        · have ht : tokAt (t.data.toList.drop (k + j)) = some 1 := by unfold tokAt;  rw [if_pos c1]
          have P1 := Lib.hid c1
          obtain ⟨n1, n2, n3⟩ := next_parts t k j 1 5 done _ hlt HI2.out HR.out ht rfl hl
          have hfit : k + j + 5 ≤ t.size := by
            obtain ⟨_, r, hrr⟩ := tokAt_some ht
            have hlen := congrArg List.length hrr
            rw [List.length_drop, List.length_append, ← Lib.size_eq] at hlen
            have : (tok 1).length = 5 := rfl
            omega
          have N2 := Lib.hid n2
          clear n2 ht c1
          go_wp2_with (first | (go_at_call 20; ((with_reducible refine (hasPrefix_t1 t (k + j) true _ P1.out).mono ?_); rintro e w' ⟨rfl, rfl⟩)) | (at_builtin; refine parts_append rfl (.tmp 56) (.tmp 60) rfl w.heap.size _ done rfl w _ (t.extract 0 (k + j)) 1 1 rfl hp rfl (by omega) ?_; intro v' w' hp'; clear hp))
          exact ⟨⟨t.extract (k + j + 5) t.size, 0, _, by go_num, rfl, hp', Nat.zero_le _, n1, N2.out⟩, by simp [intOf]; omega⟩
        by_cases c2 : (tok 2).isPrefixOf (t.data.toList.drop (k + j)) = true
        · have ht : tokAt (t.data.toList.drop (k + j)) = some 2 := by unfold tokAt; rw [if_neg c1]; rw [if_pos c2]
          have P1 := Lib.hid (Bool.eq_false_iff.2 c1)
          have P2 := Lib.hid c2
          obtain ⟨n1, n2, n3⟩ := next_parts t k j 2 6 done _ hlt HI2.out HR.out ht rfl hl
          have hfit : k + j + 6 ≤ t.size := by
            obtain ⟨_, r, hrr⟩ := tokAt_some ht
            have hlen := congrArg List.length hrr
            rw [List.length_drop, List.length_append, ← Lib.size_eq] at hlen
            have : (tok 2).length = 6 := rfl
            omega
          have N2 := Lib.hid n2
          clear n2 ht c1 c2
          go_wp2_with (first | (go_at_call 20; ((with_reducible refine (hasPrefix_t1 t (k + j) false _ P1.out).mono ?_); rintro e w' ⟨rfl, rfl⟩)) | (go_at_call 20; ((with_reducible refine (hasPrefix_t2 t (k + j) true _ P2.out).mono ?_); rintro e w' ⟨rfl, rfl⟩)) | (at_builtin; refine parts_append rfl (.tmp 56) (.tmp 60) rfl w.heap.size _ done rfl w _ (t.extract 0 (k + j)) 2 2 rfl hp rfl (by omega) ?_; intro v' w' hp'; clear hp))
          exact ⟨⟨t.extract (k + j + 6) t.size, 0, _, by go_num, rfl, hp', Nat.zero_le _, n1, N2.out⟩, by simp [intOf]; omega⟩
        by_cases c3 : (tok 3).isPrefixOf (t.data.toList.drop (k + j)) = true
        · have ht : tokAt (t.data.toList.drop (k + j)) = some 3 := by unfold tokAt; rw [if_neg c1]; rw [if_neg c2]; rw [if_pos c3]
          have P1 := Lib.hid (Bool.eq_false_iff.2 c1)
          have P2 := Lib.hid (Bool.eq_false_iff.2 c2)
          have P3 := Lib.hid c3
          obtain ⟨n1, n2, n3⟩ := next_parts t k j 3 6 done _ hlt HI2.out HR.out ht rfl hl
          have hfit : k + j + 6 ≤ t.size := by
            obtain ⟨_, r, hrr⟩ := tokAt_some ht
            have hlen := congrArg List.length hrr
            rw [List.length_drop, List.length_append, ← Lib.size_eq] at hlen
            have : (tok 3).length = 6 := rfl
            omega
          have N2 := Lib.hid n2
          clear n2 ht c1 c2 c3
          go_wp2_with (first | (go_at_call 20; ((with_reducible refine (hasPrefix_t1 t (k + j) false _ P1.out).mono ?_); rintro e w' ⟨rfl, rfl⟩)) | (go_at_call 20; ((with_reducible refine (hasPrefix_t2 t (k + j) false _ P2.out).mono ?_); rintro e w' ⟨rfl, rfl⟩)) | (go_at_call 20; ((with_reducible refine (hasPrefix_t3 t (k + j) true _ P3.out).mono ?_); rintro e w' ⟨rfl, rfl⟩)) | (at_builtin; refine parts_append rfl (.tmp 56) (.tmp 60) rfl w.heap.size _ done rfl w _ (t.extract 0 (k + j)) 3 3 rfl hp rfl (by omega) ?_; intro v' w' hp'; clear hp))
          exact ⟨⟨t.extract (k + j + 6) t.size, 0, _, by go_num, rfl, hp', Nat.zero_le _, n1, N2.out⟩, by simp [intOf]; omega⟩
        by_cases c4 : (tok 4).isPrefixOf (t.data.toList.drop (k + j)) = true
        · have ht : tokAt (t.data.toList.drop (k + j)) = some 4 := by unfold tokAt; rw [if_neg c1]; rw [if_neg c2]; rw [if_neg c3]; rw [if_pos c4]
          have P1 := Lib.hid (Bool.eq_false_iff.2 c1)
          have P2 := Lib.hid (Bool.eq_false_iff.2 c2)
          have P3 := Lib.hid (Bool.eq_false_iff.2 c3)
          have P4 := Lib.hid c4
          obtain ⟨n1, n2, n3⟩ := next_parts t k j 4 5 done _ hlt HI2.out HR.out ht rfl hl
          have hfit : k + j + 5 ≤ t.size := by
            obtain ⟨_, r, hrr⟩ := tokAt_some ht
            have hlen := congrArg List.length hrr
            rw [List.length_drop, List.length_append, ← Lib.size_eq] at hlen
            have : (tok 4).length = 5 := rfl
            omega
          have N2 := Lib.hid n2
          clear n2 ht c1 c2 c3 c4
          go_wp2_with (first | (go_at_call 20; ((with_reducible refine (hasPrefix_t1 t (k + j) false _ P1.out).mono ?_); rintro e w' ⟨rfl, rfl⟩)) | (go_at_call 20; ((with_reducible refine (hasPrefix_t2 t (k + j) false _ P2.out).mono ?_); rintro e w' ⟨rfl, rfl⟩)) | (go_at_call 20; ((with_reducible refine (hasPrefix_t3 t (k + j) false _ P3.out).mono ?_); rintro e w' ⟨rfl, rfl⟩)) | (go_at_call 20; ((with_reducible refine (hasPrefix_t4 t (k + j) true _ P4.out).mono ?_); rintro e w' ⟨rfl, rfl⟩)) | (at_builtin; refine parts_append rfl (.tmp 56) (.tmp 60) rfl w.heap.size _ done rfl w _ (t.extract 0 (k + j)) 4 4 rfl hp rfl (by omega) ?_; intro v' w' hp'; clear hp))
          exact ⟨⟨t.extract (k + j + 5) t.size, 0, _, by go_num, rfl, hp', Nat.zero_le _, n1, N2.out⟩, by simp [intOf]; omega⟩
        have ht : tokAt (t.data.toList.drop (k + j)) = none := by unfold tokAt; rw [if_neg c1, if_neg c2, if_neg c3, if_neg c4]
        have P1 := Lib.hid (Bool.eq_false_iff.2 c1)
        have P2 := Lib.hid (Bool.eq_false_iff.2 c2)
        have P3 := Lib.hid (Bool.eq_false_iff.2 c3)
        have P4 := Lib.hid (Bool.eq_false_iff.2 c4)
        have NS := Lib.hid (next_skip t k j hlt HI2.out ht)
        clear ht c1 c2 c3 c4
        go_wp2_with (first | (go_at_call 20; ((with_reducible refine (hasPrefix_t1 t (k + j) false _ P1.out).mono ?_); rintro e w' ⟨rfl, rfl⟩)) | (go_at_call 20; ((with_reducible refine (hasPrefix_t2 t (k + j) false _ P2.out).mono ?_); rintro e w' ⟨rfl, rfl⟩)) | (go_at_call 20; ((with_reducible refine (hasPrefix_t3 t (k + j) false _ P3.out).mono ?_); rintro e w' ⟨rfl, rfl⟩)) | (go_at_call 20; ((with_reducible refine (hasPrefix_t4 t (k + j) false _ P4.out).mono ?_); rintro e w' ⟨rfl, rfl⟩)))
        exact ⟨⟨t, k + j + 1, done, rfl, by go_num, hp, by omega, hl, by rw [← NS.out]; exact HR.out⟩, by simp [intOf]; omega⟩
    · have HF := Lib.hid (split_end (n := t.size) (tpl := t.data.toList) (s := k) (by rw [← Lib.size_eq]; omega))
      go_wp2
      go_ret
      refine ⟨_, rfl, ?_⟩
      rw [← HR.out, HF.out, List.append_nil]
      exact hp

end Go.Proofs.Ytchgiafmbfdpdaa
