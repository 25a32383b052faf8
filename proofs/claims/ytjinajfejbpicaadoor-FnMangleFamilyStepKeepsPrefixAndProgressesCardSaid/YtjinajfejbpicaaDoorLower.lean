/-
  Lowering a text and turning its backslashes into slashes is idempotent and leaves no backslash; no program in sight (no conditions).
-/
import Derived.Lib.MapLaws
import Derived.Shelf.Strings.CaseAny
namespace Go.Proofs.YtjinajfejbpicaaDoor
open Go.RowKit Go.Lib

def Valid (r : Int) : Prop := 0 ≤ r ∧ r ≤ 1114111 ∧ ¬ (55296 ≤ r ∧ r ≤ 57343)
instance (r : Int) : Decidable (Valid r) := by unfold Valid; exact inferInstance

/-- A row of the table: what it turns is valid and is not turned again. -/
def okRow (x : CaseRow) : Bool := decide (x.delta 1 = 0) || (List.range (x.2.1 + 1 - x.1)).all fun k => decide (Valid (toLowerU ((x.1 + k : Nat) : Int))) && decide (toLowerU (toLowerU ((x.1 + k : Nat) : Int)) = toLowerU ((x.1 + k : Nat) : Int))
set_option maxRecDepth 1000000 in
theorem rows_ok : caseT.all okRow = true := by decide +kernel

theorem low_ascii : ∀ k : Fin 128, toLowerU ((k.val : Nat) : Int) ≤ 127 ∧ 0 ≤ toLowerU ((k.val : Nat) : Int) ∧ toLowerU (toLowerU ((k.val : Nat) : Int)) = toLowerU ((k.val : Nat) : Int) := by decide +kernel

theorem lower_ok (r : Int) (hv : Valid r) : Valid (toLowerU r) ∧ toLowerU (toLowerU r) = toLowerU r := by
  by_cases h7 : r ≤ 127
  · have h := low_ascii ⟨r.toNat, by have := hv.1; omega⟩
    have e : ((r.toNat : Nat) : Int) = r := by have := hv.1; omega
    simp only [e] at h
    exact ⟨⟨h.2.1, by omega, by omega⟩, h.2.2⟩
  · have hu : toLowerU r = toR caseA 1 r := by unfold toLowerU; rw [if_neg h7]
    cases hi : lookupIdx caseA r (caseA.size + 1) 0 caseA.size with
    | none =>
      have e : toLowerU r = r := by rw [hu]; unfold toR lookupGo; rw [hi]; rfl
      rw [e]
      exact ⟨hv, e⟩
    | some i =>
      obtain ⟨hil, hlo, hhi⟩ := lookupIdx_some caseA r _ _ _ i hi
      have e : toLowerU r = convertR 1 r (caseA.getD i (0, 0, 0, 0, 0)) := by rw [hu]; unfold toR lookupGo; rw [hi]; rfl
      have hmem : okRow (caseA.getD i (0, 0, 0, 0, 0)) = true := by
        have hil' : i < caseT.length := by simpa [caseA] using hil
        have : caseA.getD i (0, 0, 0, 0, 0) = caseT[i] := by simp [caseA, Array.getD, hil']
        rw [this]
        exact List.all_eq_true.1 rows_ok _ (List.getElem_mem hil')
      generalize caseA.getD i (0, 0, 0, 0, 0) = x at *
      unfold okRow at hmem
      rw [Bool.or_eq_true] at hmem
      rcases hmem with h0 | h0
      · have h0 := of_decide_eq_true h0
        have e2 : toLowerU r = r := by
          rw [e]
          unfold convertR
          rw [h0, if_neg (by decide), Int.add_zero]
        rw [e2]
        exact ⟨hv, e2⟩
      · have hk := List.all_eq_true.1 h0 (r.toNat - x.1) (List.mem_range.2 (by omega))
        rw [Bool.and_eq_true] at hk
        have er : ((x.1 + (r.toNat - x.1) : Nat) : Int) = r := by omega
        rw [er] at hk
        exact ⟨of_decide_eq_true hk.1, of_decide_eq_true hk.2⟩

theorem byte_toNat (z : Int) (h0 : 0 ≤ z) (h1 : z < 256) : z.toNat.toUInt8.toNat = z.toNat := by
  rw [Nat.toUInt8_eq, UInt8.toNat_ofNat']
  omega

theorem decode_encode (r : Int) (hv : Valid r) (t : List UInt8) : decodeL (encodeRune r ++ t) = (r.toNat, (encodeRune r).length) := by
  obtain ⟨h0, h1, h2⟩ := hv
  obtain ⟨n, rfl⟩ : ∃ n : Nat, r = (n : Int) := ⟨r.toNat, by omega⟩
  rw [decodeL_N]
  by_cases c1 : n ≤ 127
  · have e : encodeRune (n : Int) = [n.toUInt8] := by unfold encodeRune; rw [encodeRuneZ_one (by omega) (by omega)]; rfl
    have b0 : n.toUInt8.toNat = n := by rw [Nat.toUInt8_eq, UInt8.toNat_ofNat']; omega
    rw [e]
    simp only [List.cons_append, List.nil_append, List.getD_cons_zero]
    unfold decodeN
    rw [b0, if_pos (by omega)]
    rfl
  by_cases c2 : n ≤ 2047
  · have e : encodeRune (n : Int) = [(192 + n / 64).toUInt8, (128 + n % 64).toUInt8] := by unfold encodeRune; rw [encodeRuneZ_two (by omega) (by omega)]; rfl
    have b0 : (192 + n / 64).toUInt8.toNat = 192 + n / 64 := by rw [Nat.toUInt8_eq, UInt8.toNat_ofNat']; omega
    have b1 : (128 + n % 64).toUInt8.toNat = 128 + n % 64 := by rw [Nat.toUInt8_eq, UInt8.toNat_ofNat']; omega
    rw [e]
    simp only [List.cons_append, List.nil_append, List.getD_cons_zero, List.getD_cons_succ, List.length_cons]
    unfold decodeN
    rw [b0, b1, if_neg (by omega), if_pos (by omega), if_pos (by omega)]
    show (_, 2) = (_, 2)
    rw [show (192 + n / 64) % 32 * 64 + (128 + n % 64) % 64 = n by omega]
    rfl
  by_cases c3 : n ≤ 65535
  · have e : encodeRune (n : Int) = [(224 + n / 4096).toUInt8, (128 + n / 64 % 64).toUInt8, (128 + n % 64).toUInt8] := by unfold encodeRune; rw [encodeRuneZ_three (by omega)]; rfl
    have b0 : (224 + n / 4096).toUInt8.toNat = 224 + n / 4096 := by rw [Nat.toUInt8_eq, UInt8.toNat_ofNat']; omega
    have b1 : (128 + n / 64 % 64).toUInt8.toNat = 128 + n / 64 % 64 := by rw [Nat.toUInt8_eq, UInt8.toNat_ofNat']; omega
    have b2 : (128 + n % 64).toUInt8.toNat = 128 + n % 64 := by rw [Nat.toUInt8_eq, UInt8.toNat_ofNat']; omega
    rw [e]
    simp only [List.cons_append, List.nil_append, List.getD_cons_zero, List.getD_cons_succ, List.length_cons]
    unfold decodeN
    rw [b0, b1, b2, if_neg (by omega), if_neg (by omega), if_pos (by omega), if_pos (by omega)]
    show (_, 3) = (_, 3)
    rw [show (224 + n / 4096) % 16 * 4096 + (128 + n / 64 % 64) % 64 * 64 + (128 + n % 64) % 64 = n by omega]
    rfl
  · have e : encodeRune (n : Int) = [(240 + n / 262144).toUInt8, (128 + n / 4096 % 64).toUInt8, (128 + n / 64 % 64).toUInt8, (128 + n % 64).toUInt8] := by unfold encodeRune; rw [encodeRuneZ_four (by omega) (by omega)]; rfl
    have b0 : (240 + n / 262144).toUInt8.toNat = 240 + n / 262144 := by rw [Nat.toUInt8_eq, UInt8.toNat_ofNat']; omega
    have b1 : (128 + n / 4096 % 64).toUInt8.toNat = 128 + n / 4096 % 64 := by rw [Nat.toUInt8_eq, UInt8.toNat_ofNat']; omega
    have b2 : (128 + n / 64 % 64).toUInt8.toNat = 128 + n / 64 % 64 := by rw [Nat.toUInt8_eq, UInt8.toNat_ofNat']; omega
    have b3 : (128 + n % 64).toUInt8.toNat = 128 + n % 64 := by rw [Nat.toUInt8_eq, UInt8.toNat_ofNat']; omega
    rw [e]
    simp only [List.cons_append, List.nil_append, List.getD_cons_zero, List.getD_cons_succ, List.length_cons]
    unfold decodeN
    rw [b0, b1, b2, b3, if_neg (by omega), if_neg (by omega), if_neg (by omega), if_pos (by omega), if_pos (by omega)]
    show (_, 4) = (_, 4)
    rw [show (240 + n / 262144) % 8 * 262144 + (128 + n / 4096 % 64) % 64 * 4096 + (128 + n / 64 % 64) % 64 * 64 + (128 + n % 64) % 64 = n by omega]
    rfl

theorem encode_ne (r : Int) : encodeRune r ≠ [] := by
  intro h
  have := (encodeRuneZ_length r).1
  have h2 := congrArg List.length h
  simp [encodeRune] at h2
  rw [h2] at this
  simp at this

def outOf (f : Int → Int) (r : Int) : List UInt8 := if 0 ≤ f r then encodeRune (f r) else []
theorem mapD_encode (f : Int → Int) : ∀ rs : List Int, (∀ r ∈ rs, Valid r) → mapD f (rs.flatMap encodeRune) = rs.flatMap (outOf f)
  | [], _ => rfl
  | r :: rs, h => by
    have hv := h r List.mem_cons_self
    have ih := mapD_encode f rs fun x hx => h x (List.mem_cons_of_mem _ hx)
    rw [List.flatMap_cons, List.flatMap_cons, mapD_step f _ (by intro e; exact encode_ne r (List.append_eq_nil_iff.1 e).1), decode_encode r hv]
    dsimp only
    rw [show ((r.toNat : Nat) : Int) = r by have := hv.1; omega, List.drop_left, ih]
    rfl

theorem decode_valid (l : List UInt8) : Valid ((decodeL l).1 : Nat) := by
  rw [decodeL_N]
  have k0 := (l.getD 0 0).toNat_lt
  have k1 := (l.getD 1 0).toNat_lt
  have k2 := (l.getD 2 0).toNat_lt
  have k3 := (l.getD 3 0).toNat_lt
  unfold Valid
  rcases decodeN_shape l.length (l.getD 0 0).toNat (l.getD 1 0).toNat (l.getD 2 0).toNat (l.getD 3 0).toNat with ⟨c, e⟩ | ⟨c1, c2, c3, cv, e⟩ | ⟨c1, c2, c3, c4, cv, cs, e⟩ | ⟨c1, c2, c3, c4, c5, cv, cw, e⟩ | e
  all_goals (rw [e]; dsimp only; omega)

theorem runes_of : ∀ (n : Nat) (l : List UInt8), l.length ≤ n → ∃ rs : List Int, (∀ r ∈ rs, Valid r) ∧ ∀ f, mapD f l = rs.flatMap (outOf f)
  | 0, l, h => by
    obtain rfl : l = [] := List.eq_nil_of_length_eq_zero (by omega)
    exact ⟨[], by simp, fun f => rfl⟩
  | n + 1, l, h => by
    by_cases hne : l = []
    · subst hne
      exact ⟨[], by simp, fun f => rfl⟩
    · have hw := decodeL_width l
      have hl : 0 < l.length := List.length_pos_iff.2 hne
      obtain ⟨rs, h1, h2⟩ := runes_of n (l.drop (decodeL l).2) (by rw [List.length_drop]; omega)
      refine ⟨((decodeL l).1 : Nat) :: rs, ?_, fun f => ?_⟩
      · intro r hr
        rcases List.mem_cons.1 hr with rfl | hr
        · exact decode_valid l
        · exact h1 r hr
      · rw [mapD_step f l hne, h2, List.flatMap_cons]
        rfl

def sub92 (l : List UInt8) : List UInt8 := l.map fun b => if b = 92 then 47 else b
def canon (l : List UInt8) : List UInt8 := sub92 (toLowerD l)
def fix92 (r : Int) : Int := if r = 92 then 47 else r

theorem sub92_same {l : List UInt8} (h : ∀ b ∈ l, b ≠ 92) : sub92 l = l := by
  unfold sub92
  conv => rhs; rw [← List.map_id l]
  exact List.map_congr_left fun b hb => by rw [if_neg (h b hb)]; rfl
theorem encode_high (r : Int) (h : 128 ≤ r) : ∀ b ∈ encodeRune r, b ≠ 92 := by
  intro b hb e
  subst e
  unfold encodeRune at hb
  obtain ⟨z, hz, he⟩ := List.mem_map.1 hb
  have hz' := encodeRuneZ_byte r z hz
  have h128 : 128 ≤ z := by
    unfold encodeRuneZ at hz
    rw [if_neg (by omega)] at hz
    split at hz
    · simp at hz; omega
    · split at hz
      · simp at hz; omega
      · split at hz
        · simp at hz; omega
        · simp at hz; omega
  have := congrArg UInt8.toNat he
  rw [byte_toNat z hz'.1 hz'.2] at this
  have h92 : (92 : UInt8).toNat = 92 := rfl
  omega
theorem sub92_encode (r : Int) (hv : Valid r) : sub92 (encodeRune r) = encodeRune (fix92 r) := by
  by_cases h : 128 ≤ r
  · rw [sub92_same (encode_high r h)]
    unfold fix92
    rw [if_neg (by omega)]
  · have h0 := hv.1
    have e : ∀ z : Int, 0 ≤ z → z ≤ 127 → encodeRune z = [z.toNat.toUInt8] := fun z a b => by unfold encodeRune; rw [encodeRuneZ_one a b]; rfl
    rw [e r h0 (by omega)]
    unfold fix92
    by_cases h92 : r = 92
    · subst h92
      rw [if_pos rfl]
      rfl
    · rw [if_neg h92, e r h0 (by omega)]
      refine sub92_same fun b hb hb92 => ?_
      simp only [List.mem_singleton] at hb
      have := congrArg UInt8.toNat (hb.symm.trans hb92)
      rw [byte_toNat r h0 (by omega)] at this
      have h92' : (92 : UInt8).toNat = 92 := rfl
      omega

theorem sub92_flat (f : Int → List UInt8) (rs : List Int) : sub92 (rs.flatMap f) = rs.flatMap fun r => sub92 (f r) := by
  unfold sub92
  rw [List.map_flatMap]

theorem canon_runes (l : List UInt8) : ∃ qs : List Int, (∀ q ∈ qs, Valid q ∧ toLowerU q = q ∧ q ≠ 92) ∧ canon l = qs.flatMap encodeRune := by
  obtain ⟨rs, hv, hm⟩ := runes_of l.length l (Nat.le_refl _)
  refine ⟨rs.map fun r => fix92 (toLowerU r), ?_, ?_⟩
  · intro q hq
    obtain ⟨r, hr, rfl⟩ := List.mem_map.1 hq
    obtain ⟨h1, h2⟩ := lower_ok r (hv r hr)
    unfold fix92
    by_cases h92 : toLowerU r = 92
    · rw [if_pos h92]
      exact ⟨by decide, by decide, by decide⟩
    · rw [if_neg h92]
      exact ⟨h1, h2, h92⟩
  · unfold canon toLowerD
    rw [hm toLowerU, sub92_flat, List.flatMap_map]
    rw [List.flatMap_def, List.flatMap_def]
    congr 1
    refine List.map_congr_left fun r hr => ?_
    obtain ⟨h1, h2⟩ := lower_ok r (hv r hr)
    unfold outOf
    rw [if_pos h1.1, sub92_encode _ h1]

/-- Canonicalising again changes nothing. -/
theorem canon_idem (l : List UInt8) : canon (canon l) = canon l := by
  obtain ⟨qs, hq, e⟩ := canon_runes l
  rw [e]
  unfold canon toLowerD
  rw [mapD_encode toLowerU qs fun q h => (hq q h).1, sub92_flat, List.flatMap_def, List.flatMap_def]
  congr 1
  refine List.map_congr_left fun q h => ?_
  obtain ⟨h1, h2, h3⟩ := hq q h
  unfold outOf
  rw [h2, if_pos h1.1, sub92_encode q h1]
  unfold fix92
  rw [if_neg h3]

/-- No backslash. -/
theorem canon_no92 (l : List UInt8) : (92 : UInt8) ∉ canon l := by
  unfold canon sub92
  intro h
  obtain ⟨b, _, e⟩ := List.mem_map.1 h
  by_cases hb : b = 92
  · rw [if_pos hb] at e
    exact absurd e (by decide)
  · rw [if_neg hb] at e
    exact hb e

theorem mapD_length (f : Int → Int) (l : List UInt8) : (mapD f l).length ≤ 4 * l.length := by
  have h : ∀ (n : Nat) (l : List UInt8), l.length ≤ n → (mapD f l).length ≤ 4 * l.length := by
    intro n
    induction n with
    | zero =>
      intro l hl
      obtain rfl : l = [] := List.eq_nil_of_length_eq_zero (by omega)
      simp [mapD_nil]
    | succ n ih =>
      intro l hl
      by_cases hne : l = []
      · subst hne
        simp [mapD_nil]
      · have hw := decodeL_width l
        have hl0 : 0 < l.length := List.length_pos_iff.2 hne
        have h4 := (encodeRuneZ_length (f (decodeL l).1)).2
        have hle := ih (l.drop (decodeL l).2) (by rw [List.length_drop]; omega)
        have hdl := decodeL_le l hne
        rw [List.length_drop] at hle
        rw [mapD_step f l hne, List.length_append]
        split
        · have : (encodeRune (f (decodeL l).1)).length ≤ 4 := by simpa [encodeRune] using h4
          omega
        · simp only [List.length_nil]
          omega
  exact h l.length l (Nat.le_refl _)

end Go.Proofs.YtjinajfejbpicaaDoor
