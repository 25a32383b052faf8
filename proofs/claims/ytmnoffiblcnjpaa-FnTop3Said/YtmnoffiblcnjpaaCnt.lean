/-
  The counts of the letters, in plain words, and CharFreq.Scan; conditions: those that each lemma names.
-/
import Derived.Test.YtmnoffiblcnjpaaSrt
import Derived.Test.YtmnoffiblcnjpaaInv
namespace Go.Proofs.Ytmnoffiblcnjpaa
open Go.RowKit Go.Sort

/-- A letter's place. -/
def ixc (c : UInt8) : Option Nat :=
  if 97 ≤ c.toNat ∧ c.toNat ≤ 122 then some (c.toNat - 97) else if 65 ≤ c.toNat ∧ c.toNat ≤ 90 then some (c.toNat - 39) else if 48 ≤ c.toNat ∧ c.toNat ≤ 57 then some (c.toNat + 4) else if c.toNat = 95 then some 62 else if c.toNat = 36 then some 63 else none
theorem ixc_lt {c : UInt8} {i : Nat} (h : ixc c = some i) : i < 64 := by
  unfold ixc at h
  split at h
  · injection h; omega
  · split at h
    · injection h; omega
    · split at h
      · injection h; omega
      · split at h
        · injection h; omega
        · split at h
          · injection h; omega
          · cases h
def addc (dl : Int) (C : Nat → Int) (i : Nat) : Nat → Int := fun x => if x = i then IntKind.i32.wrap (C i + dl) else C x
def bump (dl : Int) (C : Nat → Int) (c : UInt8) : Nat → Int := match ixc c with
  | none => C
  | some i => addc dl C i
def cnt (dl : Int) (C : Nat → Int) (l : List UInt8) : Nat → Int := l.foldl (bump dl) C
theorem cnt_step (dl : Int) (C : Nat → Int) (l : List UInt8) (k : Nat) (h : k < l.length) : cnt dl C (l.take (k + 1)) = bump dl (cnt dl C (l.take k)) l[k]! := by
  unfold cnt
  rw [List.take_succ_eq_append_getElem h, List.foldl_append, getElem!_pos l k h]
  rfl
theorem cnt_zero (l : List UInt8) : cnt 0 (fun _ => 0) l = fun _ => 0 := by
  unfold cnt
  induction l with
  | nil => rfl
  | cons c l ih =>
    rw [List.foldl_cons, show bump 0 (fun _ => 0) c = fun _ => 0 by
      unfold bump
      cases ixc c with
      | none => rfl
      | some i =>
        funext x
        show (if x = i then IntKind.i32.wrap (0 + 0) else 0) = 0
        split <;> rfl]
    exact ih
abbrev cf (C : Nat → Int) (i : Nat) : Value := .int .i32 (C i)
theorem cf_set (C : Nat → Int) (i : Nat) (dl v : Int) (hv : v = IntKind.i32.wrap (C i + dl)) (j : Nat) : (if j = i then (.int .i32 v : Value) else cf C j) = cf (addc dl C i) j := by
  subst hv
  unfold cf addc
  by_cases h : j = i
  · rw [if_pos h, if_pos h]
  · rw [if_neg h, if_neg h]
/-- The table of counts. -/
structure Tb (f : Nat) (T : TypeId) (w : World) (C : Nat → Int) (w' : World) : Prop where
  row : Row w' f T 64 (cf C)
  gs : Gs f w w'
theorem Tb.add {f : Nat} {T : TypeId} {w wr W : World} {C : Nat → Int} (h : Tb f T w C wr) (i : Nat) (dl v : Int) (hv : v = IntKind.i32.wrap (C i + dl)) (hW : W = (wr.setCell ⟨f, i, none⟩ (.int .i32 v)).drew) : Tb f T w (addc dl C i) W := by
  subst hW
  exact ⟨((h.row.set i _).congr fun j _ => cf_set C i dl v hv j).drewN 1, (h.gs.set _ _).drew⟩
set_option maxHeartbeats 40000000 in
set_option maxRecDepth 100000 in
theorem scan_any (f : Nat) (s : ByteArray) (dl : Int) (hd : dl ≠ 0) (C : Nat → Int) (w : World) (h : Tb f 23 w C w) (hs : s.size ≤ 1048576) :
    Calls Try.prog 4 #[.pointer (some ⟨f, 0, none⟩), .string s, .int .i32 dl] w fun e w' => e = .returned (.tuple #[]) ∧ Tb f 23 w (cnt dl C s.data.toList) w' := by
  have H := Lib.hid h
  have hd' : ¬ dl = 0 := hd
  have hd2 : (dl == 0) = false := by simpa using hd
  clear h hd
  go_enter Try.func4, Try.ntmps4
  go_wp2_with fail
  go_loopw [6] (fun s6 wr => ∃ k : Nat, s6 = .int .i64 k ∧ k ≤ s.size ∧ Tb f 23 w (cnt dl C (s.data.toList.take k)) wr) (fun s6 _ => s.size - (intOf s6).toNat)
  case atStart => exact ⟨0, rfl, by omega, H.out⟩
  case round =>
    obtain ⟨k, rfl, hk, hT⟩ := hrel
    by_cases hlt : k < s.size
    · have hst := cnt_step dl C s.data.toList k (by rw [size_len]; exact hlt)
      rw [at_get s k hlt] at hst
      obtain ⟨D, hD⟩ : ∃ D, cnt dl C (s.data.toList.take k) = D := ⟨_, rfl⟩
      rw [hD] at hst hT
      obtain ⟨n, hn⟩ : ∃ n, s[k].toNat = n := ⟨_, rfl⟩
      have hb := s[k].toNat_lt
      rw [hn] at hb
      have hcell : ∀ i, i < 64 → wr.cell? ⟨f, i, none⟩ = some (.int .i32 (D i)) := fun i hi => hT.row.cell hi
      have hfr : ∀ i, wr.frozen? ⟨f, i, none⟩ = false := fun i => hT.row.frozen i
      have HT := Lib.hid (And.intro hT hst)
      clear hT hst hD
      rcases (by omega : (97 ≤ n ∧ n ≤ 122) ∨ (65 ≤ n ∧ n ≤ 90) ∨ (48 ≤ n ∧ n ≤ 57) ∨ (n = 95 ∧ 0 ≤ n) ∨ (n = 36 ∧ 0 ≤ n) ∨ (n < 36 ∧ 0 ≤ n) ∨ (36 < n ∧ n < 48) ∨ (57 < n ∧ n < 65) ∨ (90 < n ∧ n < 95) ∨ (n = 96 ∧ 0 ≤ n) ∨ (122 < n ∧ 0 ≤ n)) with ⟨r1, r2⟩ | ⟨r1, r2⟩ | ⟨r1, r2⟩ | ⟨r1, r2⟩ | ⟨r1, r2⟩ | ⟨r1, r2⟩ | ⟨r1, r2⟩ | ⟨r1, r2⟩ | ⟨r1, r2⟩ | ⟨r1, r2⟩ | ⟨r1, r2⟩
      · obtain ⟨i, rfl⟩ : ∃ i, n = i + 97 := ⟨n - 97, by omega⟩
        have hx : ixc s[k] = some i := by unfold ixc; rw [hn]; rw [if_pos ⟨by omega, by omega⟩]; congr 1 <;> omega
        obtain ⟨v, hv⟩ : ∃ v, D i = v := ⟨_, rfl⟩
        have hci := hcell i (by omega)
        have hfi := hfr i
        rw [hv] at hci
        have HX := Lib.hid (And.intro hx hv)
        clear hcell hfr hx hv
        go_wp2_with fail
        go_region
        all_goals go_wp2
        go_roundw
        case rel => exact ⟨k + 1, by go_num, by omega, by rw [HT.out.2, show bump dl D s[k] = addc dl D i by unfold bump; rw [HX.out.1]]; exact HT.out.1.add i dl _ (by rw [HX.out.2, IntKind.wrap_i32]; simp only [wrap32]) rfl⟩
        case measure => simp [intOf]; omega
      · obtain ⟨i, hin⟩ : ∃ i, n = i + 39 := ⟨n - 39, by omega⟩
        have hii : (n : Int) - 39 = (i : Int) := by omega
        clear hin
        have hx : ixc s[k] = some i := by unfold ixc; rw [hn]; rw [if_neg (by omega), if_pos ⟨by omega, by omega⟩]; congr 1 <;> omega
        obtain ⟨v, hv⟩ : ∃ v, D i = v := ⟨_, rfl⟩
        have hci := hcell i (by omega)
        have hfi := hfr i
        rw [hv] at hci
        have HX := Lib.hid (And.intro hx hv)
        clear hcell hfr hx hv
        go_wp2_with fail
        go_region
        all_goals go_wp2
        go_roundw
        case rel => exact ⟨k + 1, by go_num, by omega, by rw [HT.out.2, show bump dl D s[k] = addc dl D i by unfold bump; rw [HX.out.1]]; exact HT.out.1.add i dl _ (by rw [HX.out.2, IntKind.wrap_i32]; simp only [wrap32]) rfl⟩
        case measure => simp [intOf]; omega
      · have hx : ixc s[k] = some (n + 4) := by unfold ixc; rw [hn]; rw [if_neg (by omega), if_neg (by omega), if_pos ⟨by omega, by omega⟩]
        obtain ⟨v, hv⟩ : ∃ v, D (n + 4) = v := ⟨_, rfl⟩
        have hci := hcell (n + 4) (by omega)
        have hfi := hfr (n + 4)
        rw [hv] at hci
        have HX := Lib.hid (And.intro hx hv)
        clear hcell hfr hx hv
        go_wp2_with fail
        go_region
        all_goals go_wp2
        go_roundw
        case rel => exact ⟨k + 1, by go_num, by omega, by rw [HT.out.2, show bump dl D s[k] = addc dl D (n + 4) by unfold bump; rw [HX.out.1]]; exact HT.out.1.add (n + 4) dl _ (by rw [HX.out.2, IntKind.wrap_i32]; simp only [wrap32]) rfl⟩
        case measure => simp [intOf]; omega
      · obtain rfl := r1
        have hx : ixc s[k] = some 62 := by unfold ixc; rw [hn]; rfl
        obtain ⟨v, hv⟩ : ∃ v, D 62 = v := ⟨_, rfl⟩
        have hci := hcell 62 (by omega)
        have hfi := hfr 62
        rw [hv] at hci
        have HX := Lib.hid (And.intro hx hv)
        clear hcell hfr hx hv
        go_wp2_with fail
        go_region
        all_goals go_wp2
        go_roundw
        case rel => exact ⟨k + 1, by go_num, by omega, by rw [HT.out.2, show bump dl D s[k] = addc dl D 62 by unfold bump; rw [HX.out.1]]; exact HT.out.1.add 62 dl _ (by rw [HX.out.2, IntKind.wrap_i32]; simp only [wrap32]) rfl⟩
        case measure => simp [intOf]; omega
      · obtain rfl := r1
        have hx : ixc s[k] = some 63 := by unfold ixc; rw [hn]; rfl
        obtain ⟨v, hv⟩ : ∃ v, D 63 = v := ⟨_, rfl⟩
        have hci := hcell 63 (by omega)
        have hfi := hfr 63
        rw [hv] at hci
        have HX := Lib.hid (And.intro hx hv)
        clear hcell hfr hx hv
        go_wp2_with fail
        go_region
        all_goals go_wp2
        go_roundw
        case rel => exact ⟨k + 1, by go_num, by omega, by rw [HT.out.2, show bump dl D s[k] = addc dl D 63 by unfold bump; rw [HX.out.1]]; exact HT.out.1.add 63 dl _ (by rw [HX.out.2, IntKind.wrap_i32]; simp only [wrap32]) rfl⟩
        case measure => simp [intOf]; omega
      · have hx : ixc s[k] = none := by unfold ixc; rw [hn, if_neg (by omega), if_neg (by omega), if_neg (by omega), if_neg (by omega), if_neg (by omega)]
        have HX := Lib.hid hx
        clear hcell hfr hx
        go_wp2_with fail
        go_roundw
        case rel => exact ⟨k + 1, by go_num, by omega, by rw [HT.out.2, show bump dl D s[k] = D by unfold bump; rw [HX.out]]; exact HT.out.1⟩
        case measure => simp [intOf]; omega
      · have hx : ixc s[k] = none := by unfold ixc; rw [hn, if_neg (by omega), if_neg (by omega), if_neg (by omega), if_neg (by omega), if_neg (by omega)]
        have HX := Lib.hid hx
        clear hcell hfr hx
        go_wp2_with fail
        go_roundw
        case rel => exact ⟨k + 1, by go_num, by omega, by rw [HT.out.2, show bump dl D s[k] = D by unfold bump; rw [HX.out]]; exact HT.out.1⟩
        case measure => simp [intOf]; omega
      · have hx : ixc s[k] = none := by unfold ixc; rw [hn, if_neg (by omega), if_neg (by omega), if_neg (by omega), if_neg (by omega), if_neg (by omega)]
        have HX := Lib.hid hx
        clear hcell hfr hx
        go_wp2_with fail
        go_roundw
        case rel => exact ⟨k + 1, by go_num, by omega, by rw [HT.out.2, show bump dl D s[k] = D by unfold bump; rw [HX.out]]; exact HT.out.1⟩
        case measure => simp [intOf]; omega
      · have hx : ixc s[k] = none := by unfold ixc; rw [hn, if_neg (by omega), if_neg (by omega), if_neg (by omega), if_neg (by omega), if_neg (by omega)]
        have HX := Lib.hid hx
        clear hcell hfr hx
        go_wp2_with fail
        go_roundw
        case rel => exact ⟨k + 1, by go_num, by omega, by rw [HT.out.2, show bump dl D s[k] = D by unfold bump; rw [HX.out]]; exact HT.out.1⟩
        case measure => simp [intOf]; omega
      · have hx : ixc s[k] = none := by unfold ixc; rw [hn, if_neg (by omega), if_neg (by omega), if_neg (by omega), if_neg (by omega), if_neg (by omega)]
        have HX := Lib.hid hx
        clear hcell hfr hx
        go_wp2_with fail
        go_roundw
        case rel => exact ⟨k + 1, by go_num, by omega, by rw [HT.out.2, show bump dl D s[k] = D by unfold bump; rw [HX.out]]; exact HT.out.1⟩
        case measure => simp [intOf]; omega
      · have hx : ixc s[k] = none := by unfold ixc; rw [hn, if_neg (by omega), if_neg (by omega), if_neg (by omega), if_neg (by omega), if_neg (by omega)]
        have HX := Lib.hid hx
        clear hcell hfr hx
        go_wp2_with fail
        go_roundw
        case rel => exact ⟨k + 1, by go_num, by omega, by rw [HT.out.2, show bump dl D s[k] = D by unfold bump; rw [HX.out]]; exact HT.out.1⟩
        case measure => simp [intOf]; omega
    · obtain rfl : k = s.size := by omega
      have HT := Lib.hid hT
      clear hT
      go_wp2_with fail
      go_end0
      refine ⟨rfl, ?_⟩
      have := HT.out
      rw [List.take_of_length_le (by rw [size_len]; omega)] at this
      exact this
end Go.Proofs.Ytmnoffiblcnjpaa
