/-
  The contract of joinWithPublicPath, for whatever function answers fmt; conditions: those that each names.
-/
import Derived.Test.YtpocoepcpfjgjaaFmtPre
import Derived.Test.YtpocoepcpfjgjaaFmtRows
import Derived.Stop.CallBack
import Derived.Stop.IfaceNil
import GoSem.ClaimData
import Derived.WalkSpells
import Derived.WalkLawsBesides
import Derived.Laws.Concat
import Derived.Deep.QuietTactic
import Derived.BigQuiet
namespace Go.Proofs.YtpocoepcpfjgjaaFmt
open Go.RowKit Go.Extern.Stop Go.Stop Go.Extern

theorem call25 (args : Array Value) (w : World) : (callFunc 25 args).run Tryf.prog w = ((FmtStop.sprintf #[9, 323] #[9] args).run Tryf.prog w).andThen fun v w' => .ok (.value v) w' :=
  run_callFunc_extern Tryf.func25 (by kernel_rfl) (by kernel_rfl) (by kernel_rfl) (by kernel_rfl) args w
theorem guard (name : String) (w : World) : (FmtStop.guard name).run Tryf.prog w = .ok () w := by kernel_rfl
theorem fmt3 : FmtStop.printed? ⟨#[37, 115, 37, 115, 37, 115]⟩ 3 = some [(0, 115, false), (1, 115, false), (2, 115, false)] := by kernel_rfl
theorem fmt3r (w : World) : (FmtDoors.printed ⟨#[37, 115, 37, 115, 37, 115]⟩ 3).run Tryf.prog w = .ok [(0, 115, false), (1, 115, false), (2, 115, false)] w := by kernel_rfl
def shape9 : List UInt8 := [12, 6, 0, 0, 0, 0, 0, 0, 0, 115, 116, 114, 105, 110, 103]
theorem op9_115 (name : String) (x : ByteArray) (w : World) : (FmtStop.operand name false 115 false (.iface 9 (.string x))).run Tryf.prog w = .ok (shape9, FmtStop.pack x.data.toList) w := by kernel_rfl

/-- What fmt is asked. -/
def reading (a b c : List UInt8) : List (List UInt8) := [[37, 115, 37, 115, 37, 115], shape9, FmtStop.pack a, shape9, FmtStop.pack b, shape9, FmtStop.pack c]
def base (F : Interp) (a b c : ByteArray) : ByteArray := FmtStop.textOf (F "fmt.Sprintf" (reading a.data.toList b.data.toList c.data.toList) 0)

/-- fmt's text is the three texts in a row. -/
def Says (F : Interp) : Prop := ∀ a b c : ByteArray, a.size + b.size + c.size ≤ 1048576 → base F a b c = S (a.data.toList ++ b.data.toList ++ c.data.toList)

def Strip (t r : List UInt8) : Prop := if Lib.hasPrefix t [46, 47] = true then ∃ p, t = 46 :: 47 :: (p ++ r) ∧ Toks p ∧ Lib.hasPrefix r [47] = false ∧ Lib.hasPrefix r [46, 47] = false else r = t
def lenOf : Value → Nat
  | .string s => s.size
  | _ => 0
theorem drop_size (s : ByteArray) (i : Nat) : (s.extract i s.size).data.toList = s.data.toList.drop i := by
  rw [extract_S, S_data, List.take_of_length_le (by rw [List.length_drop, ← Lib.size_eq]; exact Nat.le_refl _)]

def JEnd (pub : ByteArray) (sl : List UInt8) (t : List UInt8) (w : World) (e : Ending) (w' : World) : Prop := ∃ r : List UInt8, e = .returned (.string (S (pub.data.toList ++ sl ++ r))) ∧ Strip t r ∧ r.length ≤ t.length ∧ Below w.heap.size w w'

set_option maxHeartbeats 4000000 in
set_option maxRecDepth 100000 in
theorem join_plain (F : Interp) (pub to : ByteArray) (w : World) (hF : F.answers w.tape) (hS : Says F) (hne : pub.toList.isEmpty = false) (h1 : pub.size ≤ 65536) (h2 : to.size ≤ 65536) (hs : Lib.hasSuffix pub.data.toList [47] = false) :
    Calls Tryf.prog 23 #[.string pub, .string to] w (JEnd pub [47] to.data.toList w) := by
  have hF' := answers_open hF
  have HS := Lib.hid (And.intro hS hs)
  clear hS hs hF
  have k1 := call25
  have k2 := guard
  have k3 := fmt3
  have k4 := fmt3r
  have k5 := op9_115
  cases hp : Lib.hasPrefix to.data.toList [46, 47]
  · have HP := Lib.hid hp
    clear hp
    have hb := HS.out.1 pub ⟨#[47]⟩ to (by first | (show _ + 1 + _ ≤ _; omega) | (show _ + 0 + _ ≤ _; omega))
    go_enter Tryf.func23, Tryf.ntmps23
    go_wp2_with (first | (go_at_call 26; refine (hasPrefix_val to _ false _ (by omega) (by decide) HP.out).mono ?_; rintro e w' ⟨rfl, rfl⟩) | (go_at_call 29; refine (hasSuffix_val pub _ false _ (by omega) (by decide) HS.out.2).mono ?_; rintro e w' ⟨rfl, rfl⟩))
    rw [show FmtStop.textOf (F "fmt.Sprintf" [[37, 115, 37, 115, 37, 115], shape9, FmtStop.pack pub.data.toList, shape9, FmtStop.pack [47], shape9, FmtStop.pack to.data.toList] 0) = S (pub.data.toList ++ [47] ++ to.data.toList) from hb]
    clear hb hF' k1 k2 k3 k4 k5
    first | (go_ret; exact ⟨to.data.toList, rfl, by unfold Strip; rw [if_neg (by rw [HP.out]; decide)], Nat.le_refl _, ((Below.refl _ _).alloc (Nat.le_refl _) _).drew⟩) | (go_wp2_with fail; go_ret; exact ⟨to.data.toList, rfl, by unfold Strip; rw [if_neg (by rw [HP.out]; decide)], Nat.le_refl _, ((Below.refl _ _).alloc (Nat.le_refl _) _).drew⟩)
  · have HP := Lib.hid hp
    obtain ⟨q, hq⟩ := hp_two hp
    have hql : to.size = q.length + 2 := by rw [Lib.size_eq, hq]; rfl
    have hst : (to.extract 2 to.size).data.toList = q := by rw [drop_size, hq]; rfl
    have t1 : (2 : Int) ≤ (to.size : Int) := by omega
    have HQ := Lib.hid (And.intro hq (And.intro hst hql))
    clear hp hq hst hql
    go_enter Tryf.func23, Tryf.ntmps23
    go_wp2_with (go_at_call 26; refine (hasPrefix_val to _ true _ (by omega) (by decide) HP.out).mono ?_; rintro e w' ⟨rfl, rfl⟩)
    go_loopw [1] (fun s1 wx => ∃ (p : List UInt8) (t : ByteArray), s1 = .string t ∧ Toks p ∧ q = p ++ t.data.toList ∧ wx = w) (fun s1 _ => lenOf s1)
    case atStart => exact ⟨[], _, rfl, Toks.nil, HQ.out.2.1.symm, rfl⟩
    case round =>
      obtain ⟨p, t, rfl, htk, hpt, rfl⟩ := hrel
      have hts : p.length + t.size + 2 = to.size := by rw [HQ.out.2.2, hpt, List.length_append, ← Lib.size_eq]
      have HT := Lib.hid (And.intro htk hpt)
      clear htk hpt
      cases ha : Lib.hasPrefix t.data.toList [47]
      · cases hc : Lib.hasPrefix t.data.toList [46, 47]
        · have hb := HS.out.1 pub ⟨#[47]⟩ t (by first | (show _ + 1 + _ ≤ _; omega) | (show _ + 0 + _ ≤ _; omega))
          have HA := Lib.hid (And.intro ha hc)
          clear ha hc
          go_wp2_with (first | (go_at_call 26; refine (hasPrefix_val t ⟨#[47]⟩ false _ (by omega) (by decide) HA.out.1).mono ?_; rintro e w' ⟨rfl, rfl⟩) | (go_at_call 26; refine (hasPrefix_val t ⟨#[46, 47]⟩ false _ (by omega) (by decide) HA.out.2).mono ?_; rintro e w' ⟨rfl, rfl⟩) | (go_at_call 29; refine (hasSuffix_val pub _ false _ (by omega) (by decide) HS.out.2).mono ?_; rintro e w' ⟨rfl, rfl⟩))
          rw [show FmtStop.textOf (F "fmt.Sprintf" [[37, 115, 37, 115, 37, 115], shape9, FmtStop.pack pub.data.toList, shape9, FmtStop.pack [47], shape9, FmtStop.pack t.data.toList] 0) = S (pub.data.toList ++ [47] ++ t.data.toList) from hb]
          clear hb hF' k1 k2 k3 k4 k5
          first | (go_ret; exact ⟨t.data.toList, rfl, by unfold Strip; rw [if_pos HP.out]; exact ⟨p, by rw [HQ.out.1, HT.out.2], HT.out.1, HA.out.1, HA.out.2⟩, by rw [← Lib.size_eq, ← Lib.size_eq]; omega, ((Below.refl _ _).alloc (Nat.le_refl _) _).drew⟩) | (go_wp2_with fail; go_ret; exact ⟨t.data.toList, rfl, by unfold Strip; rw [if_pos HP.out]; exact ⟨p, by rw [HQ.out.1, HT.out.2], HT.out.1, HA.out.1, HA.out.2⟩, by rw [← Lib.size_eq, ← Lib.size_eq]; omega, ((Below.refl _ _).alloc (Nat.le_refl _) _).drew⟩)
        · obtain ⟨r, hr⟩ := hp_two hc
          have hrl : t.size = r.length + 2 := by rw [Lib.size_eq, hr]; rfl
          have hst : (t.extract 2 t.size).data.toList = r := by rw [drop_size, hr]; rfl
          have t2 : (2 : Int) ≤ (t.size : Int) := by omega
          have HA := Lib.hid (And.intro ha (And.intro hc (And.intro hr (And.intro hst hrl))))
          clear ha hc hr hst hrl hF' k1 k2 k3 k4 k5
          go_wp2_with (first | (go_at_call 26; refine (hasPrefix_val t ⟨#[47]⟩ false _ (by omega) (by decide) HA.out.1).mono ?_; rintro e w' ⟨rfl, rfl⟩) | (go_at_call 26; refine (hasPrefix_val t ⟨#[46, 47]⟩ true _ (by omega) (by decide) HA.out.2.1).mono ?_; rintro e w' ⟨rfl, rfl⟩))
          exact ⟨⟨p ++ [46, 47], _, rfl, HT.out.1.add (.two .nil), by rw [HA.out.2.2.2.1, HT.out.2, HA.out.2.2.1]; simp, by first | rfl | trivial⟩, by show (t.extract 2 t.size).size < t.size; rw [Lib.size_eq (t.extract 2 t.size), HA.out.2.2.2.1]; have := HA.out.2.2.2.2; omega⟩
      · obtain ⟨r, hr⟩ := hp_one ha
        have hrl : t.size = r.length + 1 := by rw [Lib.size_eq, hr]; rfl
        have hst : (t.extract 1 t.size).data.toList = r := by rw [drop_size, hr]; rfl
        have t2 : (1 : Int) ≤ (t.size : Int) := by omega
        have HA := Lib.hid (And.intro ha (And.intro hr (And.intro hst hrl)))
        clear ha hr hst hrl hF' k1 k2 k3 k4 k5
        go_wp2_with (go_at_call 26; refine (hasPrefix_val t ⟨#[47]⟩ true _ (by omega) (by decide) HA.out.1).mono ?_; rintro e w' ⟨rfl, rfl⟩)
        exact ⟨⟨p ++ [47], _, rfl, HT.out.1.add (.one .nil), by rw [HA.out.2.2.1, HT.out.2, HA.out.2.1]; simp, by first | rfl | trivial⟩, by show (t.extract 1 t.size).size < t.size; rw [Lib.size_eq (t.extract 1 t.size), HA.out.2.2.1]; have := HA.out.2.2.2; omega⟩

set_option maxHeartbeats 4000000 in
set_option maxRecDepth 100000 in
theorem join_slash (F : Interp) (pub to : ByteArray) (w : World) (hF : F.answers w.tape) (hS : Says F) (hne : pub.toList.isEmpty = false) (h1 : pub.size ≤ 65536) (h2 : to.size ≤ 65536) (hs : Lib.hasSuffix pub.data.toList [47] = true) :
    Calls Tryf.prog 23 #[.string pub, .string to] w (JEnd pub [] to.data.toList w) := by
  have hF' := answers_open hF
  have HS := Lib.hid (And.intro hS hs)
  clear hS hs hF
  have k1 := call25
  have k2 := guard
  have k3 := fmt3
  have k4 := fmt3r
  have k5 := op9_115
  cases hp : Lib.hasPrefix to.data.toList [46, 47]
  · have HP := Lib.hid hp
    clear hp
    have hb := HS.out.1 pub ⟨#[]⟩ to (by first | (show _ + 1 + _ ≤ _; omega) | (show _ + 0 + _ ≤ _; omega))
    go_enter Tryf.func23, Tryf.ntmps23
    go_wp2_with (first | (go_at_call 26; refine (hasPrefix_val to _ false _ (by omega) (by decide) HP.out).mono ?_; rintro e w' ⟨rfl, rfl⟩) | (go_at_call 29; refine (hasSuffix_val pub _ true _ (by omega) (by decide) HS.out.2).mono ?_; rintro e w' ⟨rfl, rfl⟩))
    rw [show FmtStop.textOf (F "fmt.Sprintf" [[37, 115, 37, 115, 37, 115], shape9, FmtStop.pack pub.data.toList, shape9, FmtStop.pack [], shape9, FmtStop.pack to.data.toList] 0) = S (pub.data.toList ++ [] ++ to.data.toList) from hb]
    clear hb hF' k1 k2 k3 k4 k5
    first | (go_ret; exact ⟨to.data.toList, rfl, by unfold Strip; rw [if_neg (by rw [HP.out]; decide)], Nat.le_refl _, ((Below.refl _ _).alloc (Nat.le_refl _) _).drew⟩) | (go_wp2_with fail; go_ret; exact ⟨to.data.toList, rfl, by unfold Strip; rw [if_neg (by rw [HP.out]; decide)], Nat.le_refl _, ((Below.refl _ _).alloc (Nat.le_refl _) _).drew⟩)
  · have HP := Lib.hid hp
    obtain ⟨q, hq⟩ := hp_two hp
    have hql : to.size = q.length + 2 := by rw [Lib.size_eq, hq]; rfl
    have hst : (to.extract 2 to.size).data.toList = q := by rw [drop_size, hq]; rfl
    have t1 : (2 : Int) ≤ (to.size : Int) := by omega
    have HQ := Lib.hid (And.intro hq (And.intro hst hql))
    clear hp hq hst hql
    go_enter Tryf.func23, Tryf.ntmps23
    go_wp2_with (go_at_call 26; refine (hasPrefix_val to _ true _ (by omega) (by decide) HP.out).mono ?_; rintro e w' ⟨rfl, rfl⟩)
    go_loopw [1] (fun s1 wx => ∃ (p : List UInt8) (t : ByteArray), s1 = .string t ∧ Toks p ∧ q = p ++ t.data.toList ∧ wx = w) (fun s1 _ => lenOf s1)
    case atStart => exact ⟨[], _, rfl, Toks.nil, HQ.out.2.1.symm, rfl⟩
    case round =>
      obtain ⟨p, t, rfl, htk, hpt, rfl⟩ := hrel
      have hts : p.length + t.size + 2 = to.size := by rw [HQ.out.2.2, hpt, List.length_append, ← Lib.size_eq]
      have HT := Lib.hid (And.intro htk hpt)
      clear htk hpt
      cases ha : Lib.hasPrefix t.data.toList [47]
      · cases hc : Lib.hasPrefix t.data.toList [46, 47]
        · have hb := HS.out.1 pub ⟨#[]⟩ t (by first | (show _ + 1 + _ ≤ _; omega) | (show _ + 0 + _ ≤ _; omega))
          have HA := Lib.hid (And.intro ha hc)
          clear ha hc
          go_wp2_with (first | (go_at_call 26; refine (hasPrefix_val t ⟨#[47]⟩ false _ (by omega) (by decide) HA.out.1).mono ?_; rintro e w' ⟨rfl, rfl⟩) | (go_at_call 26; refine (hasPrefix_val t ⟨#[46, 47]⟩ false _ (by omega) (by decide) HA.out.2).mono ?_; rintro e w' ⟨rfl, rfl⟩) | (go_at_call 29; refine (hasSuffix_val pub _ true _ (by omega) (by decide) HS.out.2).mono ?_; rintro e w' ⟨rfl, rfl⟩))
          rw [show FmtStop.textOf (F "fmt.Sprintf" [[37, 115, 37, 115, 37, 115], shape9, FmtStop.pack pub.data.toList, shape9, FmtStop.pack [], shape9, FmtStop.pack t.data.toList] 0) = S (pub.data.toList ++ [] ++ t.data.toList) from hb]
          clear hb hF' k1 k2 k3 k4 k5
          first | (go_ret; exact ⟨t.data.toList, rfl, by unfold Strip; rw [if_pos HP.out]; exact ⟨p, by rw [HQ.out.1, HT.out.2], HT.out.1, HA.out.1, HA.out.2⟩, by rw [← Lib.size_eq, ← Lib.size_eq]; omega, ((Below.refl _ _).alloc (Nat.le_refl _) _).drew⟩) | (go_wp2_with fail; go_ret; exact ⟨t.data.toList, rfl, by unfold Strip; rw [if_pos HP.out]; exact ⟨p, by rw [HQ.out.1, HT.out.2], HT.out.1, HA.out.1, HA.out.2⟩, by rw [← Lib.size_eq, ← Lib.size_eq]; omega, ((Below.refl _ _).alloc (Nat.le_refl _) _).drew⟩)
        · obtain ⟨r, hr⟩ := hp_two hc
          have hrl : t.size = r.length + 2 := by rw [Lib.size_eq, hr]; rfl
          have hst : (t.extract 2 t.size).data.toList = r := by rw [drop_size, hr]; rfl
          have t2 : (2 : Int) ≤ (t.size : Int) := by omega
          have HA := Lib.hid (And.intro ha (And.intro hc (And.intro hr (And.intro hst hrl))))
          clear ha hc hr hst hrl hF' k1 k2 k3 k4 k5
          go_wp2_with (first | (go_at_call 26; refine (hasPrefix_val t ⟨#[47]⟩ false _ (by omega) (by decide) HA.out.1).mono ?_; rintro e w' ⟨rfl, rfl⟩) | (go_at_call 26; refine (hasPrefix_val t ⟨#[46, 47]⟩ true _ (by omega) (by decide) HA.out.2.1).mono ?_; rintro e w' ⟨rfl, rfl⟩))
          exact ⟨⟨p ++ [46, 47], _, rfl, HT.out.1.add (.two .nil), by rw [HA.out.2.2.2.1, HT.out.2, HA.out.2.2.1]; simp, by first | rfl | trivial⟩, by show (t.extract 2 t.size).size < t.size; rw [Lib.size_eq (t.extract 2 t.size), HA.out.2.2.2.1]; have := HA.out.2.2.2.2; omega⟩
      · obtain ⟨r, hr⟩ := hp_one ha
        have hrl : t.size = r.length + 1 := by rw [Lib.size_eq, hr]; rfl
        have hst : (t.extract 1 t.size).data.toList = r := by rw [drop_size, hr]; rfl
        have t2 : (1 : Int) ≤ (t.size : Int) := by omega
        have HA := Lib.hid (And.intro ha (And.intro hr (And.intro hst hrl)))
        clear ha hr hst hrl hF' k1 k2 k3 k4 k5
        go_wp2_with (go_at_call 26; refine (hasPrefix_val t ⟨#[47]⟩ true _ (by omega) (by decide) HA.out.1).mono ?_; rintro e w' ⟨rfl, rfl⟩)
        exact ⟨⟨p ++ [47], _, rfl, HT.out.1.add (.one .nil), by rw [HA.out.2.2.1, HT.out.2, HA.out.2.1]; simp, by first | rfl | trivial⟩, by show (t.extract 1 t.size).size < t.size; rw [Lib.size_eq (t.extract 1 t.size), HA.out.2.2.1]; have := HA.out.2.2.2; omega⟩

end Go.Proofs.YtpocoepcpfjgjaaFmt
