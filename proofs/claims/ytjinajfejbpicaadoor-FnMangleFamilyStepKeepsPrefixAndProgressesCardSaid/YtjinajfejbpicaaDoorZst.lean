/-
  The contract of the exported step, and what a row keeps while another grows; conditions: those that each names.
-/
import Derived.Test.YtjinajfejbpicaaDoorBtk
namespace Go.Proofs.YtjinajfejbpicaaDoor
open Go.RowKit

set_option maxHeartbeats 4000000 in
set_option maxRecDepth 100000 in
theorem parser_at (b : Bool) (w : World) : Calls Tryd.prog 19 #[.bool b] w fun e w' => e = .returned (.pointer (some ⟨w.heap.size, 0, none⟩)) ∧ w'.cell? ⟨w.heap.size, 50, none⟩ = some (.bool b) ∧ Below w.heap.size w w' := by
  go_enter Tryd.func19, Tryd.ntmps19
  go_wp2_with fail
  go_ret
  exact ⟨rfl, by go_simp, (Below.refl _ _).alloc (Nat.le_refl _) _⟩
theorem Run.since {w w1 wx : World} {v s1 : Value} {xs : List Value} (h : Run w1 v xs s1 wx) (hb : Below w.heap.size w w1) (hv : ∀ k, v.ownBlock = some k → k < w.heap.size) : Run w v xs s1 wx := by
  have hs := hb.size
  refine ⟨fun k hk hne => (h.fr k (by omega) hne).trans (hb.block k hk), Nat.le_trans hs h.sz, fun k hk => ?_, hv, h.kx⟩
  rcases h.at_ k hk with h1 | h1
  · exact .inl h1
  · exact .inr (by omega)
/-- Another row stays. -/
theorem Run.own {w wx : World} {v s1 u : Value} {xs ys : List Value} {B n s : Nat} {e : TypeId} (h : Run w v xs s1 wx) (ho : w.ownsRow B e s u n ys) (hne : ∀ k, u.ownBlock = some k → v.ownBlock ≠ some k) : wx.ownsRow B e s u n ys := by
  obtain ⟨h1, h2⟩ := ho
  refine ⟨h1, ?_⟩
  rcases h2 with h2 | ⟨g, cap, cur, rfl, h4, h5, h6⟩
  · exact .inl h2
  · exact .inr ⟨g, cap, cur, rfl, h4, (h.fr g (Array.getElem?_eq_some_iff.1 h5).1 (hne g rfl)).trans h5, h6⟩
/-- A row's first tokens, as they are read. -/
theorem tok_of_kx {w : World} {g n cap : Nat} {ts : List Tok} (h : KX (.slice (some ⟨g, 0, none⟩) n cap) (flat ts) w) (hl : ts.length = n) (h1 : n ≤ cap) (h2 : cap ≤ maxLen) : TokIn w (some ⟨g, 0, none⟩) n cap ts := by
  refine ⟨hl, h1, h2, .inr ⟨g, 0, rfl, fun i t hi j u hu => ?_⟩⟩
  have := h g rfl (i * 7 + j) u (flat_get ts i t j u hi hu)
  have e : (⟨g, 0, none⟩ : Addr).add (i * 7 + j) = ⟨g, 0 + (i * 7 + j), none⟩ := by
    unfold Addr.add
    split
    · next h0 => rw [h0]
    · rfl
  rwa [e] at this
set_option maxHeartbeats 2000000 in
set_option maxRecDepth 100000 in
theorem zst_any (mw : Bool) (a : Option Addr) (len cap : Nat) (ts : List Tok) (w0 w : World) (v : Value) (n : Nat) (xs : List Value) (hT : Tabs w0) (hb : Below w0.heap.size w0 w) (hts : TokIn w0 a len cap ts) (hown : w.ownsRow w0.heap.size 48 7 v n xs) (hn : n + ts.length ≤ 8388608) (hsz : ∀ x ∈ ts, x.text.length ≤ 4194304) :
    Calls Tryd.prog 18 #[.bool mw, v, .slice a len cap] w (StepEnd w0 w v n xs (step V G mw ts)) := by
  have hvl : ∀ k, v.ownBlock = some k → k < w.heap.size := fun k hk => (hown.lt k hk).2
  have HS := Lib.hid (fun (w1 : World) (hb1 : Below w.heap.size w w1) (hp : w1.cell? ⟨w.heap.size, 50, none⟩ = some (.bool mw)) => step_any w.heap.size mw a len cap ts w0 w1 v n xs ⟨hT, hp, fun e => by have := hvl _ e; omega, hb.trans (hb1.mono hb.size)⟩ hts (own_up hown hb1) hn hsz)
  have HV := Lib.hid hvl
  obtain ⟨r, hr⟩ : ∃ r, step V G mw ts = r := ⟨_, rfl⟩
  rw [hr] at HS ⊢
  clear hT hb hts hown hn hsz hvl hr
  go_enter Tryd.func18, Tryd.ntmps18
  go_wp2_with fail
  refine (parser_at mw _).mono ?_
  rintro e w1 ⟨rfl, hp, hb1⟩
  have HM := Lib.hid (HS.out w1 hb1 hp)
  have HB := Lib.hid hb1
  clear hp hb1
  go_wp2_with fail
  refine HM.out.mono ?_
  cases r with
  | none =>
    rintro e w2 ⟨hb2, ⟨s1, hrun⟩, rfl⟩
    have HX := Lib.hid (And.intro hb2 (hrun.since HB.out HV.out))
    clear hb2 hrun
    go_wp2_with fail
    exact bodyPost_ret (v := .tuple #[.slice none 0 0, .slice none 0 0, .bool false]) (by simp [results, Tryd.results18, go_sem]) rfl ⟨HX.out.1, ⟨_, HX.out.2⟩, rfl⟩
  | some p =>
    obtain ⟨o, rest⟩ := p
    rintro e w2 ⟨hb2, _, v', a', cap', rfl, htk, ho, hrun⟩
    have HX := Lib.hid (And.intro hb2 (And.intro htk (And.intro ho (hrun.since HB.out HV.out))))
    clear hb2 hrun htk ho
    go_wp2_with fail
    exact bodyPost_ret (v := .tuple #[v', .slice a' rest.length cap', .bool true]) (by simp [results, Tryd.results18, go_sem]) rfl ⟨HX.out.1, ⟨_, HX.out.2.2.2⟩, v', a', cap', rfl, HX.out.2.1, HX.out.2.2.1, HX.out.2.2.2⟩
end Go.Proofs.YtjinajfejbpicaaDoor
