/-
  The contracts of a step at unquoted identifiers and at a token of another kind; conditions: those that each names.
-/
import Derived.Test.YtjinajfejbpicaaDoorStr2
namespace Go.Proofs.YtjinajfejbpicaaDoor
open Go.RowKit

theorem set_cells {W : World} {k : Nat} {cs : Array Value} {t : TypeId} {fr : Nat × Nat} (h : W.heap[k]? = some (.cells cs t fr)) (i : Nat) (u : Value) : (W.setCell ⟨k, i, none⟩ u).heap[k]? = some (.cells (cs.setIfInBounds i u) t fr) := by
  simp [World.setCell, Array.getElem?_modify, h]
theorem own_far {w : World} {B : Nat} {e : TypeId} {s : Nat} {v : Value} {n : Nat} {xs : List Value} (h : w.ownsRow B e s v n xs) {p : Addr} (hp : ∀ k, v.ownBlock = some k → k ≠ p.block) (u : Value) : (w.setCell p u).ownsRow B e s v n xs := by
  obtain ⟨h1, h2⟩ := h
  refine ⟨h1, ?_⟩
  rcases h2 with h | ⟨g, cap, cur, rfl, h4, h5, h6⟩
  · exact .inl h
  · exact .inr ⟨g, cap, cur, rfl, h4, (Below.heap_setCell w p u g (hp g rfl)).trans h5, h6⟩
/-- The world behind the store of a token into block k. -/
def put7 (W : World) (k : Nat) (u : Tok) : World :=
  ((((((W.setCell ⟨k, 0, none⟩ (.pointer none)).setCell ⟨k, 1, none⟩ (.string (S u.text))).setCell ⟨k, 2, none⟩ (.int .i32 u.loc)).setCell ⟨k, 3, none⟩ (.int .u32 0)).setCell ⟨k, 4, none⟩ (.int .u16 0)).setCell ⟨k, 5, none⟩ (.int .u8 u.kind)).setCell ⟨k, 6, none⟩ (.int .u8 u.ws)
theorem put7_box {W : World} {k : Nat} {t u : Tok} (h : W.heap[k]? = some (.cells #[.pointer none, .string (S t.text), .int .i32 t.loc, .int .u32 0, .int .u16 0, .int .u8 t.kind, .int .u8 t.ws] 48 (0, 0))) : (put7 W k u).heap[k]? = some (.cells #[.pointer none, .string (S u.text), .int .i32 u.loc, .int .u32 0, .int .u16 0, .int .u8 u.kind, .int .u8 u.ws] 48 (0, 0)) := by
  have := set_cells (set_cells (set_cells (set_cells (set_cells (set_cells (set_cells h 0 (.pointer none)) 1 (.string (S u.text))) 2 (.int .i32 u.loc)) 3 (.int .u32 0)) 4 (.int .u16 0)) 5 (.int .u8 u.kind)) 6 (.int .u8 u.ws)
  unfold put7
  simpa using this
theorem put7_below {B : Nat} {W0 W : World} {k : Nat} (u : Tok) (h : Below B W0 W) (hk : B ≤ k) : Below B W0 (put7 W k u) :=
  ((((((h.setCell (p := ⟨k, 0, none⟩) hk _).setCell (p := ⟨k, 1, none⟩) hk _).setCell (p := ⟨k, 2, none⟩) hk _).setCell (p := ⟨k, 3, none⟩) hk _).setCell (p := ⟨k, 4, none⟩) hk _).setCell (p := ⟨k, 5, none⟩) hk _).setCell (p := ⟨k, 6, none⟩) hk _
theorem put7_own {W : World} {k : Nat} (u : Tok) {B : Nat} {e : TypeId} {s : Nat} {v : Value} {n : Nat} {xs : List Value} (h : W.ownsRow B e s v n xs) (hp : ∀ j, v.ownBlock = some j → j ≠ k) : (put7 W k u).ownsRow B e s v n xs :=
  own_far (own_far (own_far (own_far (own_far (own_far (own_far h (p := ⟨k, 0, none⟩) hp _) (p := ⟨k, 1, none⟩) hp _) (p := ⟨k, 2, none⟩) hp _) (p := ⟨k, 3, none⟩) hp _) (p := ⟨k, 4, none⟩) hp _) (p := ⟨k, 5, none⟩) hp _) (p := ⟨k, 6, none⟩) hp _
theorem put7_run {W w : World} {v s1 : Value} {xs : List Value} (u : Tok) (h : Run w v xs s1 W) : Run w v xs s1 (put7 W w.heap.size u) :=
  ((((((h.set (p := ⟨w.heap.size, 0, none⟩) (Nat.le_refl _) _).set (p := ⟨w.heap.size, 1, none⟩) (Nat.le_refl _) _).set (p := ⟨w.heap.size, 2, none⟩) (Nat.le_refl _) _).set (p := ⟨w.heap.size, 3, none⟩) (Nat.le_refl _) _).set (p := ⟨w.heap.size, 4, none⟩) (Nat.le_refl _) _).set (p := ⟨w.heap.size, 5, none⟩) (Nat.le_refl _) _).set (p := ⟨w.heap.size, 6, none⟩) (Nat.le_refl _) _
theorem box_frozen {W : World} {k : Nat} {cs : Array Value} {t : TypeId} (h : W.heap[k]? = some (.cells cs t (0, 0))) (i : Nat) : W.frozen? ⟨k, i, none⟩ = false := by simp [World.frozen?, h]
theorem box_frozen' {W : World} {k : Nat} {cs : Array Value} {t : TypeId} (h : W.heap[k]? = some (.cells cs t (0, 0))) : ∀ i, W.frozen? ⟨k, i, none⟩ = false := box_frozen h

theorem lies_ne {v : Value} {g H bt n cap : Nat} (hat : v.ownBlock = some g ∨ g = H) (hv : ∀ k, v.ownBlock = some k → k ≠ bt) (hb : bt < H) : ∀ k, (Value.slice (some ⟨g, 0, none⟩) n cap).ownBlock = some k → k ≠ bt := by
  intro k hk
  obtain rfl : g = k := Option.some.inj hk
  rcases hat with h | h
  · exact hv _ h
  · omega
theorem lies_own {W : World} {B n DN : Nat} {v : Value} {xs : List Value} {done : List Tok} {u : Tok} (hd : done.length = DN) (h : W.ownsRow B 48 7 v (n + DN + 1) (xs ++ flat done ++ flat [u])) : W.ownsRow B 48 7 v (n + (done ++ [u]).length) (xs ++ flat (done ++ [u])) := by
  rw [flat_append, ← List.append_assoc, List.length_append, hd]
  exact h
def isI (u : Tok) : Bool := decide (u.kind = KI)
/-- The loop over the identifiers. -/
def IdnRel (w0 w : World) (v : Value) (bt : Nat) (T : List Tok) (n : Nat) (xs : List Value) (gk : Nat) (s1 s2 : Value) (wx : World) : Prop :=
  ∃ (done : List Tok) (u : Tok) (r : List Tok) (g o cap : Nat), T = done ++ u :: r ∧ (∀ x ∈ done, x.kind = KI ∧ V x.text = true) ∧ u.kind = KI ∧ wx.ownsRow w0.heap.size 48 7 s1 (n + done.length) (xs ++ flat done) ∧ Below w0.heap.size w0 wx ∧
    s2 = .slice (some ⟨g, o, none⟩) (r.length + 1) cap ∧ TokIn w0 (some ⟨g, o, none⟩) (r.length + 1) cap (u :: r) ∧ wx.heap[bt]? = some (.cells #[.pointer none, .string (S u.text), .int .i32 u.loc, .int .u32 0, .int .u16 0, .int .u8 u.kind, .int .u8 u.ws] 48 (0, 0)) ∧ (∀ k, s1.ownBlock = some k → k ≠ bt) ∧ gk = r.length ∧ Run w v xs s1 wx
theorem step_idn {mw : Bool} {t : Tok} {ts : List Tok} (hk : t.kind = KI) (hG : G t.text = false) : step V G mw (t :: ts) = if ((t :: ts).takeWhile isI).all (fun u => V u.text) then some ((t :: ts).takeWhile isI, (t :: ts).dropWhile isI) else none := by
  rw [step, if_neg (by rw [hG]; simp), if_neg (by rw [hk]; decide), if_pos hk]
  rfl
theorem tw_split : ∀ (done : List Tok) (r : List Tok), (∀ x ∈ done, x.kind = KI) → (done ++ r).takeWhile isI = done ++ r.takeWhile isI ∧ (done ++ r).dropWhile isI = r.dropWhile isI
  | [], r, _ => ⟨rfl, rfl⟩
  | x :: d, r, h => by
    obtain ⟨h1, h2⟩ := tw_split d r (fun y hy => h y (List.mem_cons_of_mem _ hy))
    have hx : isI x = true := by unfold isI; rw [h x (by simp)]; rfl
    rw [List.cons_append, List.takeWhile_cons, List.dropWhile_cons, hx, h1, h2]
    exact ⟨rfl, rfl⟩
/-- An identifier that is not valid. -/
theorem idn_bad {mw : Bool} {t : Tok} {ts done r : List Tok} {u : Tok} (hk : t.kind = KI) (hG : G t.text = false) (hT : t :: ts = done ++ u :: r) (hd : ∀ x ∈ done, x.kind = KI ∧ V x.text = true) (hu : u.kind = KI) (hv : V u.text = false) : step V G mw (t :: ts) = none := by
  rw [step_idn hk hG, hT, (tw_split done _ (fun x hx => (hd x hx).1)).1, if_neg]
  rw [List.takeWhile_cons, show isI u = true by unfold isI; rw [hu]; rfl]
  simp [hv]
/-- The identifiers end ahead of r. -/
theorem idn_end {mw : Bool} {t : Tok} {ts done r : List Tok} {u : Tok} (hk : t.kind = KI) (hG : G t.text = false) (hT : t :: ts = done ++ u :: r) (hd : ∀ x ∈ done, x.kind = KI ∧ V x.text = true) (hu : u.kind = KI) (hv : V u.text = true) (hr : r = [] ∨ ∃ c s, r = c :: s ∧ c.kind ≠ KI) : step V G mw (t :: ts) = some (done ++ [u], r) := by
  obtain ⟨h1, h2⟩ := tw_split done (u :: r) (fun x hx => (hd x hx).1)
  have hui : isI u = true := by unfold isI; rw [hu]; rfl
  have h3 : r.takeWhile isI = [] ∧ r.dropWhile isI = r := by
    rcases hr with rfl | ⟨c, s, rfl, hc⟩
    · exact ⟨rfl, rfl⟩
    · have : isI c = false := by unfold isI; exact decide_eq_false hc
      simp [this]
  rw [step_idn hk hG, hT, h1, h2, List.takeWhile_cons, List.dropWhile_cons, hui, if_pos rfl, if_pos rfl, h3.1, h3.2, if_pos]
  rw [List.all_append, List.all_eq_true.2 (fun x hx => (hd x hx).2)]
  simp [hv]

set_option maxHeartbeats 1000000 in
set_option maxRecDepth 100000 in
theorem step_other (pb g o : Nat) (mw : Bool) (cap : Nat) (t : Tok) (ts : List Tok) (w0 w : World) (v : Value) (n : Nat) (xs : List Value) (hc : Ctx w0 pb mw v w) (hts : TokIn w0 (some ⟨g, o, none⟩) (ts.length + 1) cap (t :: ts)) (hown : w.ownsRow w0.heap.size 48 7 v n xs) (h1 : t.kind ≠ 29) (h2 : t.kind ≠ 36) : Calls Tryd.prog 22 #[.pointer (some ⟨pb, 0, none⟩), v, .slice (some ⟨g, o, none⟩) (ts.length + 1 : Nat) cap] w (StepEnd w0 w v n xs none) := by
  obtain ⟨g', o', e, hh, hg⟩ := hts.head (i := 0) rfl
  cases e
  obtain ⟨c0, c1, c2, c3, c4, c5, c6⟩ := hh.up hc.below hg
  have q1 : (t.kind == 29) = false := by rw [beq_eq_false_iff_ne]; exact h1
  have q2 : (t.kind == 36) = false := by rw [beq_eq_false_iff_ne]; exact h2
  simp only [Nat.zero_mul, Nat.add_zero] at c0 c1 c2 c3 c4 c5 c6
  have hcap : ts.length + 1 ≤ cap ∧ cap ≤ maxLen := ⟨hts.2.1, hts.2.2.1⟩
  have HRU := Lib.hid ((Run.refl hown).alloc (.cells #[.pointer none, .string (S t.text), .int .i32 t.loc, .int .u32 0, .int .u16 0, .int .u8 t.kind, .int .u8 t.ws] 48))
  have HB := Lib.hid (hc.below.alloc hc.below.size (.cells #[.pointer none, .string (S t.text), .int .i32 t.loc, .int .u32 0, .int .u16 0, .int .u8 t.kind, .int .u8 t.ws] 48))
  obtain ⟨L, hL⟩ : ∃ L, ts.length = L := ⟨_, rfl⟩
  rw [hL] at hcap ⊢
  obtain ⟨hcap1, hcap2⟩ := hcap
  unfold maxLen at hcap2
  clear hh hc hts hL h1 h2 hown
  go_enter Tryd.func22, Tryd.ntmps22
  go_wp2_with fail
  exact bodyPost_ret (v := .tuple #[.slice none 0 0, .slice none 0 0, .bool false]) (by simp [results, Tryd.results22, go_sem]) rfl ⟨HB.out, ⟨_, HRU.out⟩, rfl⟩

set_option maxHeartbeats 16000000 in
set_option maxRecDepth 100000 in
theorem step_ident (pb g o : Nat) (mw : Bool) (cap : Nat) (t : Tok) (ts : List Tok) (w0 w : World) (v : Value) (n : Nat) (xs : List Value) (hc : Ctx w0 pb mw v w) (hts : TokIn w0 (some ⟨g, o, none⟩) (ts.length + 1) cap (t :: ts)) (hown : w.ownsRow w0.heap.size 48 7 v n xs) (hn : n + ts.length ≤ 8388608) (hsz : ∀ x ∈ t :: ts, x.text.length ≤ 4194304)
    (hk : t.kind = 29) (hG : G t.text = false) : Calls Tryd.prog 22 #[.pointer (some ⟨pb, 0, none⟩), v, .slice (some ⟨g, o, none⟩) (ts.length + 1 : Nat) cap] w (StepEnd w0 w v n xs (step V G mw (t :: ts))) := by
  obtain ⟨i0, hi, hz0, hz1, hz2⟩ := info_parts info48
  obtain ⟨g', o', e, hh, hg⟩ := hts.head (i := 0) rfl
  cases e
  obtain ⟨c0, c1, c2, c3, c4, c5, c6⟩ := hh.up hc.below hg
  have q1 : (t.kind == 29) = true := by rw [hk]; rfl
  have q2 : (t.kind == 36) = false := by rw [hk]; rfl
  simp only [Nat.zero_mul, Nat.add_zero] at c0 c1 c2 c3 c4 c5 c6
  have hcap : ts.length + 1 ≤ cap ∧ cap ≤ maxLen := ⟨hts.2.1, hts.2.2.1⟩
  have hbs := hc.below.size
  have HI := Lib.hid (And.intro hi (And.intro hz0 (And.intro hz1 hz2)))
  obtain ⟨bm, hm1, hm2⟩ := hc.tabs.g
  have hgl := fun (wx : World) (hx : Below w0.heap.size w0 wx) => (hx.cell (World.block_lt_of_cell? w0 _ hm1)).trans hm1
  have hlk := fun wx (hx : Below w0.heap.size w0 wx) => (hm2.up hx).run (S t.text) (by rw [S_size]; have := hsz t (by simp); unfold maxLen; omega)
  rw [S_data] at hlk
  change ∀ wx, Below w0.heap.size w0 wx → (Instr.lookup 34 (.map (some bm)) (.string (S t.text)) false).run Tryd.prog wx = .ok (.bool (G t.text)) wx at hlk
  rw [hG] at hlk
  have hba := hc.below.alloc hc.below.size (.cells #[.pointer none, .string (S t.text), .int .i32 t.loc, .int .u32 0, .int .u16 0, .int .u8 t.kind, .int .u8 t.ws] 48)
  have hk1 := hlk _ hba
  have hk2 := hgl _ hba
  have HG := Lib.hid hgl
  have HM := Lib.hid (fun (x : Bs) (hx : x.length ≤ 4194304) (wx : World) (hb : Below w0.heap.size w0 wx) => by have := valid_any (S x) (by rw [S_size]; omega) bm wx (hc.tabs.up hb) (hm2.up hb); rwa [S_data] at this)
  have HC := Lib.hid (And.intro hc (And.intro hts (And.intro hown (And.intro hk (And.intro hG hsz)))))
  have hlow : ∀ k, v.ownBlock = some k → k ≠ w.heap.size := fun k hk => by have := (hown.lt k hk).2; omega
  have HZ := Lib.hid (⟨[], t, ts, g, o, cap, rfl, fun x hx => (by cases hx), hk, by have := hown.alloc (.cells #[.pointer none, .string (S t.text), .int .i32 t.loc, .int .u32 0, .int .u16 0, .int .u8 t.kind, .int .u8 t.ws] 48); simpa [flat] using this, hba, rfl, hts, heap_alloc_new w _, hlow, rfl, (Run.refl hown).alloc _⟩ : IdnRel w0 w v w.heap.size (t :: ts) n xs ts.length v (.slice (some ⟨g, o, none⟩) (ts.length + 1) cap) (w.alloc (.cells #[.pointer none, .string (S t.text), .int .i32 t.loc, .int .u32 0, .int .u16 0, .int .u8 t.kind, .int .u8 t.ws] 48)))
  obtain ⟨L, hL⟩ : ∃ L, ts.length = L := ⟨_, rfl⟩
  rw [hL] at hcap hn HZ
  obtain ⟨hcap1, hcap2⟩ := hcap
  unfold maxLen at hcap2
  have HLL := Lib.hid hL
  rw [hL]
  clear hi hz0 hz1 hz2 hh hk hc hts hown hm1 hm2 hL hsz hG hlk hgl hba hlow
  go_enter Tryd.func22, Tryd.ntmps22
  go_wp2_with fail
  clear hk1 hk2 q1 q2 c0 c1 c2 c3 c4 c5 c6 hcap1 hcap2
  go_loopg [1, 2] L (fun gk s1 s2 wx => IdnRel w0 w v w.heap.size (t :: ts) n xs gk s1 s2 wx)
  case atStart => exact HZ.out
  case round =>
    clear HZ
    obtain ⟨done, u, r, g2, o2, cap2, hT, hd, hu, hown, hbw, rfl, htk, hbox, hne, rfl, hrun⟩ := hrel
    have HRUN := Lib.hid hrun
    clear hrun
    have hlen : done.length + (r.length + 1) = L + 1 := by
      have := congrArg List.length hT
      rw [List.length_cons, List.length_append, List.length_cons, HLL.out] at this
      omega
    have hum : u.text.length ≤ 4194304 := HC.out.2.2.2.2.2 u (by rw [hT]; simp)
    have hgl := HG.out _ hbw
    obtain ⟨k0, k1, k2, k3, k4, k5, k6⟩ := box_cells hbox
    simp only [Nat.zero_add] at k1 k2 k3 k4 k5 k6
    have hcap2 : r.length + 1 ≤ cap2 ∧ cap2 ≤ maxLen := ⟨htk.2.1, htk.2.2.1⟩
    obtain ⟨hc2a, hc2b⟩ := hcap2
    unfold maxLen at hc2b
    have HR := Lib.hid (And.intro hT (And.intro hd (And.intro hu (And.intro hown (And.intro hbw (And.intro htk (And.intro hbox hne)))))))
    obtain ⟨R, hR⟩ : ∃ R, r.length = R := ⟨_, rfl⟩
    obtain ⟨DN, hDN⟩ : ∃ D, done.length = D := ⟨_, rfl⟩
    rw [hR, hDN] at hlen
    rw [hR] at hc2a ⊢
    have HRR := Lib.hid (And.intro hR hDN)
    clear hT hd hu hown hbw htk hbox hne hR hDN
    cases hv : V u.text
    · have HS := Lib.hid (idn_bad (mw := mw) HC.out.2.2.2.1 HC.out.2.2.2.2.1 HR.out.1 HR.out.2.1 HR.out.2.2.1 hv)
      have HV := Lib.hid hv
      clear hv
      go_wp2_with fail
      refine (HM.out u.text hum _ HR.out.2.2.2.2.1).mono ?_
      rintro e w2 ⟨rfl, hb2⟩
      have HB := Lib.hid (HR.out.2.2.2.2.1.trans (hb2.mono HR.out.2.2.2.2.1.size))
      rw [HV.out]
      have HRW := Lib.hid (HRUN.out.below hb2)
      clear hb2
      go_wp2_with fail
      refine bodyPost_ret (v := .tuple #[.slice none 0 0, .slice none 0 0, .bool false]) (by simp [results, Tryd.results22, go_sem]) rfl ?_
      rw [HS.out]
      exact ⟨HB.out, ⟨_, HRW.out⟩, rfl⟩
    · have HV := Lib.hid hv
      clear hv
      rcases r with _ | ⟨c, s⟩
      · obtain rfl : R = 0 := HRR.out.1.symm
        have HS := Lib.hid (idn_end (mw := mw) HC.out.2.2.2.1 HC.out.2.2.2.2.1 HR.out.1 HR.out.2.1 HR.out.2.2.1 HV.out (.inl rfl))
        by_cases hc1 : cap2 = 1
        · subst hc1
          go_wp2_with fail
          refine (HM.out u.text hum _ HR.out.2.2.2.2.1).mono ?_
          rintro e w2 ⟨rfl, hb2⟩
          rw [HV.out]
          have hw2 := HR.out.2.2.2.2.1.trans (hb2.mono HR.out.2.2.2.2.1.size)
          have hbx2 := (hb2.block w.heap.size (Array.getElem?_eq_some_iff.1 HR.out.2.2.2.2.2.2.1).1).trans HR.out.2.2.2.2.2.2.1
          obtain ⟨j0, j1, j2, j3, j4, j5, j6⟩ := box_cells hbx2
          simp only [Nat.zero_add] at j1 j2 j3 j4 j5 j6
          have ho2 := own_up HR.out.2.2.2.1 hb2
          rw [HRR.out.2] at ho2
          have hw2s := hw2.size
          have HW2 := Lib.hid (And.intro hw2 (And.intro hbx2 ho2))
          have HRW := Lib.hid (HRUN.out.below hb2)
          clear hb2 hw2 hbx2 ho2 k0 k1 k2 k3 k4 k5 k6 hgl
          go_wp2_with (at_builtin; refine wpList_keep rfl _ _ rfl w0.heap.size _ _ _ rfl (HW2.out.2.2.alloc _) ⟨w2.heap.size, 0, none⟩ 1 1 (flat [u]) rfl rfl (seven_in u (heap_alloc_new w2 _)) (one_cells u) (by omega) (by omega) (by simp; omega) (w2.heap.size + 1) (by simp) ?_; intro g1 cap1 w3 hkk; obtain ⟨hown1, hg1, hat1, hlt1, hkp⟩ := hkk; (have hltb := (Array.getElem?_eq_some_iff.1 HW2.out.2.1).1); (have hbel : Below w0.heap.size w0 w3 := (HW2.out.1.alloc hw2s _).grown hg1 (Nat.le_trans hw2s (by simp)) (fun k hk => own_lt HW2.out.2.2 k hk)); (have hbx3 : w3.heap[w.heap.size]? = _ := (hg1.block w.heap.size (by simp; omega) (fun h => (HR.out.2.2.2.2.2.2.2 _ h.symm) rfl)).trans ((Below.heap_alloc w2 _ _ hltb).trans HW2.out.2.1)); (have hne3 := lies_ne (n := n + DN + 1) (cap := cap1) hat1 HR.out.2.2.2.2.2.2.2 (by omega)); (have HX := Lib.hid (And.intro hbel (And.intro (lies_own HRR.out.2 hown1) (And.intro hbx3 hne3)))); (have HXR := Lib.hid ((HRW.out.alloc _).app (lies_own HRR.out.2 hown1) hg1 hat1 (by simp) hkp)); (have hf := box_frozen' hbx3); skip; clear hbel hown1 hg1 hat1 hkp hbx3 hne3 j0 j1 j2 j3 j4 j5 j6 hf)
          have htl := HR.out.2.2.2.2.2.1.tail (some ⟨g2, o2, none⟩) (fun h => absurd rfl h)
          rw [HRR.out.1] at htl
          refine bodyPost_ret (v := .tuple #[.slice (some ⟨g1, 0, none⟩) (n + DN + 1) cap1, .slice (some ⟨g2, o2, none⟩) 0 0, .bool true]) (by simp [results, Tryd.results22, go_sem]) rfl ?_
          rw [HS.out]
          exact ⟨HX.out.1, ⟨_, HXR.out⟩, _, _, _, by rw [HRR.out.1], by rw [HRR.out.1]; simpa using htl, HX.out.2.1, HXR.out⟩
        · skip
          go_wp2_with fail
          refine (HM.out u.text hum _ HR.out.2.2.2.2.1).mono ?_
          rintro e w2 ⟨rfl, hb2⟩
          rw [HV.out]
          have hw2 := HR.out.2.2.2.2.1.trans (hb2.mono HR.out.2.2.2.2.1.size)
          have hbx2 := (hb2.block w.heap.size (Array.getElem?_eq_some_iff.1 HR.out.2.2.2.2.2.2.1).1).trans HR.out.2.2.2.2.2.2.1
          obtain ⟨j0, j1, j2, j3, j4, j5, j6⟩ := box_cells hbx2
          simp only [Nat.zero_add] at j1 j2 j3 j4 j5 j6
          have ho2 := own_up HR.out.2.2.2.1 hb2
          rw [HRR.out.2] at ho2
          have hw2s := hw2.size
          have HW2 := Lib.hid (And.intro hw2 (And.intro hbx2 ho2))
          have HRW := Lib.hid (HRUN.out.below hb2)
          clear hb2 hw2 hbx2 ho2 k0 k1 k2 k3 k4 k5 k6 hgl
          go_wp2_with (at_builtin; refine wpList_keep rfl _ _ rfl w0.heap.size _ _ _ rfl (HW2.out.2.2.alloc _) ⟨w2.heap.size, 0, none⟩ 1 1 (flat [u]) rfl rfl (seven_in u (heap_alloc_new w2 _)) (one_cells u) (by omega) (by omega) (by simp; omega) (w2.heap.size + 1) (by simp) ?_; intro g1 cap1 w3 hkk; obtain ⟨hown1, hg1, hat1, hlt1, hkp⟩ := hkk; (have hltb := (Array.getElem?_eq_some_iff.1 HW2.out.2.1).1); (have hbel : Below w0.heap.size w0 w3 := (HW2.out.1.alloc hw2s _).grown hg1 (Nat.le_trans hw2s (by simp)) (fun k hk => own_lt HW2.out.2.2 k hk)); (have hbx3 : w3.heap[w.heap.size]? = _ := (hg1.block w.heap.size (by simp; omega) (fun h => (HR.out.2.2.2.2.2.2.2 _ h.symm) rfl)).trans ((Below.heap_alloc w2 _ _ hltb).trans HW2.out.2.1)); (have hne3 := lies_ne (n := n + DN + 1) (cap := cap1) hat1 HR.out.2.2.2.2.2.2.2 (by omega)); (have HX := Lib.hid (And.intro hbel (And.intro (lies_own HRR.out.2 hown1) (And.intro hbx3 hne3)))); (have HXR := Lib.hid ((HRW.out.alloc _).app (lies_own HRR.out.2 hown1) hg1 hat1 (by simp) hkp)); (have hf := box_frozen' hbx3); skip; clear hbel hown1 hg1 hat1 hkp hbx3 hne3 j0 j1 j2 j3 j4 j5 j6 hf)
          have htl := HR.out.2.2.2.2.2.1.tail (some ⟨g2, o2 + 7, none⟩) (fun _ => rfl)
          rw [HRR.out.1] at htl
          refine bodyPost_ret (v := .tuple #[.slice (some ⟨g1, 0, none⟩) (n + DN + 1) cap1, .slice (some ⟨g2, o2 + 7, none⟩) 0 (cap2 - 1), .bool true]) (by simp [results, Tryd.results22, go_sem]) rfl ?_
          rw [HS.out]
          exact ⟨HX.out.1, ⟨_, HXR.out⟩, _, _, _, by rw [HRR.out.1], by rw [HRR.out.1]; simpa using htl, HX.out.2.1, HXR.out⟩
      · have hRp : R = s.length + 1 := HRR.out.1.symm
        have hc1 : ¬ cap2 = 1 := by omega
        have htl0 := HR.out.2.2.2.2.2.1.tail (some ⟨g2, o2 + 7, none⟩) (fun _ => rfl)
        obtain ⟨g4, o4, e4, hhd, hg4⟩ := htl0.head (i := 0) rfl
        cases e4
        simp only [Nat.zero_mul, Nat.add_zero] at hhd
        have HT := Lib.hid (And.intro htl0 (And.intro hhd hg4))
        clear htl0 hhd hg4
        by_cases hck : c.kind = 29
        · have p1 : (c.kind != 29) = false := by rw [hck]; rfl
          have HCK := Lib.hid hck
          clear hck
          go_wp2_with fail
          refine (HM.out u.text hum _ HR.out.2.2.2.2.1).mono ?_
          rintro e w2 ⟨rfl, hb2⟩
          rw [HV.out]
          have hw2 := HR.out.2.2.2.2.1.trans (hb2.mono HR.out.2.2.2.2.1.size)
          have hbx2 := (hb2.block w.heap.size (Array.getElem?_eq_some_iff.1 HR.out.2.2.2.2.2.2.1).1).trans HR.out.2.2.2.2.2.2.1
          obtain ⟨j0, j1, j2, j3, j4, j5, j6⟩ := box_cells hbx2
          simp only [Nat.zero_add] at j1 j2 j3 j4 j5 j6
          have ho2 := own_up HR.out.2.2.2.1 hb2
          rw [HRR.out.2] at ho2
          have hw2s := hw2.size
          have HW2 := Lib.hid (And.intro hw2 (And.intro hbx2 ho2))
          have HRW := Lib.hid (HRUN.out.below hb2)
          clear hb2 hw2 hbx2 ho2 k0 k1 k2 k3 k4 k5 k6 hgl
          go_wp2_with (at_builtin; refine wpList_keep rfl _ _ rfl w0.heap.size _ _ _ rfl (HW2.out.2.2.alloc _) ⟨w2.heap.size, 0, none⟩ 1 1 (flat [u]) rfl rfl (seven_in u (heap_alloc_new w2 _)) (one_cells u) (by omega) (by omega) (by simp; omega) (w2.heap.size + 1) (by simp) ?_; intro g1 cap1 w3 hkk; obtain ⟨hown1, hg1, hat1, hlt1, hkp⟩ := hkk; (have hltb := (Array.getElem?_eq_some_iff.1 HW2.out.2.1).1); (have hbel : Below w0.heap.size w0 w3 := (HW2.out.1.alloc hw2s _).grown hg1 (Nat.le_trans hw2s (by simp)) (fun k hk => own_lt HW2.out.2.2 k hk)); (have hbx3 : w3.heap[w.heap.size]? = _ := (hg1.block w.heap.size (by simp; omega) (fun h => (HR.out.2.2.2.2.2.2.2 _ h.symm) rfl)).trans ((Below.heap_alloc w2 _ _ hltb).trans HW2.out.2.1)); (have hne3 := lies_ne (n := n + DN + 1) (cap := cap1) hat1 HR.out.2.2.2.2.2.2.2 (by omega)); (have HX := Lib.hid (And.intro hbel (And.intro (lies_own HRR.out.2 hown1) (And.intro hbx3 hne3)))); (have HXR := Lib.hid ((HRW.out.alloc _).app (lies_own HRR.out.2 hown1) hg1 hat1 (by simp) hkp)); (have hf := box_frozen' hbx3); (obtain ⟨d0, d1, d2, d3, d4, d5, d6⟩ := HT.out.2.1.up hbel HT.out.2.2); (obtain ⟨e0, e1, e2, e3, e4, e5, e6⟩ := box_cells hbx3); (simp only [Nat.zero_add] at e1 e2 e3 e4 e5 e6); (have f0 := hf 0); (have f1 := hf 1); (have f2 := hf 2); (have f3 := hf 3); (have f4 := hf 4); (have f5 := hf 5); (have f6 := hf 6); clear hbel hown1 hg1 hat1 hkp hbx3 hne3 j0 j1 j2 j3 j4 j5 j6 hf)
          have hbtl : w0.heap.size ≤ w.heap.size := HC.out.1.below.size
          have htl := HT.out.1
          go_roundg s.length
          case measure => exact Nat.lt_succ_self _
          case rel => exact ⟨done ++ [u], c, s, g2, o2 + 7, cap2 - 1, by rw [List.append_assoc]; exact HR.out.1, fun x hx => by
              rcases List.mem_append.1 hx with hx | hx
              · exact HR.out.2.1 x hx
              · obtain rfl : x = u := by simpa using hx
                exact ⟨HR.out.2.2.1, HV.out⟩, HCK.out, put7_own c HX.out.2.1 HX.out.2.2.2, put7_below c HX.out.1 hbtl, rfl, by simpa using htl, put7_box HX.out.2.2.1, HX.out.2.2.2, rfl, put7_run c HXR.out⟩
        · have p1 : (c.kind != 29) = true := by unfold bne; rw [beq_eq_false_iff_ne.2 hck]; rfl
          have HS := Lib.hid (idn_end (mw := mw) HC.out.2.2.2.1 HC.out.2.2.2.2.1 HR.out.1 HR.out.2.1 HR.out.2.2.1 HV.out (.inr ⟨c, s, rfl, hck⟩))
          clear hck
          go_wp2_with fail
          refine (HM.out u.text hum _ HR.out.2.2.2.2.1).mono ?_
          rintro e w2 ⟨rfl, hb2⟩
          rw [HV.out]
          have hw2 := HR.out.2.2.2.2.1.trans (hb2.mono HR.out.2.2.2.2.1.size)
          have hbx2 := (hb2.block w.heap.size (Array.getElem?_eq_some_iff.1 HR.out.2.2.2.2.2.2.1).1).trans HR.out.2.2.2.2.2.2.1
          obtain ⟨j0, j1, j2, j3, j4, j5, j6⟩ := box_cells hbx2
          simp only [Nat.zero_add] at j1 j2 j3 j4 j5 j6
          have ho2 := own_up HR.out.2.2.2.1 hb2
          rw [HRR.out.2] at ho2
          have hw2s := hw2.size
          have HW2 := Lib.hid (And.intro hw2 (And.intro hbx2 ho2))
          have HRW := Lib.hid (HRUN.out.below hb2)
          clear hb2 hw2 hbx2 ho2 k0 k1 k2 k3 k4 k5 k6 hgl
          go_wp2_with (at_builtin; refine wpList_keep rfl _ _ rfl w0.heap.size _ _ _ rfl (HW2.out.2.2.alloc _) ⟨w2.heap.size, 0, none⟩ 1 1 (flat [u]) rfl rfl (seven_in u (heap_alloc_new w2 _)) (one_cells u) (by omega) (by omega) (by simp; omega) (w2.heap.size + 1) (by simp) ?_; intro g1 cap1 w3 hkk; obtain ⟨hown1, hg1, hat1, hlt1, hkp⟩ := hkk; (have hltb := (Array.getElem?_eq_some_iff.1 HW2.out.2.1).1); (have hbel : Below w0.heap.size w0 w3 := (HW2.out.1.alloc hw2s _).grown hg1 (Nat.le_trans hw2s (by simp)) (fun k hk => own_lt HW2.out.2.2 k hk)); (have hbx3 : w3.heap[w.heap.size]? = _ := (hg1.block w.heap.size (by simp; omega) (fun h => (HR.out.2.2.2.2.2.2.2 _ h.symm) rfl)).trans ((Below.heap_alloc w2 _ _ hltb).trans HW2.out.2.1)); (have hne3 := lies_ne (n := n + DN + 1) (cap := cap1) hat1 HR.out.2.2.2.2.2.2.2 (by omega)); (have HX := Lib.hid (And.intro hbel (And.intro (lies_own HRR.out.2 hown1) (And.intro hbx3 hne3)))); (have HXR := Lib.hid ((HRW.out.alloc _).app (lies_own HRR.out.2 hown1) hg1 hat1 (by simp) hkp)); (have hf := box_frozen' hbx3); (obtain ⟨d0, d1, d2, d3, d4, d5, d6⟩ := HT.out.2.1.up hbel HT.out.2.2); clear hbel hown1 hg1 hat1 hkp hbx3 hne3 j0 j1 j2 j3 j4 j5 j6 hf)
          have htl := HR.out.2.2.2.2.2.1.tail (some ⟨g2, o2 + 7, none⟩) (fun _ => rfl)
          rw [HRR.out.1] at htl
          rw [hRp] at htl
          refine bodyPost_ret (v := .tuple #[.slice (some ⟨g1, 0, none⟩) (n + DN + 1) cap1, .slice (some ⟨g2, o2 + 7, none⟩) (s.length + 1) (cap2 - 1), .bool true]) (by simp [results, Tryd.results22, go_sem]) rfl ?_
          rw [HS.out]
          exact ⟨HX.out.1, ⟨_, HXR.out⟩, _, _, _, rfl, by simpa using htl, HX.out.2.1, HXR.out⟩
end Go.Proofs.YtjinajfejbpicaaDoor
