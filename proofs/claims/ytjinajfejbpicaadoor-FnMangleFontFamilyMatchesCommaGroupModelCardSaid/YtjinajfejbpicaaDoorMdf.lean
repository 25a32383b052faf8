/-
  The contract of the law's own model of a font family: split at commas, judge each group, rejoin; conditions: those that each lemma names.
-/
import Derived.Test.YtjinajfejbpicaaDoorGrp
namespace Go.Proofs.YtjinajfejbpicaaDoor
open Go.RowKit

def MM (mw : Bool) (l : List Tok) : Option (List Tok) := model V G mw (l.length + 1) l
theorem MM_fuel {mw : Bool} (n : Nat) (l : List Tok) (h : l.length < n) : model V G mw n l = MM mw l := by
  unfold MM
  rw [← mangle_model gen_low, ← mangle_model gen_low]
  exact mangle_fuel _ _ _ h (by omega)
theorem MM_seg {mw : Bool} {g r : List Tok} (hg : ∀ u ∈ g, u.kind ≠ KC) (hr : EndOK r) : MM mw (g ++ r) = match grp V G mw g with
    | none => none
    | some o => match r with
      | [] => some o
      | c :: s => (MM mw s).map fun x => o ++ c :: x := by
  obtain ⟨h1, h2⟩ := tw_nc g r hg hr
  unfold MM
  rw [model, h1, h2]
  cases grp V G mw g with
  | none => rfl
  | some o =>
    cases r with
    | nil => rfl
    | cons c s =>
      show Option.map _ (model V G mw (g ++ c :: s).length s) = _
      rw [MM_fuel _ s (by simp; omega)]
      rfl
theorem grp_wt {mw : Bool} {g o : List Tok} (h : grp V G mw g = some o) : o.length ≤ wt g ∧ o ≠ [] := by
  refine ⟨?_, (grp_again gen_low h).1⟩
  cases g with
  | nil => cases h
  | cons t r =>
    rw [grp_cons] at h
    split at h
    · cases h
      rw [wt]; simp; omega
    · split at h
      · cases h
        have h1 : (expand V mw t).length ≤ t.text.length + 1 := by
          unfold expand
          split
          · unfold idents; rw [List.length_mapIdx]; exact spSplit_len _
          · simp
        rw [wt]; omega
      · split at h
        · cases h
          have := wt_len (t :: r)
          omega
        · cases h
theorem TokIn.sub {w : World} {g o len cap : Nat} {pre gg r : List Tok} (h : TokIn w (some ⟨g, o, none⟩) len cap (pre ++ (gg ++ r))) (a : Option Addr) (ha : ¬ cap = pre.length → a = some ⟨g, o + pre.length * 7, none⟩) : TokIn w a gg.length (cap - pre.length) gg := by
  obtain ⟨h1, h2, h3, h4⟩ := h
  simp only [List.length_append] at h1
  refine ⟨rfl, by omega, by omega, ?_⟩
  cases hg : gg with
  | nil => exact .inl rfl
  | cons t s =>
    rw [hg] at h1 h4
    simp only [List.length_cons] at h1
    rcases h4 with h | ⟨g', o', e, h5⟩
    · simp at h
    · cases e
      refine .inr ⟨g, o + pre.length * 7, ha (by omega), fun i x hx j u hu => ?_⟩
      have hi : i < (t :: s).length := (List.getElem?_eq_some_iff.1 hx).1
      have := h5 (pre.length + i) x (by rw [List.getElem?_append_right (by omega), Nat.add_sub_cancel_left, List.getElem?_append_left hi]; exact hx) j u hu
      rw [show o + ((pre.length + i) * 7 + j) = o + pre.length * 7 + (i * 7 + j) by rw [Nat.add_mul]; omega] at this
      exact this

def MdlRel (w : World) (mw : Bool) (T : List Tok) (gk : Nat) (s8 s9 s10 : Value) (wx : World) : Prop :=
  ∃ acc : List Tok, wx.ownsRow w.heap.size 48 7 s8 acc.length (flat acc) ∧ Below w.heap.size w wx ∧
    ((∃ pre g r, T = pre ++ (g ++ r) ∧ (∀ u ∈ g, u.kind ≠ KC) ∧ s9 = .int .i64 (pre.length : Nat) ∧ s10 = .int .i64 ((pre.length + g.length : Nat)) ∧ gk = r.length + 1 ∧ MM mw T = (MM mw (g ++ r)).map (fun x => acc ++ x) ∧ acc.length + wt (g ++ r) ≤ wt T) ∨ (s10 = .int .i64 ((T.length + 1 : Nat)) ∧ gk = 0 ∧ MM mw T = some acc))

set_option maxHeartbeats 8000000 in
set_option maxRecDepth 100000 in
theorem mdl_any (g0 o0 cap : Nat) (T : List Tok) (mw : Bool) (bm : Nat) (w : World) (hts : TokIn w (some ⟨g0, o0, none⟩) T.length cap T) (hT : Tabs w) (hM : MapB genD bm w) (hsz : ∀ x ∈ T, x.text.length ≤ 4194304) (hwt : wt T ≤ 8388608) :
    Calls Tryd.prog 16 #[.slice (some ⟨g0, o0, none⟩) (T.length : Nat) cap, .bool mw, .map (some bm)] w (GrpEnd w (MM mw T)) := by
  obtain ⟨i0, hi, hz0, hz1, hz2⟩ := info_parts info48
  have HI := Lib.hid (And.intro hi (And.intro hz0 (And.intro hz1 hz2)))
  have hc1 := hts.2.1
  have hc2 := hts.2.2.1
  unfold maxLen at hc2
  have hwl := wt_len T
  have H := Lib.hid (And.intro hts (And.intro hT (And.intro hM (And.intro hsz hwt))))
  clear hi hz0 hz1 hz2 hts hT hM hsz
  obtain ⟨n, hn⟩ : ∃ n, T.length = n := ⟨_, rfl⟩
  have HN := Lib.hid hn
  rw [hn] at hc1 hwl ⊢
  have HZ := Lib.hid (⟨[], World.ownsRow_nil _ _ _ _, Below.refl _ _, .inl ⟨[], [], T, rfl, fun u hu => (by cases hu), rfl, rfl, by rw [hn], by simp, by simp⟩⟩ : MdlRel w mw T (n + 1) (.slice none 0 0) (.int .i64 0) (.int .i64 0) w)
  clear hn
  go_enter Tryd.func16, Tryd.ntmps16
  go_wp2_with fail
  go_loopg [8, 9, 10] (n + 1) (fun gk s8 s9 s10 wx => MdlRel w mw T gk s8 s9 s10 wx)
  case atStart => exact HZ.out
  case round =>
    clear HZ
    obtain ⟨acc, hown, hb, ⟨pre, g, r, hTT, hg, rfl, rfl, rfl, hmm, hww⟩ | ⟨rfl, rfl, hmm⟩⟩ := hrel
    case inr =>
      have HX := Lib.hid (And.intro hown (And.intro hb hmm))
      rw [HN.out]
      clear hown hb hmm
      go_wp2_with fail
      refine bodyPost_ret (v := .tuple #[u8, .bool true]) (by simp [results, Tryd.results16, go_sem]) rfl ?_
      refine ⟨HX.out.2.1, ?_⟩
      rw [HX.out.2.2]
      exact ⟨_, rfl, HX.out.1⟩
    case inl =>
      have hln := congrArg List.length hTT
      simp only [List.length_append, HN.out] at hln
      have hws := hb.size
      have HR := Lib.hid (And.intro hown (And.intro hb (And.intro hTT (And.intro hg (And.intro hmm hww)))))
      obtain ⟨st, hst⟩ : ∃ st, pre.length = st := ⟨_, rfl⟩
      obtain ⟨gl, hgl⟩ : ∃ gl, g.length = gl := ⟨_, rfl⟩
      have HS := Lib.hid (And.intro hst hgl)
      rw [hst, hgl] at hln ⊢
      clear hown hb hg hmm hww
      have h1 := H.out.1.up HR.out.2.1
      have hdr : TokIn wr (some ⟨g0, o0, none⟩) T.length cap (pre ++ (g ++ r)) := by
        rw [← hTT]
        exact h1
      have HSZ := Lib.hid (fun (x : Tok) (hx : x ∈ g) => H.out.2.2.2.1 x (by rw [hTT]; simp [hx]))
      have hww := HR.out.2.2.2.2.2
      rw [wt_append] at hww
      have hgw := wt_len g
      rw [hgl] at hgw
      have hwt := H.out.2.2.2.2
      clear h1
      cases r with
      | nil =>
        simp only [List.length_nil, Nat.add_zero] at hln
        rw [wt] at hww
        have hln1 : st + gl ≤ n := Nat.le_of_eq hln.symm
        have hln2 : n ≤ st + gl := Nat.le_of_eq hln
        have HLN := Lib.hid hln
        by_cases hcs : cap = st
        · have hgl0 : gl = 0 := by omega
          have hnc : n = cap := by omega
          have HG0 := Lib.hid (show g = [] by exact List.eq_nil_of_length_eq_zero (hgl.trans hgl0))
          clear hdr hTT hst hgl HLN hln hln1 hln2 hwl hgw hww
          subst hgl0
          subst hnc
          subst hcs
          rw [Nat.add_zero]
          go_wp2_with fail
          refine (grp_nil _ _ _ _ _).mono ?_
          rintro e w1 ⟨hb1, rfl⟩
          have HX := Lib.hid (HR.out.2.1.trans (hb1.mono HR.out.2.1.size))
          clear hb1
          go_wp2_with fail
          refine bodyPost_ret (v := .tuple #[.slice none 0 0, .bool false]) (by simp [results, Tryd.results16, go_sem]) rfl ?_
          refine ⟨HX.out, ?_⟩
          rw [HR.out.2.2.2.2.1, MM_seg HR.out.2.2.2.1 (.inl rfl), HG0.out]
          rfl
        · have HT := Lib.hid (show TokIn wr (some ⟨g0, o0 + st * 7, none⟩) gl (cap - st) g by have := TokIn.sub hdr (some ⟨g0, o0 + st * 7, none⟩) (fun _ => by rw [hst]); rwa [hgl, hst] at this)
          clear hdr hTT hst hgl hln
          go_wp2_with fail
          refine (grp_any (some ⟨g0, o0 + st * 7, none⟩) gl (cap - st) g mw bm wr HT.out (H.out.2.1.up HR.out.2.1) (H.out.2.2.1.up HR.out.2.1) HSZ.out (by omega)).mono ?_
          cases hgr : grp V G mw g with
          | none =>
            rintro e w1 ⟨hb1, rfl⟩
            have HX := Lib.hid (And.intro (HR.out.2.1.trans (hb1.mono HR.out.2.1.size)) hgr)
            clear hb1 hgr
            go_wp2_with fail
            refine bodyPost_ret (v := .tuple #[.slice none 0 0, .bool false]) (by simp [results, Tryd.results16, go_sem]) rfl ?_
            refine ⟨HX.out.1, ?_⟩
            rw [HR.out.2.2.2.2.1, MM_seg HR.out.2.2.2.1 (.inl rfl), HX.out.2]
            rfl
          | some o =>
            rintro e w1 ⟨hb1, v1, rfl, ho1⟩
            obtain ⟨hol, hon⟩ := grp_wt hgr
            have hop := List.length_pos_iff.2 hon
            obtain ⟨g1, cap1, rfl, _, _⟩ := ho1.form hop
            have hcl := ho1.cells (g := g1) rfl
            obtain ⟨L, hL⟩ : ∃ L, o.length = L := ⟨_, rfl⟩
            have HO := Lib.hid (And.intro (own_up HR.out.1 hb1) (And.intro hcl (HR.out.2.1.trans (hb1.mono HR.out.2.1.size))))
            have HL := Lib.hid hL
            have HGR := Lib.hid hgr
            rw [hL] at hol hop ⊢
            have hbw := HO.out.2.2.size
            clear hb1 hgr ho1 hon hcl hL
            go_wp2_with (at_builtin; refine wpList_append_lies _ rfl _ _ 28 rfl w.heap.size 48 i0 (.agg #[.pointer none, .string ⟨#[]⟩, .int .i32 0, .int .u32 0, .int .u16 0, .int .u8 0, .int .u8 0]) 7 40 Tryd.underlying28 HI.out.1 HI.out.2.1 HI.out.2.2.1 HI.out.2.2.2 rfl (by omega) _ acc.length (flat acc) rfl HO.out.1 ⟨g1, 0, none⟩ L cap1 (flat o) rfl (by rw [flat_len, HL.out]) HO.out.2.1 flat_one_all (by omega) (by unfold maxLen; omega) (by omega) HO.out.2.2.size w1.heap.size rfl ?_; intro g2 cap2 w3 hown3 hg3 hat3 hlt3)
            have hbel : Below w.heap.size w w3 := HO.out.2.2.grown hg3 hbw (fun k hk => own_lt HO.out.1 k hk)
            have HX := Lib.hid (And.intro hbel hown3)
            clear hbel hown3 hg3 hat3 hlt3
            go_wp2_with fail
            go_roundg 0
            case measure => omega
            case rel =>
              refine ⟨acc ++ o, ?_, HX.out.1, .inr ⟨by rw [HN.out, HLN.out]; go_num, rfl, ?_⟩⟩
              · rw [List.length_append, HL.out, flat_append]
                exact HX.out.2
              · rw [HR.out.2.2.2.2.1, MM_seg HR.out.2.2.2.1 (.inl rfl), HGR.out]
                rfl
      | cons c s =>
        simp only [List.length_cons] at hln
        rw [wt] at hww
        have hln1 : st + gl + 1 ≤ n := by omega
        have hTc : T[st + gl]? = some c := by rw [hTT, List.getElem?_append_right (by omega), List.getElem?_append_right (by omega), hst, hgl]; simp
        obtain ⟨ga, oa, ea, hh, hga⟩ := H.out.1.head hTc
        cases ea
        have A5 := (hh.up HR.out.2.1 hga).c5
        have z0 : (0 : Int) ≤ (st : Int) + (gl : Int) := by omega
        have z1 : (st : Int) + (gl : Int) < (n : Int) := by omega
        have HH := Lib.hid (fun (wx : World) (hb : Below w.heap.size w wx) => let h := hh.up hb hga; (⟨h.c0, h.c1, h.c2, h.c3, h.c4, h.c5, h.c6⟩ : wx.cell? ⟨g0, o0 + (st + gl) * 7, none⟩ = some (.pointer none) ∧ wx.cell? ⟨g0, o0 + (st + gl) * 7 + 1, none⟩ = some (.string (S c.text)) ∧ wx.cell? ⟨g0, o0 + (st + gl) * 7 + 2, none⟩ = some (.int .i32 c.loc) ∧ wx.cell? ⟨g0, o0 + (st + gl) * 7 + 3, none⟩ = some (.int .u32 0) ∧ wx.cell? ⟨g0, o0 + (st + gl) * 7 + 4, none⟩ = some (.int .u16 0) ∧ wx.cell? ⟨g0, o0 + (st + gl) * 7 + 5, none⟩ = some (.int .u8 c.kind) ∧ wx.cell? ⟨g0, o0 + (st + gl) * 7 + 6, none⟩ = some (.int .u8 c.ws)))
        clear hh hTc hln
        by_cases hk : c.kind = 10
        case neg =>
          have q1 : (c.kind != 10) = true := by simpa using hk
          have HK := Lib.hid (show ¬ c.kind = KC from hk)
          clear hk hdr
          go_wp2_with fail
          go_roundg (s.length + 1)
          case measure => simp
          case rel =>
            refine ⟨acc, HR.out.1, HR.out.2.1, .inl ⟨pre, g ++ [c], s, by rw [HR.out.2.2.1]; simp, ?_, by rw [HS.out.1], ?_, rfl, ?_, ?_⟩⟩
            · intro u hu
              rcases List.mem_append.1 hu with hu | hu
              · exact HR.out.2.2.2.1 u hu
              · rw [List.mem_singleton.1 hu]
                exact HK.out
            · simp [HS.out.1, HS.out.2]; go_num
            · rw [HR.out.2.2.2.2.1]; simp
            · have := HR.out.2.2.2.2.2
              simpa using this
        case pos =>
          have q1 : (c.kind != 10) = false := by rw [hk]; rfl
          have HK := Lib.hid (show c.kind = KC from hk)
          clear hk
          have hcs : ¬ cap = st := by omega
          have HT := Lib.hid (show TokIn wr (some ⟨g0, o0 + st * 7, none⟩) gl (cap - st) g by have := TokIn.sub hdr (some ⟨g0, o0 + st * 7, none⟩) (fun _ => by rw [hst]); rwa [hgl, hst] at this)
          clear hdr hTT hst hgl
          go_wp2_with fail
          refine (grp_any (some ⟨g0, o0 + st * 7, none⟩) gl (cap - st) g mw bm wr HT.out (H.out.2.1.up HR.out.2.1) (H.out.2.2.1.up HR.out.2.1) HSZ.out (by omega)).mono ?_
          cases hgr : grp V G mw g with
          | none =>
            rintro e w1 ⟨hb1, rfl⟩
            have HX := Lib.hid (And.intro (HR.out.2.1.trans (hb1.mono HR.out.2.1.size)) hgr)
            clear hb1 hgr
            go_wp2_with fail
            refine bodyPost_ret (v := .tuple #[.slice none 0 0, .bool false]) (by simp [results, Tryd.results16, go_sem]) rfl ?_
            refine ⟨HX.out.1, ?_⟩
            rw [HR.out.2.2.2.2.1, MM_seg HR.out.2.2.2.1 (.inr ⟨c, s, rfl, HK.out⟩), HX.out.2]
            rfl
          | some o =>
            rintro e w1 ⟨hb1, v1, rfl, ho1⟩
            obtain ⟨hol, hon⟩ := grp_wt hgr
            have hop := List.length_pos_iff.2 hon
            obtain ⟨g1, cap1, rfl, _, _⟩ := ho1.form hop
            have hcl := ho1.cells (g := g1) rfl
            obtain ⟨L, hL⟩ : ∃ L, o.length = L := ⟨_, rfl⟩
            have HO := Lib.hid (And.intro (own_up HR.out.1 hb1) (And.intro hcl (HR.out.2.1.trans (hb1.mono HR.out.2.1.size))))
            have HL := Lib.hid hL
            have HGR := Lib.hid hgr
            rw [hL] at hol hop ⊢
            have hbw := HO.out.2.2.size
            clear hb1 hgr ho1 hon hcl hL
            go_wp2_with (first
              | (at_builtin; refine wpList_append_lies _ rfl _ _ 28 rfl w.heap.size 48 i0 (.agg #[.pointer none, .string ⟨#[]⟩, .int .i32 0, .int .u32 0, .int .u16 0, .int .u8 0, .int .u8 0]) 7 40 Tryd.underlying28 HI.out.1 HI.out.2.1 HI.out.2.2.1 HI.out.2.2.2 rfl (by omega) _ acc.length (flat acc) rfl HO.out.1 ⟨g1, 0, none⟩ L cap1 (flat o) rfl (by rw [flat_len, HL.out]) HO.out.2.1 flat_one_all (by omega) (by unfold maxLen; omega) (by omega) HO.out.2.2.size w1.heap.size rfl ?_; intro g2 cap2 w3 hown3 hg3 hat3 hlt3; have hbel : Below w.heap.size w w3 := HO.out.2.2.grown hg3 hbw (fun k hk => own_lt HO.out.1 k hk); have hw3 := hbel.size; obtain ⟨e0, e1, e2, e3, e4, e5, e6⟩ := HH.out w3 hbel)
              | (at_builtin; refine wpList_append_lies _ rfl _ _ 28 rfl w.heap.size 48 i0 (.agg #[.pointer none, .string ⟨#[]⟩, .int .i32 0, .int .u32 0, .int .u16 0, .int .u8 0, .int .u8 0]) 7 40 Tryd.underlying28 HI.out.1 HI.out.2.1 HI.out.2.2.1 HI.out.2.2.2 rfl (by omega) _ (acc.length + L) (flat acc ++ flat o) rfl (hown3.alloc _) ⟨w3.heap.size, 0, none⟩ 1 1 (flat [c]) rfl rfl (seven_in c (heap_alloc_new w3 _)) (one_cells _) (by omega) (by unfold maxLen; omega) (by omega) (by simp; omega) (w3.heap.size + 1) (by simp) ?_; intro g4 cap4 w5 hown5 hg5 hat5 hlt5))
            have hbel5 : Below w.heap.size w w5 := (hbel.alloc hw3 _).grown hg5 (Nat.le_trans hw3 (by simp)) (fun k hk => own_lt hown3 k hk)
            have HX := Lib.hid (And.intro hbel5 hown5)
            clear hbel hbel5 hown3 hg3 hat3 hlt3 hown5 hg5 hat5 hlt5 e0 e1 e2 e3 e4 e5 e6
            go_wp2_with fail
            go_roundg (s.length + 1)
            case measure => simp
            case rel =>
              refine ⟨acc ++ (o ++ [c]), ?_, HX.out.1, .inl ⟨pre ++ (g ++ [c]), [], s, ?_, fun u hu => (by cases hu), ?_, ?_, rfl, ?_, ?_⟩⟩
              · have e1 : (acc ++ (o ++ [c])).length = acc.length + L + 1 := by simp [HL.out]; omega
                have e2 : flat (acc ++ (o ++ [c])) = flat acc ++ flat o ++ flat [c] := by rw [flat_append, flat_append, List.append_assoc]
                rw [e1, e2]
                exact HX.out.2
              · rw [HR.out.2.2.1]; simp
              · simp [HS.out.1, HS.out.2]; go_num
              · simp [HS.out.1, HS.out.2]; go_num
              · rw [HR.out.2.2.2.2.1, MM_seg HR.out.2.2.2.1 (.inr ⟨c, s, rfl, HK.out⟩), HGR.out]
                show Option.map _ (Option.map _ (MM mw s)) = Option.map _ (MM mw s)
                rw [Option.map_map]
                congr 1
                funext x
                simp
              · simp only [List.nil_append, List.length_append, List.length_cons, List.length_nil, HL.out]; omega
end Go.Proofs.YtjinajfejbpicaaDoor
