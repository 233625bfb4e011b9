-- Written by a program of this work (wip/patch_print.py) for this claim.
import Derived.Test.YtmiemfgcggkbnaaQUx0
import Derived.Test.YtmiemfgcggkbnaaQUx2
import Derived.Test.YtmiemfgcggkbnaaQUx3
namespace Go.Proofs.Ytmiemfgcggkbnaa.QU
open Go.RowKit Go.Proofs.YtmiemfgcggkbnaaW.PrintWords Go.Proofs.YtmiemfgcggkbnaaW.PrintLast Go.Proofs.YtmiemfgcggkbnaaW.PrintMore
attribute [local go_sem] max2_int min2_int max_two min_two max_three min_three max_four min_four   -- for this text's walks alone
set_option linter.unusedVariables false
set_option linter.unusedSimpArgs false

section
open Go.BigFrame
set_option linter.unusedSimpArgs false
def UtcTo (w : World) (y mo d h mi s na a : Int) (ok t : Bool) (e : Ending) (w' : World) : Prop := e = .returned (.tuple #[.agg #[.int .i64 y, .int .i64 mo, .int .i64 d, .int .i64 h, .int .i64 mi, .int .i64 s, .int .i64 na, .int .i64 a], .bool ok, .bool t]) ∧ Below w.heap.size w w'
def dig0 (l : List Int) : Bool := decide (0 < l.length) && decide (48 ≤ rd l 0) && decide (rd l 0 ≤ 57)
def yearI (v : Int) : Int := if v + 1900 < 1950 then v + 2000 else v + 1900
set_option maxHeartbeats 8000000 in
set_option maxRecDepth 100000 in
theorem Utc_core (A0 : Option Addr) (c0 : Nat) (l l1 l2 l3 l4 l5 l6 l7 : List Int) (o1 o2 o3 o4 o5 o6 o7 t : Bool) (v1 v2 v3 v4 v5 Y s z : Int) (w : World) (hr0 : Kd.C (Kd.int .u8) w A0 l.length l) (hc0 : l.length ≤ c0) (hby : bytesIn l) (e0 : v1 = figN 2 l) (f0 : l1 = figL 2 l) (h0 : o1 = (true && figO 2 l)) (e1 : v2 = figN 2 l1) (f1 : l2 = figL 2 l1) (h1 : o2 = (o1 && figO 2 l1)) (e2 : v3 = figN 2 l2) (f2 : l3 = figL 2 l2) (h2 : o3 = (o2 && figO 2 l2)) (e3 : v4 = figN 2 l3) (f3 : l4 = figL 2 l3) (h3 : o4 = (o3 && figO 2 l3)) (e4 : v5 = figN 2 l4) (f4 : l5 = figL 2 l4) (h4 : o5 = (o4 && figO 2 l4)) (ey : Y = yearI v1) (ed : dig0 l5 = true → l6 = figL 2 l5 ∧ o6 = (o5 && figO 2 l5) ∧ s = figN 2 l5) (en : dig0 l5 = false → l6 = l5 ∧ o6 = o5 ∧ s = 0) (ez : z = zoneV l6) (et : t = zoneT l6) (el : l7 = zoneL l6) (eo : o7 = zoneO o6 l6) :
    Calls Try.prog 25 #[.slice A0 l.length c0] w (UtcTo w Y v2 v3 v4 v5 s 0 z (o7 && l7.isEmpty && rightB Y v2 v3 v4 v5 s 0 0) t) := by
  have bv := figN_small hby 2 (by omega)
  rw [← e0] at bv
  have HY0 := Aside0.mk hby
  have HY1 := Aside0.mk (show bytesIn l1 from by rw [f0]; exact bytesIn_figL HY0.out 2)
  have HY2 := Aside0.mk (show bytesIn l2 from by rw [f1]; exact bytesIn_figL HY1.out 2)
  have HY3 := Aside0.mk (show bytesIn l3 from by rw [f2]; exact bytesIn_figL HY2.out 2)
  have HY4 := Aside0.mk (show bytesIn l4 from by rw [f3]; exact bytesIn_figL HY3.out 2)
  have HY5 := Aside0.mk (show bytesIn l5 from by rw [f4]; exact bytesIn_figL HY4.out 2)
  have HY6 := Aside0.mk (show bytesIn l6 from by
    cases hd : dig0 l5 with
    | true => rw [(ed hd).1]; exact bytesIn_figL HY5.out 2
    | false => rw [(en hd).1]; exact HY5.out)
  have E0' := Aside0.mk e0
  have F0' := Aside0.mk f0
  have H0' := Aside0.mk h0
  have E1' := Aside0.mk e1
  have F1' := Aside0.mk f1
  have H1' := Aside0.mk h1
  have E2' := Aside0.mk e2
  have F2' := Aside0.mk f2
  have H2' := Aside0.mk h2
  have E3' := Aside0.mk e3
  have F3' := Aside0.mk f3
  have H3' := Aside0.mk h3
  have E4' := Aside0.mk e4
  have F4' := Aside0.mk f4
  have H4' := Aside0.mk h4
  have EY' := Aside0.mk ey
  have ED' := Aside0.mk ed
  have EN' := Aside0.mk en
  have EZ' := Aside0.mk ez
  have ET' := Aside0.mk et
  have EL' := Aside0.mk el
  have EO' := Aside0.mk eo
  have HR0 := Aside0.mk hr0
  have HC0 := Aside0.mk hc0
  have HB0 := Aside0.mk (Below.refl w.heap.size w)
  clear e0 f0 h0 e1 f1 h1 e2 f2 h2 e3 f3 h3 e4 f4 h4 ey ed en ez et el eo hr0 hc0 hby
  go_enter Try.func25, Try.ntmps25
  go_upto_if 30 with (first
    | ((with_reducible refine gate_dst (N := 2) rfl ?_); refine box_event ?hg (N := 2) ?hd (cs := #[.int .i64 0, .int .i64 0, .int .i64 0, .int .i64 0, .int .i64 0, .int .i64 0, .int .i64 0, .int .i64 0]) (t := 44) ?hr ?_; (case hd => rfl); (case hg => rfl); (case hr => first | (go_simp; done) | (go_simp; rfl)); intro g2 hg w1 hbox hb; have BR := Aside0.mk hbox; have HB1 := Aside0.mk (below_step HB0.out hb); have GR := Aside0.mk (show w.heap.size ≤ g2 by rw [hg]; exact Nat.le_refl _); clear hbox hb hg)
    | ((with_reducible refine gate_dst (N := 12) rfl ?_); refine box_event ?hg (N := 12) ?hd (cs := #[.slice A0 l.length c0, .bool true]) (t := 81) ?hr ?_; (case hd => rfl); (case hg => rfl); (case hr => first | (go_simp; done) | (go_simp; rfl)); intro g12 hg w2 hbox hb; have S0 := Aside0.mk (SB.start HR0.out HC0.out HB1.out BR.out GR.out hg hbox hb); clear hbox hb hg)
    | (go_at_call 51; (with_reducible refine (figures_SB g12 _ _ _ w u4 HY4.out S4.out).mono ?_); rw [← E4'.out, ← F4'.out, ← H4'.out]; rintro e u5 ⟨rfl, hsb⟩; have S5 := Aside0.mk hsb; clear hsb)
    | (go_at_call 51; (with_reducible refine (figures_SB g12 _ _ _ w u3 HY3.out S3.out).mono ?_); rw [← E3'.out, ← F3'.out, ← H3'.out]; rintro e u4 ⟨rfl, hsb⟩; have S4 := Aside0.mk hsb; clear hsb)
    | (go_at_call 51; (with_reducible refine (figures_SB g12 _ _ _ w u2 HY2.out S2.out).mono ?_); rw [← E2'.out, ← F2'.out, ← H2'.out]; rintro e u3 ⟨rfl, hsb⟩; have S3 := Aside0.mk hsb; clear hsb)
    | (go_at_call 51; (with_reducible refine (figures_SB g12 _ _ _ w u1 HY1.out S1.out).mono ?_); rw [← E1'.out, ← F1'.out, ← H1'.out]; rintro e u2 ⟨rfl, hsb⟩; have S2 := Aside0.mk hsb; clear hsb)
    | (go_at_call 51; (with_reducible refine (figures_SB g12 _ _ _ w w2 HY0.out S0.out).mono ?_); rw [← E0'.out, ← F0'.out, ← H0'.out]; rintro e u1 ⟨rfl, hsb⟩; have S1 := Aside0.mk hsb; clear hsb)
    | ((with_reducible refine gate_dst (N := 6) rfl ?_); refine box_event ?hg (N := 6) ?hd (cs := #[.int .i64 0, .int .i64 0, .int .i64 0, .int .i64 0, .int .i64 0, .int .i64 0, .int .i64 0, .int .i64 0]) (t := 44) ?hr ?_; (case hd => rfl); (case hg => rfl); (case hr => first | (go_simp; done) | (go_simp; rfl)); intro g6 hg w6 hbox hb; have S6 := Aside0.mk (SB.alloc S5.out hg hbox hb); have ct0 := (blk_cell S6.out.head 0).trans (show _ = some (.int .i64 0) from rfl); have ctf0 := blk_frozen S6.out.head 0; have ct1 := (blk_cell S6.out.head 1).trans (show _ = some (.int .i64 0) from rfl); have ctf1 := blk_frozen S6.out.head 1; have ct2 := (blk_cell S6.out.head 2).trans (show _ = some (.int .i64 0) from rfl); have ctf2 := blk_frozen S6.out.head 2; have ct3 := (blk_cell S6.out.head 3).trans (show _ = some (.int .i64 0) from rfl); have ctf3 := blk_frozen S6.out.head 3; have ct4 := (blk_cell S6.out.head 4).trans (show _ = some (.int .i64 0) from rfl); have ctf4 := blk_frozen S6.out.head 4; have ct5 := (blk_cell S6.out.head 5).trans (show _ = some (.int .i64 0) from rfl); have ctf5 := blk_frozen S6.out.head 5; have ct6 := (blk_cell S6.out.head 6).trans (show _ = some (.int .i64 0) from rfl); have ctf6 := blk_frozen S6.out.head 6; have ct7 := (blk_cell S6.out.head 7).trans (show _ = some (.int .i64 0) from rfl); have ctf7 := blk_frozen S6.out.head 7; clear hbox hb hg)
    | ((with_reducible refine gate_store (t := 44) (p := 6) rfl ?_); refine store_event (t := 44) (p := 6) (v := ?vo6) (w1 := put8 w6 g6 (.int .i64 v1) (.int .i64 v2) (.int .i64 v3) (.int .i64 v4) (.int .i64 v5) (.int .i64 0) (.int .i64 0) (.int .i64 0)) ?hg ?ho ?hn ?hr ?_; (case ho => rfl); (case hg => rfl); (case hn => rfl); (case hr => first | (go_simp; done) | (go_simp; rfl)); intro w7 hw; have S7 := Aside0.mk (SB.put S6.out (put8_blk S6.out.head (.int .i64 v1) (.int .i64 v2) (.int .i64 v3) (.int .i64 v4) (.int .i64 v5) (.int .i64 0) (.int .i64 0) (.int .i64 0)) (put8_grown w6 g6 (.int .i64 v1) (.int .i64 v2) (.int .i64 v3) (.int .i64 v4) (.int .i64 v5) (.int .i64 0) (.int .i64 0) (.int .i64 0))); rw [← hw] at S7; clear ct0 ctf0 ct1 ctf1 ct2 ctf2 ct3 ctf3 ct4 ctf4 ct5 ctf5 ct6 ctf6 ct7 ctf7; have ct0 := (blk_cell S7.out.head 0).trans (show _ = some (.int .i64 v1) from rfl); have ctf0 := blk_frozen S7.out.head 0; have ct1 := (blk_cell S7.out.head 1).trans (show _ = some (.int .i64 v2) from rfl); have ctf1 := blk_frozen S7.out.head 1; have ct2 := (blk_cell S7.out.head 2).trans (show _ = some (.int .i64 v3) from rfl); have ctf2 := blk_frozen S7.out.head 2; have ct3 := (blk_cell S7.out.head 3).trans (show _ = some (.int .i64 v4) from rfl); have ctf3 := blk_frozen S7.out.head 3; have ct4 := (blk_cell S7.out.head 4).trans (show _ = some (.int .i64 v5) from rfl); have ctf4 := blk_frozen S7.out.head 4; have ct5 := (blk_cell S7.out.head 5).trans (show _ = some (.int .i64 0) from rfl); have ctf5 := blk_frozen S7.out.head 5; have ct6 := (blk_cell S7.out.head 6).trans (show _ = some (.int .i64 0) from rfl); have ctf6 := blk_frozen S7.out.head 6; have ct7 := (blk_cell S7.out.head 7).trans (show _ = some (.int .i64 0) from rfl); have ctf7 := blk_frozen S7.out.head 7; clear hw)
    | ((with_reducible refine gate_store (t := 3) (p := 27) rfl ?_); refine store_event (t := 3) (p := 27) (v := ?vo27) (w1 := w7.setCell ⟨g6, 0, none⟩ (.int .i64 (v1 + 1900))) ?hg ?ho ?hn ?hr ?_; (case ho => rfl); (case hg => rfl); (case hn => rfl); (case hr => first | (go_simp; done) | (go_simp; rfl)); intro w8 hw; have S8 := Aside0.mk (SB.put S7.out (blk_put (cs' := #[.int .i64 (v1 + 1900), .int .i64 v2, .int .i64 v3, .int .i64 v4, .int .i64 v5, .int .i64 0, .int .i64 0, .int .i64 0]) S7.out.head 0 (.int .i64 (v1 + 1900)) rfl) (grown_set w7 g6 0 (.int .i64 (v1 + 1900)))); rw [← hw] at S8; clear ct0 ctf0 ct1 ctf1 ct2 ctf2 ct3 ctf3 ct4 ctf4 ct5 ctf5 ct6 ctf6 ct7 ctf7; have ct0 := (blk_cell S8.out.head 0).trans (show _ = some (.int .i64 (v1 + 1900)) from rfl); have ctf0 := blk_frozen S8.out.head 0; have ct1 := (blk_cell S8.out.head 1).trans (show _ = some (.int .i64 v2) from rfl); have ctf1 := blk_frozen S8.out.head 1; have ct2 := (blk_cell S8.out.head 2).trans (show _ = some (.int .i64 v3) from rfl); have ctf2 := blk_frozen S8.out.head 2; have ct3 := (blk_cell S8.out.head 3).trans (show _ = some (.int .i64 v4) from rfl); have ctf3 := blk_frozen S8.out.head 3; have ct4 := (blk_cell S8.out.head 4).trans (show _ = some (.int .i64 v5) from rfl); have ctf4 := blk_frozen S8.out.head 4; have ct5 := (blk_cell S8.out.head 5).trans (show _ = some (.int .i64 0) from rfl); have ctf5 := blk_frozen S8.out.head 5; have ct6 := (blk_cell S8.out.head 6).trans (show _ = some (.int .i64 0) from rfl); have ctf6 := blk_frozen S8.out.head 6; have ct7 := (blk_cell S8.out.head 7).trans (show _ = some (.int .i64 0) from rfl); have ctf7 := blk_frozen S8.out.head 7; clear hw))
  (try simp only [Act.put, List.setIfInBounds_toArray, List.set_cons_zero, List.set_cons_succ])
  clear BR HB1 S0 S1 S2 S3 S4 S5 S6 S7 HR0 HC0 HB0 E0' F0' H0' E1' F1' H1' E2' F2' H2' E3' F3' H3' E4' F4' H4'
  go_cut [] (fun wc => Aside0 (SB w wc g12 l5 o5 ((g6, tm Y v2 v3 v4 v5 0 0 0) :: [(g2, tm 0 0 0 0 0 0 0 0)])))
  case first =>
    by_cases hy : v1 + 1900 < 1950
    · have HE := Aside0.mk (show Y = v1 + 1900 + 100 from by rw [EY'.out]; unfold yearI; rw [if_pos hy]; omega)
      have ty : decide (v1 + 1900 < 1950) = true := decide_eq_true hy
      clear hy EY'
      (first | rw [ty] | skip)
      go_wp2_with (first
        | ((with_reducible refine gate_store (t := 3) (p := 34) rfl ?_); refine store_event (t := 3) (p := 34) (v := ?vo34) (w1 := w8.setCell ⟨g6, 0, none⟩ (.int .i64 (v1 + 1900 + 100))) ?hg ?ho ?hn ?hr ?_; (case ho => rfl); (case hg => rfl); (case hn => rfl); (case hr => first | (go_simp; done) | (go_simp; rfl)); intro w9 hw; have S9 := Aside0.mk (SB.put S8.out (blk_put (cs' := #[.int .i64 (v1 + 1900 + 100), .int .i64 v2, .int .i64 v3, .int .i64 v4, .int .i64 v5, .int .i64 0, .int .i64 0, .int .i64 0]) S8.out.head 0 (.int .i64 (v1 + 1900 + 100)) rfl) (grown_set w8 g6 0 (.int .i64 (v1 + 1900 + 100)))); rw [← hw] at S9; clear hw))
      go_meet
      case rel => exact ⟨by rw [HE.out]; exact S9.out⟩
    · have HE := Aside0.mk (show Y = v1 + 1900 from by rw [EY'.out]; unfold yearI; rw [if_neg hy])
      have ty : decide (v1 + 1900 < 1950) = false := decide_eq_false hy
      clear hy EY'
      (first | rw [ty] | skip)
      go_wp2_with (first
        | fail)
      go_meet
      case rel => exact ⟨by rw [HE.out]; exact S8.out⟩
  case rest =>
    clear S8 bv ct0 ctf0 ct1 ctf1 ct2 ctf2 ct3 ctf3 ct4 ctf4 ct5 ctf5 ct6 ctf6 ct7 ctf7
    have SX := hcut
    clear hcut
    generalize wc = wd at SX ⊢
    go_upto_region 6 with (fail)
    go_cut [58] (fun v58 wc => v58 = .bool (dig0 l5) ∧ Aside0 (SB w wc g12 l5 o5 ((g6, tm Y v2 v3 v4 v5 0 0 0) :: [(g2, tm 0 0 0 0 0 0 0 0)])))
    case first =>
      rcases (by
        by_cases h0 : l5 = []
        · exact .inl h0
        · have h1 : 0 < l5.length := List.length_pos_iff.2 h0
          rcases (by omega : rd l5 0 < 48 ∨ 57 < rd l5 0 ∨ (48 ≤ rd l5 0 ∧ rd l5 0 ≤ 57)) with h | h | h
          · exact .inr (.inl ⟨h1, h⟩)
          · exact .inr (.inr (.inl ⟨h1, h⟩))
          · exact .inr (.inr (.inr ⟨h1, h.1, h.2⟩)) : l5 = [] ∨ (0 < l5.length ∧ rd l5 0 < 48) ∨ (0 < l5.length ∧ 57 < rd l5 0) ∨ (0 < l5.length ∧ 48 ≤ rd l5 0 ∧ rd l5 0 ≤ 57)) with hs | ⟨hn, hs⟩ | ⟨hn, hs⟩ | ⟨hn, hs, hs'⟩
      · have HD := Aside0.mk (show dig0 l5 = false from by rw [hs]; rfl)
        have HS := Aside0.mk hs
        clear hs 
        obtain ⟨qA, qc, qb, qr, qC⟩ := SX.out.1; have q0 := (blk_cell qb 0).trans (show _ = some (.slice qA l5.length qc) from rfl); have q1 := (blk_cell qb 1).trans (show _ = some (.bool o5) from rfl); rw [show l5.length = 0 from (congrArg List.length HS.out)] at q0; clear qb qr qC
        go_wp2
        go_meet
        case rel => exact ⟨by rw [HD.out], SX⟩
      · have HD := Aside0.mk (show dig0 l5 = false from by simp [dig0]; omega)
        have HS := Aside0.mk hs
        have HN := Aside0.mk hn
        clear hs hn
        obtain ⟨qA, qc, qb, qr, qC⟩ := SX.out.1; have q0 := (blk_cell qb 0).trans (show _ = some (.slice qA l5.length qc) from rfl); have q1 := (blk_cell qb 1).trans (show _ = some (.bool o5) from rfl); obtain ⟨ad, eA, hx0⟩ := scan_at0 qr SX.out.2.1 0 (by omega) (by have := HN.out; omega); subst eA; rw [show (0 : Int).toNat = 0 from rfl, add_zero_] at hx0; have tz : decide (0 < l5.length) = true := decide_eq_true HN.out; have tq : (0 : Int) < (l5.length : Int) := Int.ofNat_lt.mpr HN.out; have t48 : decide (48 ≤ rd l5 0) = false := decide_eq_false (by have := HS.out; omega); clear qb qr qC
        go_wp2
        go_meet
        case rel => exact ⟨by rw [HD.out], SX⟩
      · have HD := Aside0.mk (show dig0 l5 = false from by simp [dig0]; omega)
        have HS := Aside0.mk hs
        have HN := Aside0.mk hn
        clear hs hn
        obtain ⟨qA, qc, qb, qr, qC⟩ := SX.out.1; have q0 := (blk_cell qb 0).trans (show _ = some (.slice qA l5.length qc) from rfl); have q1 := (blk_cell qb 1).trans (show _ = some (.bool o5) from rfl); obtain ⟨ad, eA, hx0⟩ := scan_at0 qr SX.out.2.1 0 (by omega) (by have := HN.out; omega); subst eA; rw [show (0 : Int).toNat = 0 from rfl, add_zero_] at hx0; have tz : decide (0 < l5.length) = true := decide_eq_true HN.out; have tq : (0 : Int) < (l5.length : Int) := Int.ofNat_lt.mpr HN.out; have t48 : decide (48 ≤ rd l5 0) = true := decide_eq_true (by have := HS.out; omega); have t57 : decide (rd l5 0 ≤ 57) = false := decide_eq_false (by have := HS.out; omega); clear qb qr qC
        go_wp2
        go_meet
        case rel => exact ⟨by rw [HD.out], SX⟩
      · have HD := Aside0.mk (show dig0 l5 = true from by simp [dig0]; omega)
        have HS := Aside0.mk hs
        have HN := Aside0.mk hn
        have HS2 := Aside0.mk hs'
        clear hs hn hs'
        obtain ⟨qA, qc, qb, qr, qC⟩ := SX.out.1; have q0 := (blk_cell qb 0).trans (show _ = some (.slice qA l5.length qc) from rfl); have q1 := (blk_cell qb 1).trans (show _ = some (.bool o5) from rfl); obtain ⟨ad, eA, hx0⟩ := scan_at0 qr SX.out.2.1 0 (by omega) (by have := HN.out; omega); subst eA; rw [show (0 : Int).toNat = 0 from rfl, add_zero_] at hx0; have tz : decide (0 < l5.length) = true := decide_eq_true HN.out; have tq : (0 : Int) < (l5.length : Int) := Int.ofNat_lt.mpr HN.out; have t48 : decide (48 ≤ rd l5 0) = true := decide_eq_true HS.out; have t57 : decide (rd l5 0 ≤ 57) = true := decide_eq_true HS2.out; clear qb qr qC
        go_wp2
        go_meet
        case rel => exact ⟨by rw [HD.out], SX⟩
    case rest =>
      clear SX
      obtain ⟨rfl, SX⟩ := hcut
      generalize wc = wd at SX ⊢
      go_upto_if 58 with (fail)
      go_cut [] (fun wc => Aside0 (SB w wc g12 l6 o6 ((g6, tm Y v2 v3 v4 v5 s 0 0) :: [(g2, tm 0 0 0 0 0 0 0 0)])))
      case first =>
        cases hd : dig0 l5 with
        | false =>
          have HD := Aside0.mk (EN'.out hd)
          clear ED' EN' hd
          go_wp2
          go_meet
          case rel => exact ⟨by rw [HD.out.1, HD.out.2.1, HD.out.2.2]; exact SX.out⟩
        | true =>
          have HD := Aside0.mk (ED'.out hd)
          clear ED' EN' hd
          go_wp2_with (first
            | (go_at_call 51; (with_reducible refine (figures_SB g12 _ _ _ w wd HY5.out SX.out).mono ?_); rw [← HD.out.1, ← HD.out.2.1, ← HD.out.2.2]; rintro e w10 ⟨rfl, hsb⟩; have S10 := Aside0.mk hsb; clear hsb; have ct0 := (blk_cell S10.out.head 0).trans (show _ = some (.int .i64 Y) from rfl); have ctf0 := blk_frozen S10.out.head 0; have ct1 := (blk_cell S10.out.head 1).trans (show _ = some (.int .i64 v2) from rfl); have ctf1 := blk_frozen S10.out.head 1; have ct2 := (blk_cell S10.out.head 2).trans (show _ = some (.int .i64 v3) from rfl); have ctf2 := blk_frozen S10.out.head 2; have ct3 := (blk_cell S10.out.head 3).trans (show _ = some (.int .i64 v4) from rfl); have ctf3 := blk_frozen S10.out.head 3; have ct4 := (blk_cell S10.out.head 4).trans (show _ = some (.int .i64 v5) from rfl); have ctf4 := blk_frozen S10.out.head 4; have ct5 := (blk_cell S10.out.head 5).trans (show _ = some (.int .i64 0) from rfl); have ctf5 := blk_frozen S10.out.head 5; have ct6 := (blk_cell S10.out.head 6).trans (show _ = some (.int .i64 0) from rfl); have ctf6 := blk_frozen S10.out.head 6; have ct7 := (blk_cell S10.out.head 7).trans (show _ = some (.int .i64 0) from rfl); have ctf7 := blk_frozen S10.out.head 7)
            | ((with_reducible refine gate_store (t := 3) (p := 61) rfl ?_); refine store_event (t := 3) (p := 61) (v := ?vo61) (w1 := w10.setCell ⟨g6, 5, none⟩ (.int .i64 s)) ?hg ?ho ?hn ?hr ?_; (case ho => rfl); (case hg => rfl); (case hn => rfl); (case hr => first | (go_simp; done) | (go_simp; rfl)); intro w11 hw; have S11 := Aside0.mk (SB.put S10.out (blk_put (cs' := #[.int .i64 Y, .int .i64 v2, .int .i64 v3, .int .i64 v4, .int .i64 v5, .int .i64 s, .int .i64 0, .int .i64 0]) S10.out.head 5 (.int .i64 s) rfl) (grown_set w10 g6 5 (.int .i64 s))); rw [← hw] at S11; clear hw))
          go_meet
          case rel => exact S11
      case rest =>
        clear SX
        have S11 := hcut
        clear hcut
        generalize wc = w11 at S11 ⊢
        go_wp2_with (first
          | (go_at_call 52; (with_reducible refine (zone_SB g12 _ _ _ w w11 HY6.out S11.out).mono ?_); rw [← EZ'.out, ← ET'.out, ← EL'.out, ← EO'.out]; rintro e w12 ⟨rfl, hsb⟩; have S12 := Aside0.mk hsb; clear hsb; have ct0 := (blk_cell S12.out.head 0).trans (show _ = some (.int .i64 Y) from rfl); have ctf0 := blk_frozen S12.out.head 0; have ct1 := (blk_cell S12.out.head 1).trans (show _ = some (.int .i64 v2) from rfl); have ctf1 := blk_frozen S12.out.head 1; have ct2 := (blk_cell S12.out.head 2).trans (show _ = some (.int .i64 v3) from rfl); have ctf2 := blk_frozen S12.out.head 2; have ct3 := (blk_cell S12.out.head 3).trans (show _ = some (.int .i64 v4) from rfl); have ctf3 := blk_frozen S12.out.head 3; have ct4 := (blk_cell S12.out.head 4).trans (show _ = some (.int .i64 v5) from rfl); have ctf4 := blk_frozen S12.out.head 4; have ct5 := (blk_cell S12.out.head 5).trans (show _ = some (.int .i64 s) from rfl); have ctf5 := blk_frozen S12.out.head 5; have ct6 := (blk_cell S12.out.head 6).trans (show _ = some (.int .i64 0) from rfl); have ctf6 := blk_frozen S12.out.head 6; have ct7 := (blk_cell S12.out.head 7).trans (show _ = some (.int .i64 0) from rfl); have ctf7 := blk_frozen S12.out.head 7)
          | ((with_reducible refine gate_store (t := 3) (p := 68) rfl ?_); refine store_event (t := 3) (p := 68) (v := ?vo68) (w1 := w12.setCell ⟨g6, 7, none⟩ (.int .i64 z)) ?hg ?ho ?hn ?hr ?_; (case ho => rfl); (case hg => rfl); (case hn => rfl); (case hr => first | (go_simp; done) | (go_simp; rfl)); intro w13 hw; have S13 := Aside0.mk (SB.put S12.out (blk_put (cs' := #[.int .i64 Y, .int .i64 v2, .int .i64 v3, .int .i64 v4, .int .i64 v5, .int .i64 s, .int .i64 0, .int .i64 z]) S12.out.head 7 (.int .i64 z) rfl) (grown_set w12 g6 7 (.int .i64 z))); rw [← hw] at S13; clear ct0 ctf0 ct1 ctf1 ct2 ctf2 ct3 ctf3 ct4 ctf4 ct5 ctf5 ct6 ctf6 ct7 ctf7; have ct0 := (blk_cell S13.out.head 0).trans (show _ = some (.int .i64 Y) from rfl); have ctf0 := blk_frozen S13.out.head 0; have ct1 := (blk_cell S13.out.head 1).trans (show _ = some (.int .i64 v2) from rfl); have ctf1 := blk_frozen S13.out.head 1; have ct2 := (blk_cell S13.out.head 2).trans (show _ = some (.int .i64 v3) from rfl); have ctf2 := blk_frozen S13.out.head 2; have ct3 := (blk_cell S13.out.head 3).trans (show _ = some (.int .i64 v4) from rfl); have ctf3 := blk_frozen S13.out.head 3; have ct4 := (blk_cell S13.out.head 4).trans (show _ = some (.int .i64 v5) from rfl); have ctf4 := blk_frozen S13.out.head 4; have ct5 := (blk_cell S13.out.head 5).trans (show _ = some (.int .i64 s) from rfl); have ctf5 := blk_frozen S13.out.head 5; have ct6 := (blk_cell S13.out.head 6).trans (show _ = some (.int .i64 0) from rfl); have ctf6 := blk_frozen S13.out.head 6; have ct7 := (blk_cell S13.out.head 7).trans (show _ = some (.int .i64 z) from rfl); have ctf7 := blk_frozen S13.out.head 7; clear hw)
          | ((with_reducible refine gate_dst (N := 9) rfl ?_); refine box_event ?hg (N := 9) ?hd (cs := #[.int .i64 0, .int .i64 0, .int .i64 0, .int .i64 0, .int .i64 0, .int .i64 0, .int .i64 0, .int .i64 0]) (t := 44) ?hr ?_; (case hd => rfl); (case hg => rfl); (case hr => first | (go_simp; done) | (go_simp; rfl)); intro g9 hg w14 hbox hb; have S14 := Aside0.mk (SB.alloc S13.out hg hbox hb); clear ct0 ctf0 ct1 ctf1 ct2 ctf2 ct3 ctf3 ct4 ctf4 ct5 ctf5 ct6 ctf6 ct7 ctf7; have ct0 := (blk_cell S14.out.snd 0).trans (show _ = some (.int .i64 Y) from rfl); have ctf0 := blk_frozen S14.out.snd 0; have ct1 := (blk_cell S14.out.snd 1).trans (show _ = some (.int .i64 v2) from rfl); have ctf1 := blk_frozen S14.out.snd 1; have ct2 := (blk_cell S14.out.snd 2).trans (show _ = some (.int .i64 v3) from rfl); have ctf2 := blk_frozen S14.out.snd 2; have ct3 := (blk_cell S14.out.snd 3).trans (show _ = some (.int .i64 v4) from rfl); have ctf3 := blk_frozen S14.out.snd 3; have ct4 := (blk_cell S14.out.snd 4).trans (show _ = some (.int .i64 v5) from rfl); have ctf4 := blk_frozen S14.out.snd 4; have ct5 := (blk_cell S14.out.snd 5).trans (show _ = some (.int .i64 s) from rfl); have ctf5 := blk_frozen S14.out.snd 5; have ct6 := (blk_cell S14.out.snd 6).trans (show _ = some (.int .i64 0) from rfl); have ctf6 := blk_frozen S14.out.snd 6; have ct7 := (blk_cell S14.out.snd 7).trans (show _ = some (.int .i64 z) from rfl); have ctf7 := blk_frozen S14.out.snd 7; have cf0 := (blk_cell S14.out.head 0).trans (show _ = some (.int .i64 0) from rfl); have cff0 := blk_frozen S14.out.head 0; have cf1 := (blk_cell S14.out.head 1).trans (show _ = some (.int .i64 0) from rfl); have cff1 := blk_frozen S14.out.head 1; have cf2 := (blk_cell S14.out.head 2).trans (show _ = some (.int .i64 0) from rfl); have cff2 := blk_frozen S14.out.head 2; have cf3 := (blk_cell S14.out.head 3).trans (show _ = some (.int .i64 0) from rfl); have cff3 := blk_frozen S14.out.head 3; have cf4 := (blk_cell S14.out.head 4).trans (show _ = some (.int .i64 0) from rfl); have cff4 := blk_frozen S14.out.head 4; have cf5 := (blk_cell S14.out.head 5).trans (show _ = some (.int .i64 0) from rfl); have cff5 := blk_frozen S14.out.head 5; have cf6 := (blk_cell S14.out.head 6).trans (show _ = some (.int .i64 0) from rfl); have cff6 := blk_frozen S14.out.head 6; have cf7 := (blk_cell S14.out.head 7).trans (show _ = some (.int .i64 0) from rfl); have cff7 := blk_frozen S14.out.head 7; clear hbox hb hg)
          | ((with_reducible refine gate_store (t := 44) (p := 9) rfl ?_); refine store_event (t := 44) (p := 9) (v := ?vo9) (w1 := put8 w14 g9 (.int .i64 Y) (.int .i64 v2) (.int .i64 v3) (.int .i64 v4) (.int .i64 v5) (.int .i64 s) (.int .i64 0) (.int .i64 z)) ?hg ?ho ?hn ?hr ?_; (case ho => rfl); (case hg => rfl); (case hn => rfl); (case hr => first | (go_simp; done) | (go_simp; rfl)); intro w15 hw; have S15 := Aside0.mk (SB.put S14.out (put8_blk S14.out.head (.int .i64 Y) (.int .i64 v2) (.int .i64 v3) (.int .i64 v4) (.int .i64 v5) (.int .i64 s) (.int .i64 0) (.int .i64 z)) (put8_grown w14 g9 (.int .i64 Y) (.int .i64 v2) (.int .i64 v3) (.int .i64 v4) (.int .i64 v5) (.int .i64 s) (.int .i64 0) (.int .i64 z))); rw [← hw] at S15; clear ct0 ctf0 ct1 ctf1 ct2 ctf2 ct3 ctf3 ct4 ctf4 ct5 ctf5 ct6 ctf6 ct7 ctf7; clear cf0 cff0 cf1 cff1 cf2 cff2 cf3 cff3 cf4 cff4 cf5 cff5 cf6 cff6 cf7 cff7; have cf0 := (blk_cell S15.out.head 0).trans (show _ = some (.int .i64 Y) from rfl); have cff0 := blk_frozen S15.out.head 0; have cf1 := (blk_cell S15.out.head 1).trans (show _ = some (.int .i64 v2) from rfl); have cff1 := blk_frozen S15.out.head 1; have cf2 := (blk_cell S15.out.head 2).trans (show _ = some (.int .i64 v3) from rfl); have cff2 := blk_frozen S15.out.head 2; have cf3 := (blk_cell S15.out.head 3).trans (show _ = some (.int .i64 v4) from rfl); have cff3 := blk_frozen S15.out.head 3; have cf4 := (blk_cell S15.out.head 4).trans (show _ = some (.int .i64 v5) from rfl); have cff4 := blk_frozen S15.out.head 4; have cf5 := (blk_cell S15.out.head 5).trans (show _ = some (.int .i64 s) from rfl); have cff5 := blk_frozen S15.out.head 5; have cf6 := (blk_cell S15.out.head 6).trans (show _ = some (.int .i64 0) from rfl); have cff6 := blk_frozen S15.out.head 6; have cf7 := (blk_cell S15.out.head 7).trans (show _ = some (.int .i64 z) from rfl); have cff7 := blk_frozen S15.out.head 7; clear hw)
          | ((with_reducible refine gate_store (t := 3) (p := 70) rfl ?_); refine store_event (t := 3) (p := 70) (v := ?vo70) (w1 := w15.setCell ⟨g9, 7, none⟩ (.int .i64 0)) ?hg ?ho ?hn ?hr ?_; (case ho => rfl); (case hg => rfl); (case hn => rfl); (case hr => first | (go_simp; done) | (go_simp; rfl)); intro w16 hw; have S16 := Aside0.mk (SB.put S15.out (blk_put (cs' := #[.int .i64 Y, .int .i64 v2, .int .i64 v3, .int .i64 v4, .int .i64 v5, .int .i64 s, .int .i64 0, .int .i64 0]) S15.out.head 7 (.int .i64 0) rfl) (grown_set w15 g9 7 (.int .i64 0))); rw [← hw] at S16; clear cf0 cff0 cf1 cff1 cf2 cff2 cf3 cff3 cf4 cff4 cf5 cff5 cf6 cff6 cf7 cff7; have cf0 := (blk_cell S16.out.head 0).trans (show _ = some (.int .i64 Y) from rfl); have cff0 := blk_frozen S16.out.head 0; have cf1 := (blk_cell S16.out.head 1).trans (show _ = some (.int .i64 v2) from rfl); have cff1 := blk_frozen S16.out.head 1; have cf2 := (blk_cell S16.out.head 2).trans (show _ = some (.int .i64 v3) from rfl); have cff2 := blk_frozen S16.out.head 2; have cf3 := (blk_cell S16.out.head 3).trans (show _ = some (.int .i64 v4) from rfl); have cff3 := blk_frozen S16.out.head 3; have cf4 := (blk_cell S16.out.head 4).trans (show _ = some (.int .i64 v5) from rfl); have cff4 := blk_frozen S16.out.head 4; have cf5 := (blk_cell S16.out.head 5).trans (show _ = some (.int .i64 s) from rfl); have cff5 := blk_frozen S16.out.head 5; have cf6 := (blk_cell S16.out.head 6).trans (show _ = some (.int .i64 0) from rfl); have cff6 := blk_frozen S16.out.head 6; have cf7 := (blk_cell S16.out.head 7).trans (show _ = some (.int .i64 0) from rfl); have cff7 := blk_frozen S16.out.head 7; have ct0 := (blk_cell S16.out.snd 0).trans (show _ = some (.int .i64 Y) from rfl); have ctf0 := blk_frozen S16.out.snd 0; have ct1 := (blk_cell S16.out.snd 1).trans (show _ = some (.int .i64 v2) from rfl); have ctf1 := blk_frozen S16.out.snd 1; have ct2 := (blk_cell S16.out.snd 2).trans (show _ = some (.int .i64 v3) from rfl); have ctf2 := blk_frozen S16.out.snd 2; have ct3 := (blk_cell S16.out.snd 3).trans (show _ = some (.int .i64 v4) from rfl); have ctf3 := blk_frozen S16.out.snd 3; have ct4 := (blk_cell S16.out.snd 4).trans (show _ = some (.int .i64 v5) from rfl); have ctf4 := blk_frozen S16.out.snd 4; have ct5 := (blk_cell S16.out.snd 5).trans (show _ = some (.int .i64 s) from rfl); have ctf5 := blk_frozen S16.out.snd 5; have ct6 := (blk_cell S16.out.snd 6).trans (show _ = some (.int .i64 0) from rfl); have ctf6 := blk_frozen S16.out.snd 6; have ct7 := (blk_cell S16.out.snd 7).trans (show _ = some (.int .i64 z) from rfl); have ctf7 := blk_frozen S16.out.snd 7; obtain ⟨qA, qc, qb, qr, qC⟩ := S16.out.1; have q0 := (blk_cell qb 0).trans (show _ = some (.slice qA l7.length qc) from rfl); have q1 := (blk_cell qb 1).trans (show _ = some (.bool o7) from rfl); have BR2 := Aside0.mk ((S16.out.2.2.2.1.2 _ (List.mem_cons_of_mem _ (List.mem_cons_of_mem _ List.mem_cons_self))).2); clear hw))
        have FB := Aside0.mk S16.out.2.1
        have QB := Aside0.mk (show w16.heap[g12]? = some (.cells #[.slice qA l7.length qc, .bool o7] 81 (0, 0)) from qb)
        have NE6 := Aside0.mk (show some g6 ≠ some g2 from fun e => by have := S16.out.2.2.2.1.1; simp at this; injection e; simp_all)
        have NE9 := Aside0.mk (show some g9 ≠ some g2 from fun e => by have := S16.out.2.2.2.1.1; simp at this; injection e; simp_all)
        have NE12 := Aside0.mk (show some g12 ≠ some g2 from fun e => (S16.out.2.2.2.1.2 _ (List.mem_cons_of_mem _ (List.mem_cons_of_mem _ List.mem_cons_self))).1 (by injection e with e; exact e.symm))
        clear qb qr qC HY0 HY1 HY2 HY3 HY4 HY5 HY6 EY' ED' EN' EZ' ET' EL' EO' S11 S12 S13 S14 S15 ctf0 cff0 ctf1 cff1 ctf2 cff2 ctf3 cff3 ctf4 cff4 ctf5 cff5 ctf6 cff6 ctf7 cff7
        cases o7 with
        | false =>
          refine start_ (n := 21) (S := fun w' => w'.cell? ⟨g6, 0, none⟩ = some (.int .i64 Y) ∧ w'.cell? ⟨g6, 1, none⟩ = some (.int .i64 v2) ∧ w'.cell? ⟨g6, 2, none⟩ = some (.int .i64 v3) ∧ w'.cell? ⟨g6, 3, none⟩ = some (.int .i64 v4) ∧ w'.cell? ⟨g6, 4, none⟩ = some (.int .i64 v5) ∧ w'.cell? ⟨g6, 5, none⟩ = some (.int .i64 s) ∧ w'.cell? ⟨g6, 6, none⟩ = some (.int .i64 0) ∧ w'.cell? ⟨g6, 7, none⟩ = some (.int .i64 z) ∧ w'.cell? ⟨g9, 0, none⟩ = some (.int .i64 Y) ∧ w'.cell? ⟨g9, 1, none⟩ = some (.int .i64 v2) ∧ w'.cell? ⟨g9, 2, none⟩ = some (.int .i64 v3) ∧ w'.cell? ⟨g9, 3, none⟩ = some (.int .i64 v4) ∧ w'.cell? ⟨g9, 4, none⟩ = some (.int .i64 v5) ∧ w'.cell? ⟨g9, 5, none⟩ = some (.int .i64 s) ∧ w'.cell? ⟨g9, 6, none⟩ = some (.int .i64 0) ∧ w'.cell? ⟨g9, 7, none⟩ = some (.int .i64 0) ∧ w'.cell? ⟨g12, 0, none⟩ = some (.slice qA l7.length qc) ∧ w'.cell? ⟨g12, 1, none⟩ = some (.bool false)) (ds := []) #[false, false, false, false, false, false, false, false, false, false, false, false, false, false, false, false, false, false, false, false, false] (by kernel_rfl) rfl rfl ⟨ct0, ct1, ct2, ct3, ct4, ct5, ct6, ct7, cf0, cf1, cf2, cf3, cf4, cf5, cf6, cf7, q0, q1⟩ (fun hHeld => ?_)
          generalize hwg : w16.drew = w17 at hHeld ⊢
          have FB2 := Aside0.mk (show Below w.heap.size w w17 from hwg ▸ below_drew1 FB.out)
          have BK2 := Aside0.mk (show w17.heap[g2]? = some (tm 0 0 0 0 0 0 0 0) from hwg ▸ BR2.out)
          have B6 := Aside0.mk (show w17.heap[g6]? = some (tm Y v2 v3 v4 v5 s 0 z) from hwg ▸ S16.out.snd)
          have B9 := Aside0.mk (show w17.heap[g9]? = some (tm Y v2 v3 v4 v5 s 0 0) from hwg ▸ S16.out.head)
          have B12 := Aside0.mk (show w17.heap[g12]? = some (.cells #[.slice qA l7.length qc, .bool false] 81 (0, 0)) from hwg ▸ QB.out)
          clear hwg ct0 ct1 ct2 ct3 ct4 ct5 ct6 ct7 cf0 cf1 cf2 cf3 cf4 cf5 cf6 cf7 q0 q1 FB BR2
          refine take_ (i := 17) (N := some 88) (v := ?_) (a' := ?_) #[false, false, false, false, false, false, false, false, false, false, false, false, false, false, false, false, false, true, false, false, false] rfl rfl (by kernel_rfl) (fun _ _ _ h => h) (Or.inl ⟨by rfl, ?_⟩) hHeld ?_ ?_
          rotate_left
          · rintro w' ⟨s0, s1, s2, s3, s4, s5, s6, s7, s8, s9, s10, s11, s12, s13, s14, s15, s16, s17⟩
            go_simp
            with_reducible rfl
          rotate_left
          · simp only [Act.put, List.setIfInBounds_toArray, List.set_cons_zero, List.set_cons_succ, i64_w, i32_w]
            rfl
          refine take_ (i := 0) (N := some 71) (v := ?_) (a' := ?_) #[true, false, false, false, false, false, false, false, false, false, false, false, false, false, false, false, false, true, false, false, false] rfl rfl (by kernel_rfl) (fun _ _ _ h => h) (Or.inl ⟨by rfl, ?_⟩) hHeld ?_ ?_
          rotate_left
          · rintro w' ⟨s0, s1, s2, s3, s4, s5, s6, s7, s8, s9, s10, s11, s12, s13, s14, s15, s16, s17⟩
            go_simp
            with_reducible rfl
          rotate_left
          · simp only [Act.put, List.setIfInBounds_toArray, List.set_cons_zero, List.set_cons_succ, i64_w, i32_w]
            rfl
          refine take_ (i := 1) (N := some 72) (v := ?_) (a' := ?_) #[true, true, false, false, false, false, false, false, false, false, false, false, false, false, false, false, false, true, false, false, false] rfl rfl (by kernel_rfl) (fun _ _ _ h => h) (Or.inl ⟨by rfl, ?_⟩) hHeld ?_ ?_
          rotate_left
          · rintro w' ⟨s0, s1, s2, s3, s4, s5, s6, s7, s8, s9, s10, s11, s12, s13, s14, s15, s16, s17⟩
            go_simp
            with_reducible rfl
          rotate_left
          · simp only [Act.put, List.setIfInBounds_toArray, List.set_cons_zero, List.set_cons_succ, i64_w, i32_w]
            rfl
          refine take_ (i := 2) (N := some 73) (v := ?_) (a' := ?_) #[true, true, true, false, false, false, false, false, false, false, false, false, false, false, false, false, false, true, false, false, false] rfl rfl (by kernel_rfl) (fun _ _ _ h => h) (Or.inl ⟨by rfl, ?_⟩) hHeld ?_ ?_
          rotate_left
          · rintro w' ⟨s0, s1, s2, s3, s4, s5, s6, s7, s8, s9, s10, s11, s12, s13, s14, s15, s16, s17⟩
            go_simp
            with_reducible rfl
          rotate_left
          · simp only [Act.put, List.setIfInBounds_toArray, List.set_cons_zero, List.set_cons_succ, i64_w, i32_w]
            rfl
          refine take_ (i := 3) (N := some 74) (v := ?_) (a' := ?_) #[true, true, true, true, false, false, false, false, false, false, false, false, false, false, false, false, false, true, false, false, false] rfl rfl (by kernel_rfl) (fun _ _ _ h => h) (Or.inl ⟨by rfl, ?_⟩) hHeld ?_ ?_
          rotate_left
          · rintro w' ⟨s0, s1, s2, s3, s4, s5, s6, s7, s8, s9, s10, s11, s12, s13, s14, s15, s16, s17⟩
            go_simp
            with_reducible rfl
          rotate_left
          · simp only [Act.put, List.setIfInBounds_toArray, List.set_cons_zero, List.set_cons_succ, i64_w, i32_w]
            rfl
          refine take_ (i := 4) (N := some 75) (v := ?_) (a' := ?_) #[true, true, true, true, true, false, false, false, false, false, false, false, false, false, false, false, false, true, false, false, false] rfl rfl (by kernel_rfl) (fun _ _ _ h => h) (Or.inl ⟨by rfl, ?_⟩) hHeld ?_ ?_
          rotate_left
          · rintro w' ⟨s0, s1, s2, s3, s4, s5, s6, s7, s8, s9, s10, s11, s12, s13, s14, s15, s16, s17⟩
            go_simp
            with_reducible rfl
          rotate_left
          · simp only [Act.put, List.setIfInBounds_toArray, List.set_cons_zero, List.set_cons_succ, i64_w, i32_w]
            rfl
          refine take_ (i := 5) (N := some 76) (v := ?_) (a' := ?_) #[true, true, true, true, true, true, false, false, false, false, false, false, false, false, false, false, false, true, false, false, false] rfl rfl (by kernel_rfl) (fun _ _ _ h => h) (Or.inl ⟨by rfl, ?_⟩) hHeld ?_ ?_
          rotate_left
          · rintro w' ⟨s0, s1, s2, s3, s4, s5, s6, s7, s8, s9, s10, s11, s12, s13, s14, s15, s16, s17⟩
            go_simp
            with_reducible rfl
          rotate_left
          · simp only [Act.put, List.setIfInBounds_toArray, List.set_cons_zero, List.set_cons_succ, i64_w, i32_w]
            rfl
          refine take_ (i := 6) (N := some 77) (v := undef) (a' := ?_) #[true, true, true, true, true, true, true, false, false, false, false, false, false, false, false, false, false, true, false, false, false] rfl rfl (by kernel_rfl) (fun _ _ _ h => h) (Or.inr ⟨by rfl, rfl⟩) hHeld ?_ ?_
          rotate_left
          · simp only [Act.put, List.setIfInBounds_toArray, List.set_cons_zero, List.set_cons_succ, i64_w, i32_w]
            rfl
          refine take_ (i := 7) (N := some 78) (v := undef) (a' := ?_) #[true, true, true, true, true, true, true, true, false, false, false, false, false, false, false, false, false, true, false, false, false] rfl rfl (by kernel_rfl) (fun _ _ _ h => h) (Or.inr ⟨by rfl, rfl⟩) hHeld ?_ ?_
          rotate_left
          · simp only [Act.put, List.setIfInBounds_toArray, List.set_cons_zero, List.set_cons_succ, i64_w, i32_w]
            rfl
          refine take_ (i := 8) (N := some 79) (v := undef) (a' := ?_) #[true, true, true, true, true, true, true, true, true, false, false, false, false, false, false, false, false, true, false, false, false] rfl rfl (by kernel_rfl) (fun _ _ _ h => h) (Or.inr ⟨by rfl, rfl⟩) hHeld ?_ ?_
          rotate_left
          · simp only [Act.put, List.setIfInBounds_toArray, List.set_cons_zero, List.set_cons_succ, i64_w, i32_w]
            rfl
          refine take_ (i := 9) (N := some 80) (v := undef) (a' := ?_) #[true, true, true, true, true, true, true, true, true, true, false, false, false, false, false, false, false, true, false, false, false] rfl rfl (by kernel_rfl) (fun _ _ _ h => h) (Or.inr ⟨by rfl, rfl⟩) hHeld ?_ ?_
          rotate_left
          · simp only [Act.put, List.setIfInBounds_toArray, List.set_cons_zero, List.set_cons_succ, i64_w, i32_w]
            rfl
          refine take_ (i := 10) (N := some 81) (v := undef) (a' := ?_) #[true, true, true, true, true, true, true, true, true, true, true, false, false, false, false, false, false, true, false, false, false] rfl rfl (by kernel_rfl) (fun _ _ _ h => h) (Or.inr ⟨by rfl, rfl⟩) hHeld ?_ ?_
          rotate_left
          · simp only [Act.put, List.setIfInBounds_toArray, List.set_cons_zero, List.set_cons_succ, i64_w, i32_w]
            rfl
          refine take_ (i := 11) (N := some 82) (v := undef) (a' := ?_) #[true, true, true, true, true, true, true, true, true, true, true, true, false, false, false, false, false, true, false, false, false] rfl rfl (by kernel_rfl) (fun _ _ _ h => h) (Or.inr ⟨by rfl, rfl⟩) hHeld ?_ ?_
          rotate_left
          · simp only [Act.put, List.setIfInBounds_toArray, List.set_cons_zero, List.set_cons_succ, i64_w, i32_w]
            rfl
          refine take_ (i := 12) (N := some 83) (v := ?_) (a' := ?_) #[true, true, true, true, true, true, true, true, true, true, true, true, true, false, false, false, false, true, false, false, false] rfl rfl (by kernel_rfl) (fun _ _ _ h => h) (Or.inl ⟨by rfl, ?_⟩) hHeld ?_ ?_
          rotate_left
          · rintro w' ⟨s0, s1, s2, s3, s4, s5, s6, s7, s8, s9, s10, s11, s12, s13, s14, s15, s16, s17⟩
            go_simp
            with_reducible rfl
          rotate_left
          · simp only [Act.put, List.setIfInBounds_toArray, List.set_cons_zero, List.set_cons_succ, i64_w, i32_w]
            rfl
          refine take_ (i := 13) (N := some 84) (v := ?_) (a' := ?_) #[true, true, true, true, true, true, true, true, true, true, true, true, true, true, false, false, false, true, false, false, false] rfl rfl (by kernel_rfl) (fun _ _ _ h => h) (Or.inl ⟨by rfl, ?_⟩) hHeld ?_ ?_
          rotate_left
          · rintro w' ⟨s0, s1, s2, s3, s4, s5, s6, s7, s8, s9, s10, s11, s12, s13, s14, s15, s16, s17⟩
            go_simp
            with_reducible rfl
          rotate_left
          · simp only [Act.put, List.setIfInBounds_toArray, List.set_cons_zero, List.set_cons_succ, i64_w, i32_w]
            rfl
          refine take_ (i := 14) (N := some 85) (v := undef) (a' := ?_) #[true, true, true, true, true, true, true, true, true, true, true, true, true, true, true, false, false, true, false, false, false] rfl rfl (by kernel_rfl) (fun _ _ _ h => h) (Or.inr ⟨by rfl, rfl⟩) hHeld ?_ ?_
          rotate_left
          · simp only [Act.put, List.setIfInBounds_toArray, List.set_cons_zero, List.set_cons_succ, i64_w, i32_w]
            rfl
          refine take_ (i := 15) (N := some 86) (v := undef) (a' := ?_) #[true, true, true, true, true, true, true, true, true, true, true, true, true, true, true, true, false, true, false, false, false] rfl rfl (by kernel_rfl) (fun _ _ _ h => h) (Or.inr ⟨by rfl, rfl⟩) hHeld ?_ ?_
          rotate_left
          · simp only [Act.put, List.setIfInBounds_toArray, List.set_cons_zero, List.set_cons_succ, i64_w, i32_w]
            rfl
          refine take_ (i := 16) (N := some 87) (v := ?_) (a' := ?_) #[true, true, true, true, true, true, true, true, true, true, true, true, true, true, true, true, true, true, false, false, false] rfl rfl (by kernel_rfl) (fun _ _ _ h => h) (Or.inl ⟨by rfl, ?_⟩) hHeld ?_ ?_
          rotate_left
          · rintro w' ⟨s0, s1, s2, s3, s4, s5, s6, s7, s8, s9, s10, s11, s12, s13, s14, s15, s16, s17⟩
            go_simp
            with_reducible rfl
          rotate_left
          · simp only [Act.put, List.setIfInBounds_toArray, List.set_cons_zero, List.set_cons_succ, i64_w, i32_w]
            rfl
          refine one_ (i := 18) (N := none) #[true, true, true, true, true, true, true, true, true, true, true, true, true, true, true, true, true, true, true, false, false] rfl rfl (by kernel_rfl) (by decide) (fun K hK => ?_)
          have r0 := (blk_cell BK2.out 0).trans (show _ = some (.int .i64 0) from rfl)
          have rf0 := blk_frozen BK2.out 0
          have r1 := (blk_cell BK2.out 1).trans (show _ = some (.int .i64 0) from rfl)
          have rf1 := blk_frozen BK2.out 1
          have r2 := (blk_cell BK2.out 2).trans (show _ = some (.int .i64 0) from rfl)
          have rf2 := blk_frozen BK2.out 2
          have r3 := (blk_cell BK2.out 3).trans (show _ = some (.int .i64 0) from rfl)
          have rf3 := blk_frozen BK2.out 3
          have r4 := (blk_cell BK2.out 4).trans (show _ = some (.int .i64 0) from rfl)
          have rf4 := blk_frozen BK2.out 4
          have r5 := (blk_cell BK2.out 5).trans (show _ = some (.int .i64 0) from rfl)
          have rf5 := blk_frozen BK2.out 5
          have r6 := (blk_cell BK2.out 6).trans (show _ = some (.int .i64 0) from rfl)
          have rf6 := blk_frozen BK2.out 6
          have r7 := (blk_cell BK2.out 7).trans (show _ = some (.int .i64 0) from rfl)
          have rf7 := blk_frozen BK2.out 7
          refine skip_ (w1 := put8 w17 g2 (.int .i64 Y) (.int .i64 v2) (.int .i64 v3) (.int .i64 v4) (.int .i64 v5) (.int .i64 s) (.int .i64 0) (.int .i64 z)) (by rfl) rfl ?_ ?_
          · go_simp
            rfl
          have BK9 := Aside0.mk (put8_blk BK2.out (.int .i64 Y) (.int .i64 v2) (.int .i64 v3) (.int .i64 v4) (.int .i64 v5) (.int .i64 s) (.int .i64 0) (.int .i64 z))
          have GW9 := Aside0.mk (put8_grown w17 g2 (.int .i64 Y) (.int .i64 v2) (.int .i64 v3) (.int .i64 v4) (.int .i64 v5) (.int .i64 s) (.int .i64 0) (.int .i64 z))
          have FB9 := Aside0.mk (FB2.out.grown GW9.out (below_size FB2.out) (fun q hq => by cases hq; exact GR.out))
          clear r0 rf0 r1 rf1 r2 rf2 r3 rf3 r4 rf4 r5 rf5 r6 rf6 r7 rf7
          refine hK.out _ _ ⟨(World.grownBy.cell GW9.out (hHeld.1) NE6.out), (World.grownBy.cell GW9.out (hHeld.2.1) NE6.out), (World.grownBy.cell GW9.out (hHeld.2.2.1) NE6.out), (World.grownBy.cell GW9.out (hHeld.2.2.2.1) NE6.out), (World.grownBy.cell GW9.out (hHeld.2.2.2.2.1) NE6.out), (World.grownBy.cell GW9.out (hHeld.2.2.2.2.2.1) NE6.out), (World.grownBy.cell GW9.out (hHeld.2.2.2.2.2.2.1) NE6.out), (World.grownBy.cell GW9.out (hHeld.2.2.2.2.2.2.2.1) NE6.out), (World.grownBy.cell GW9.out (hHeld.2.2.2.2.2.2.2.2.1) NE9.out), (World.grownBy.cell GW9.out (hHeld.2.2.2.2.2.2.2.2.2.1) NE9.out), (World.grownBy.cell GW9.out (hHeld.2.2.2.2.2.2.2.2.2.2.1) NE9.out), (World.grownBy.cell GW9.out (hHeld.2.2.2.2.2.2.2.2.2.2.2.1) NE9.out), (World.grownBy.cell GW9.out (hHeld.2.2.2.2.2.2.2.2.2.2.2.2.1) NE9.out), (World.grownBy.cell GW9.out (hHeld.2.2.2.2.2.2.2.2.2.2.2.2.2.1) NE9.out), (World.grownBy.cell GW9.out (hHeld.2.2.2.2.2.2.2.2.2.2.2.2.2.2.1) NE9.out), (World.grownBy.cell GW9.out (hHeld.2.2.2.2.2.2.2.2.2.2.2.2.2.2.2.1) NE9.out), (World.grownBy.cell GW9.out (hHeld.2.2.2.2.2.2.2.2.2.2.2.2.2.2.2.2.1) NE12.out), (World.grownBy.cell GW9.out (hHeld.2.2.2.2.2.2.2.2.2.2.2.2.2.2.2.2.2) NE12.out)⟩ (fun hHeld => ?_)
          clear hK K
          generalize put8 w17 g2 (.int .i64 Y) (.int .i64 v2) (.int .i64 v3) (.int .i64 v4) (.int .i64 v5) (.int .i64 s) (.int .i64 0) (.int .i64 z) = w19 at BK9 FB9 hHeld ⊢
          refine take_ (i := 19) (N := some 3) (v := ?_) (a' := ?_) #[true, true, true, true, true, true, true, true, true, true, true, true, true, true, true, true, true, true, true, true, false] rfl rfl (by kernel_rfl) (fun _ _ _ h => h) (Or.inl ⟨by rfl, ?_⟩) hHeld ?_ ?_
          rotate_left
          · rintro w' ⟨s0, s1, s2, s3, s4, s5, s6, s7, s8, s9, s10, s11, s12, s13, s14, s15, s16, s17⟩
            go_simp
            with_reducible rfl
          rotate_left
          · simp only [Act.put, List.setIfInBounds_toArray, List.set_cons_zero, List.set_cons_succ, i64_w, i32_w]
            rfl
          refine take_ (i := 20) (N := some 4) (v := ?_) (a' := ?_) #[true, true, true, true, true, true, true, true, true, true, true, true, true, true, true, true, true, true, true, true, true] rfl rfl (by kernel_rfl) (fun _ _ _ h => h) (Or.inl ⟨by rfl, ?_⟩) hHeld ?_ ?_
          rotate_left
          · rintro w' ⟨s0, s1, s2, s3, s4, s5, s6, s7, s8, s9, s10, s11, s12, s13, s14, s15, s16, s17⟩
            go_simp
            with_reducible rfl
          rotate_left
          · simp only [Act.put, List.setIfInBounds_toArray, List.set_cons_zero, List.set_cons_succ, i64_w, i32_w]
            rfl
          refine done_ (by kernel_rfl) ?_
          try go_wp2
          refine bodyPost_ret (results_ctt rfl _ _ g2 44 #[.int .i64 Y, .int .i64 v2, .int .i64 v3, .int .i64 v4, .int .i64 v5, .int .i64 s, .int .i64 0, .int .i64 z] (0, 0) _ rfl BK9.out Try.underlying44 rfl (by kernel_rfl)) rfl ?_
          exact ⟨by first | rfl | (simp; done) | (simp; rfl), FB9.out⟩
        | true =>
          by_cases hl : l7 = []
          · subst hl
            refine start_ (n := 21) (S := fun w' => w'.cell? ⟨g6, 0, none⟩ = some (.int .i64 Y) ∧ w'.cell? ⟨g6, 1, none⟩ = some (.int .i64 v2) ∧ w'.cell? ⟨g6, 2, none⟩ = some (.int .i64 v3) ∧ w'.cell? ⟨g6, 3, none⟩ = some (.int .i64 v4) ∧ w'.cell? ⟨g6, 4, none⟩ = some (.int .i64 v5) ∧ w'.cell? ⟨g6, 5, none⟩ = some (.int .i64 s) ∧ w'.cell? ⟨g6, 6, none⟩ = some (.int .i64 0) ∧ w'.cell? ⟨g6, 7, none⟩ = some (.int .i64 z) ∧ w'.cell? ⟨g9, 0, none⟩ = some (.int .i64 Y) ∧ w'.cell? ⟨g9, 1, none⟩ = some (.int .i64 v2) ∧ w'.cell? ⟨g9, 2, none⟩ = some (.int .i64 v3) ∧ w'.cell? ⟨g9, 3, none⟩ = some (.int .i64 v4) ∧ w'.cell? ⟨g9, 4, none⟩ = some (.int .i64 v5) ∧ w'.cell? ⟨g9, 5, none⟩ = some (.int .i64 s) ∧ w'.cell? ⟨g9, 6, none⟩ = some (.int .i64 0) ∧ w'.cell? ⟨g9, 7, none⟩ = some (.int .i64 0) ∧ w'.cell? ⟨g12, 0, none⟩ = some (.slice qA 0 qc) ∧ w'.cell? ⟨g12, 1, none⟩ = some (.bool true)) (ds := []) #[false, false, false, false, false, false, false, false, false, false, false, false, false, false, false, false, false, false, false, false, false] (by kernel_rfl) rfl rfl ⟨ct0, ct1, ct2, ct3, ct4, ct5, ct6, ct7, cf0, cf1, cf2, cf3, cf4, cf5, cf6, cf7, q0, q1⟩ (fun hHeld => ?_)
            generalize hwg : w16.drew = w17 at hHeld ⊢
            have FB2 := Aside0.mk (show Below w.heap.size w w17 from hwg ▸ below_drew1 FB.out)
            have BK2 := Aside0.mk (show w17.heap[g2]? = some (tm 0 0 0 0 0 0 0 0) from hwg ▸ BR2.out)
            have B6 := Aside0.mk (show w17.heap[g6]? = some (tm Y v2 v3 v4 v5 s 0 z) from hwg ▸ S16.out.snd)
            have B9 := Aside0.mk (show w17.heap[g9]? = some (tm Y v2 v3 v4 v5 s 0 0) from hwg ▸ S16.out.head)
            have B12 := Aside0.mk (show w17.heap[g12]? = some (.cells #[.slice qA 0 qc, .bool true] 81 (0, 0)) from hwg ▸ QB.out)
            clear hwg ct0 ct1 ct2 ct3 ct4 ct5 ct6 ct7 cf0 cf1 cf2 cf3 cf4 cf5 cf6 cf7 q0 q1 FB BR2
            refine take_ (i := 17) (N := some 88) (v := ?_) (a' := ?_) #[false, false, false, false, false, false, false, false, false, false, false, false, false, false, false, false, false, true, false, false, false] rfl rfl (by kernel_rfl) (fun _ _ _ h => h) (Or.inl ⟨by rfl, ?_⟩) hHeld ?_ ?_
            rotate_left
            · rintro w' ⟨s0, s1, s2, s3, s4, s5, s6, s7, s8, s9, s10, s11, s12, s13, s14, s15, s16, s17⟩
              go_simp
              with_reducible rfl
            rotate_left
            · simp only [Act.put, List.setIfInBounds_toArray, List.set_cons_zero, List.set_cons_succ, i64_w, i32_w]
              rfl
            refine take_ (i := 0) (N := some 71) (v := ?_) (a' := ?_) #[true, false, false, false, false, false, false, false, false, false, false, false, false, false, false, false, false, true, false, false, false] rfl rfl (by kernel_rfl) (fun _ _ _ h => h) (Or.inl ⟨by rfl, ?_⟩) hHeld ?_ ?_
            rotate_left
            · rintro w' ⟨s0, s1, s2, s3, s4, s5, s6, s7, s8, s9, s10, s11, s12, s13, s14, s15, s16, s17⟩
              go_simp
              with_reducible rfl
            rotate_left
            · simp only [Act.put, List.setIfInBounds_toArray, List.set_cons_zero, List.set_cons_succ, i64_w, i32_w]
              rfl
            refine take_ (i := 1) (N := some 72) (v := ?_) (a' := ?_) #[true, true, false, false, false, false, false, false, false, false, false, false, false, false, false, false, false, true, false, false, false] rfl rfl (by kernel_rfl) (fun _ _ _ h => h) (Or.inl ⟨by rfl, ?_⟩) hHeld ?_ ?_
            rotate_left
            · rintro w' ⟨s0, s1, s2, s3, s4, s5, s6, s7, s8, s9, s10, s11, s12, s13, s14, s15, s16, s17⟩
              go_simp
              with_reducible rfl
            rotate_left
            · simp only [Act.put, List.setIfInBounds_toArray, List.set_cons_zero, List.set_cons_succ, i64_w, i32_w]
              rfl
            refine take_ (i := 2) (N := some 73) (v := ?_) (a' := ?_) #[true, true, true, false, false, false, false, false, false, false, false, false, false, false, false, false, false, true, false, false, false] rfl rfl (by kernel_rfl) (fun _ _ _ h => h) (Or.inl ⟨by rfl, ?_⟩) hHeld ?_ ?_
            rotate_left
            · rintro w' ⟨s0, s1, s2, s3, s4, s5, s6, s7, s8, s9, s10, s11, s12, s13, s14, s15, s16, s17⟩
              go_simp
              with_reducible rfl
            rotate_left
            · simp only [Act.put, List.setIfInBounds_toArray, List.set_cons_zero, List.set_cons_succ, i64_w, i32_w]
              rfl
            refine take_ (i := 3) (N := some 74) (v := ?_) (a' := ?_) #[true, true, true, true, false, false, false, false, false, false, false, false, false, false, false, false, false, true, false, false, false] rfl rfl (by kernel_rfl) (fun _ _ _ h => h) (Or.inl ⟨by rfl, ?_⟩) hHeld ?_ ?_
            rotate_left
            · rintro w' ⟨s0, s1, s2, s3, s4, s5, s6, s7, s8, s9, s10, s11, s12, s13, s14, s15, s16, s17⟩
              go_simp
              with_reducible rfl
            rotate_left
            · simp only [Act.put, List.setIfInBounds_toArray, List.set_cons_zero, List.set_cons_succ, i64_w, i32_w]
              rfl
            refine take_ (i := 4) (N := some 75) (v := ?_) (a' := ?_) #[true, true, true, true, true, false, false, false, false, false, false, false, false, false, false, false, false, true, false, false, false] rfl rfl (by kernel_rfl) (fun _ _ _ h => h) (Or.inl ⟨by rfl, ?_⟩) hHeld ?_ ?_
            rotate_left
            · rintro w' ⟨s0, s1, s2, s3, s4, s5, s6, s7, s8, s9, s10, s11, s12, s13, s14, s15, s16, s17⟩
              go_simp
              with_reducible rfl
            rotate_left
            · simp only [Act.put, List.setIfInBounds_toArray, List.set_cons_zero, List.set_cons_succ, i64_w, i32_w]
              rfl
            refine take_ (i := 5) (N := some 76) (v := ?_) (a' := ?_) #[true, true, true, true, true, true, false, false, false, false, false, false, false, false, false, false, false, true, false, false, false] rfl rfl (by kernel_rfl) (fun _ _ _ h => h) (Or.inl ⟨by rfl, ?_⟩) hHeld ?_ ?_
            rotate_left
            · rintro w' ⟨s0, s1, s2, s3, s4, s5, s6, s7, s8, s9, s10, s11, s12, s13, s14, s15, s16, s17⟩
              go_simp
              with_reducible rfl
            rotate_left
            · simp only [Act.put, List.setIfInBounds_toArray, List.set_cons_zero, List.set_cons_succ, i64_w, i32_w]
              rfl
            refine take_ (i := 6) (N := some 77) (v := ?_) (a' := ?_) #[true, true, true, true, true, true, true, false, false, false, false, false, false, false, false, false, false, true, false, false, false] rfl rfl (by kernel_rfl) (fun _ _ _ h => h) (Or.inl ⟨by rfl, ?_⟩) hHeld ?_ ?_
            rotate_left
            · rintro w' ⟨s0, s1, s2, s3, s4, s5, s6, s7, s8, s9, s10, s11, s12, s13, s14, s15, s16, s17⟩
              go_simp
              with_reducible rfl
            rotate_left
            · simp only [Act.put, List.setIfInBounds_toArray, List.set_cons_zero, List.set_cons_succ, i64_w, i32_w]
              rfl
            refine take_ (i := 7) (N := some 78) (v := ?_) (a' := ?_) #[true, true, true, true, true, true, true, true, false, false, false, false, false, false, false, false, false, true, false, false, false] rfl rfl (by kernel_rfl) (fun _ _ _ h => h) (Or.inl ⟨by rfl, ?_⟩) hHeld ?_ ?_
            rotate_left
            · rintro w' ⟨s0, s1, s2, s3, s4, s5, s6, s7, s8, s9, s10, s11, s12, s13, s14, s15, s16, s17⟩
              go_simp
              with_reducible rfl
            rotate_left
            · simp only [Act.put, List.setIfInBounds_toArray, List.set_cons_zero, List.set_cons_succ, i64_w, i32_w]
              rfl
            refine take_ (i := 8) (N := some 79) (v := ?_) (a' := ?_) #[true, true, true, true, true, true, true, true, true, false, false, false, false, false, false, false, false, true, false, false, false] rfl rfl (by kernel_rfl) (fun _ _ _ h => h) (Or.inl ⟨by rfl, ?_⟩) hHeld ?_ ?_
            rotate_left
            · rintro w' ⟨s0, s1, s2, s3, s4, s5, s6, s7, s8, s9, s10, s11, s12, s13, s14, s15, s16, s17⟩
              go_simp
              with_reducible rfl
            rotate_left
            · simp only [Act.put, List.setIfInBounds_toArray, List.set_cons_zero, List.set_cons_succ, i64_w, i32_w]
              rfl
            refine take_ (i := 9) (N := some 80) (v := ?_) (a' := ?_) #[true, true, true, true, true, true, true, true, true, true, false, false, false, false, false, false, false, true, false, false, false] rfl rfl (by kernel_rfl) (fun _ _ _ h => h) (Or.inl ⟨by rfl, ?_⟩) hHeld ?_ ?_
            rotate_left
            · rintro w' ⟨s0, s1, s2, s3, s4, s5, s6, s7, s8, s9, s10, s11, s12, s13, s14, s15, s16, s17⟩
              go_simp
              with_reducible rfl
            rotate_left
            · simp only [Act.put, List.setIfInBounds_toArray, List.set_cons_zero, List.set_cons_succ, i64_w, i32_w]
              rfl
            refine take_ (i := 10) (N := some 81) (v := ?_) (a' := ?_) #[true, true, true, true, true, true, true, true, true, true, true, false, false, false, false, false, false, true, false, false, false] rfl rfl (by kernel_rfl) (fun _ _ _ h => h) (Or.inl ⟨by rfl, ?_⟩) hHeld ?_ ?_
            rotate_left
            · rintro w' ⟨s0, s1, s2, s3, s4, s5, s6, s7, s8, s9, s10, s11, s12, s13, s14, s15, s16, s17⟩
              go_simp
              with_reducible rfl
            rotate_left
            · simp only [Act.put, List.setIfInBounds_toArray, List.set_cons_zero, List.set_cons_succ, i64_w, i32_w]
              rfl
            refine take_ (i := 11) (N := some 82) (v := ?_) (a' := ?_) #[true, true, true, true, true, true, true, true, true, true, true, true, false, false, false, false, false, true, false, false, false] rfl rfl (by kernel_rfl) (fun _ _ _ h => h) (Or.inl ⟨by rfl, ?_⟩) hHeld ?_ ?_
            rotate_left
            · rintro w' ⟨s0, s1, s2, s3, s4, s5, s6, s7, s8, s9, s10, s11, s12, s13, s14, s15, s16, s17⟩
              go_simp
              with_reducible rfl
            rotate_left
            · simp only [Act.put, List.setIfInBounds_toArray, List.set_cons_zero, List.set_cons_succ, i64_w, i32_w]
              rfl
            refine take_ (i := 12) (N := some 83) (v := ?_) (a' := ?_) #[true, true, true, true, true, true, true, true, true, true, true, true, true, false, false, false, false, true, false, false, false] rfl rfl (by kernel_rfl) (fun _ _ _ h => h) (Or.inl ⟨by rfl, ?_⟩) hHeld ?_ ?_
            rotate_left
            · rintro w' ⟨s0, s1, s2, s3, s4, s5, s6, s7, s8, s9, s10, s11, s12, s13, s14, s15, s16, s17⟩
              go_simp
              with_reducible rfl
            rotate_left
            · simp only [Act.put, List.setIfInBounds_toArray, List.set_cons_zero, List.set_cons_succ, i64_w, i32_w]
              rfl
            refine take_ (i := 13) (N := some 84) (v := ?_) (a' := ?_) #[true, true, true, true, true, true, true, true, true, true, true, true, true, true, false, false, false, true, false, false, false] rfl rfl (by kernel_rfl) (fun _ _ _ h => h) (Or.inl ⟨by rfl, ?_⟩) hHeld ?_ ?_
            rotate_left
            · rintro w' ⟨s0, s1, s2, s3, s4, s5, s6, s7, s8, s9, s10, s11, s12, s13, s14, s15, s16, s17⟩
              go_simp
              with_reducible rfl
            rotate_left
            · simp only [Act.put, List.setIfInBounds_toArray, List.set_cons_zero, List.set_cons_succ, i64_w, i32_w]
              rfl
            refine take_ (i := 14) (N := some 85) (v := ?_) (a' := ?_) #[true, true, true, true, true, true, true, true, true, true, true, true, true, true, true, false, false, true, false, false, false] rfl rfl (by kernel_rfl) (fun _ _ _ h => h) (Or.inl ⟨by rfl, ?_⟩) hHeld ?_ ?_
            rotate_left
            · rintro w' ⟨s0, s1, s2, s3, s4, s5, s6, s7, s8, s9, s10, s11, s12, s13, s14, s15, s16, s17⟩
              go_simp
              with_reducible rfl
            rotate_left
            · simp only [Act.put, List.setIfInBounds_toArray, List.set_cons_zero, List.set_cons_succ, i64_w, i32_w]
              rfl
            refine one_ (i := 15) (N := some 86) #[true, true, true, true, true, true, true, true, true, true, true, true, true, true, true, true, false, true, false, false, false] rfl rfl (by kernel_rfl) (by decide) (fun K hK => ?_)
            refine goes_ Try.func53 (by kernel_rfl) rfl #[.agg #[.int .i64 Y, .int .i64 v2, .int .i64 v3, .int .i64 v4, .int .i64 v5, .int .i64 s, .int .i64 0, .int .i64 0]] (by rfl) rfl rfl (by (try simp only [List.map_toArray, List.map_cons, List.map_nil]); first | done | rfl) ?_
            with_reducible refine (Right_any Y v2 v3 v4 v5 s 0 0 _).mono ?_
            rintro e w18 ⟨rfl, hb⟩
            refine ⟨_, rfl, ?_⟩
            have FB3 := Aside0.mk (below_step FB2.out hb)
            have BK3 := Aside0.mk (blk_below BK2.out hb)
            have C6 := Aside0.mk (blk_below B6.out hb)
            have C9 := Aside0.mk (blk_below B9.out hb)
            have C12 := Aside0.mk (blk_below B12.out hb)
            clear hb hHeld
            refine hK.out _ _ ⟨(blk_cell C6.out 0).trans rfl, (blk_cell C6.out 1).trans rfl, (blk_cell C6.out 2).trans rfl, (blk_cell C6.out 3).trans rfl, (blk_cell C6.out 4).trans rfl, (blk_cell C6.out 5).trans rfl, (blk_cell C6.out 6).trans rfl, (blk_cell C6.out 7).trans rfl, (blk_cell C9.out 0).trans rfl, (blk_cell C9.out 1).trans rfl, (blk_cell C9.out 2).trans rfl, (blk_cell C9.out 3).trans rfl, (blk_cell C9.out 4).trans rfl, (blk_cell C9.out 5).trans rfl, (blk_cell C9.out 6).trans rfl, (blk_cell C9.out 7).trans rfl, (blk_cell C12.out 0).trans rfl, (blk_cell C12.out 1).trans rfl⟩ (fun hHeld => ?_)
            clear hK K
            refine norm_ (a' := ?_) ?_ ?_
            rotate_left
            · show Act.put _ (some 86) _ = _
              simp only [Act.put, List.setIfInBounds_toArray, List.set_cons_zero, List.set_cons_succ, i64_w, i32_w]
              rfl
            refine take_ (i := 16) (N := some 87) (v := ?_) (a' := ?_) #[true, true, true, true, true, true, true, true, true, true, true, true, true, true, true, true, true, true, false, false, false] rfl rfl (by kernel_rfl) (fun _ _ _ h => h) (Or.inl ⟨by rfl, ?_⟩) hHeld ?_ ?_
            rotate_left
            · rintro w' ⟨s0, s1, s2, s3, s4, s5, s6, s7, s8, s9, s10, s11, s12, s13, s14, s15, s16, s17⟩
              go_simp
              with_reducible rfl
            rotate_left
            · simp only [Act.put, List.setIfInBounds_toArray, List.set_cons_zero, List.set_cons_succ, i64_w, i32_w]
              rfl
            refine one_ (i := 18) (N := none) #[true, true, true, true, true, true, true, true, true, true, true, true, true, true, true, true, true, true, true, false, false] rfl rfl (by kernel_rfl) (by decide) (fun K hK => ?_)
            have r0 := (blk_cell BK3.out 0).trans (show _ = some (.int .i64 0) from rfl)
            have rf0 := blk_frozen BK3.out 0
            have r1 := (blk_cell BK3.out 1).trans (show _ = some (.int .i64 0) from rfl)
            have rf1 := blk_frozen BK3.out 1
            have r2 := (blk_cell BK3.out 2).trans (show _ = some (.int .i64 0) from rfl)
            have rf2 := blk_frozen BK3.out 2
            have r3 := (blk_cell BK3.out 3).trans (show _ = some (.int .i64 0) from rfl)
            have rf3 := blk_frozen BK3.out 3
            have r4 := (blk_cell BK3.out 4).trans (show _ = some (.int .i64 0) from rfl)
            have rf4 := blk_frozen BK3.out 4
            have r5 := (blk_cell BK3.out 5).trans (show _ = some (.int .i64 0) from rfl)
            have rf5 := blk_frozen BK3.out 5
            have r6 := (blk_cell BK3.out 6).trans (show _ = some (.int .i64 0) from rfl)
            have rf6 := blk_frozen BK3.out 6
            have r7 := (blk_cell BK3.out 7).trans (show _ = some (.int .i64 0) from rfl)
            have rf7 := blk_frozen BK3.out 7
            refine skip_ (w1 := put8 w18 g2 (.int .i64 Y) (.int .i64 v2) (.int .i64 v3) (.int .i64 v4) (.int .i64 v5) (.int .i64 s) (.int .i64 0) (.int .i64 z)) (by rfl) rfl ?_ ?_
            · go_simp
              rfl
            have BK9 := Aside0.mk (put8_blk BK3.out (.int .i64 Y) (.int .i64 v2) (.int .i64 v3) (.int .i64 v4) (.int .i64 v5) (.int .i64 s) (.int .i64 0) (.int .i64 z))
            have GW9 := Aside0.mk (put8_grown w18 g2 (.int .i64 Y) (.int .i64 v2) (.int .i64 v3) (.int .i64 v4) (.int .i64 v5) (.int .i64 s) (.int .i64 0) (.int .i64 z))
            have FB9 := Aside0.mk (FB3.out.grown GW9.out (below_size FB3.out) (fun q hq => by cases hq; exact GR.out))
            clear r0 rf0 r1 rf1 r2 rf2 r3 rf3 r4 rf4 r5 rf5 r6 rf6 r7 rf7
            refine hK.out _ _ ⟨(World.grownBy.cell GW9.out (hHeld.1) NE6.out), (World.grownBy.cell GW9.out (hHeld.2.1) NE6.out), (World.grownBy.cell GW9.out (hHeld.2.2.1) NE6.out), (World.grownBy.cell GW9.out (hHeld.2.2.2.1) NE6.out), (World.grownBy.cell GW9.out (hHeld.2.2.2.2.1) NE6.out), (World.grownBy.cell GW9.out (hHeld.2.2.2.2.2.1) NE6.out), (World.grownBy.cell GW9.out (hHeld.2.2.2.2.2.2.1) NE6.out), (World.grownBy.cell GW9.out (hHeld.2.2.2.2.2.2.2.1) NE6.out), (World.grownBy.cell GW9.out (hHeld.2.2.2.2.2.2.2.2.1) NE9.out), (World.grownBy.cell GW9.out (hHeld.2.2.2.2.2.2.2.2.2.1) NE9.out), (World.grownBy.cell GW9.out (hHeld.2.2.2.2.2.2.2.2.2.2.1) NE9.out), (World.grownBy.cell GW9.out (hHeld.2.2.2.2.2.2.2.2.2.2.2.1) NE9.out), (World.grownBy.cell GW9.out (hHeld.2.2.2.2.2.2.2.2.2.2.2.2.1) NE9.out), (World.grownBy.cell GW9.out (hHeld.2.2.2.2.2.2.2.2.2.2.2.2.2.1) NE9.out), (World.grownBy.cell GW9.out (hHeld.2.2.2.2.2.2.2.2.2.2.2.2.2.2.1) NE9.out), (World.grownBy.cell GW9.out (hHeld.2.2.2.2.2.2.2.2.2.2.2.2.2.2.2.1) NE9.out), (World.grownBy.cell GW9.out (hHeld.2.2.2.2.2.2.2.2.2.2.2.2.2.2.2.2.1) NE12.out), (World.grownBy.cell GW9.out (hHeld.2.2.2.2.2.2.2.2.2.2.2.2.2.2.2.2.2) NE12.out)⟩ (fun hHeld => ?_)
            clear hK K
            generalize put8 w18 g2 (.int .i64 Y) (.int .i64 v2) (.int .i64 v3) (.int .i64 v4) (.int .i64 v5) (.int .i64 s) (.int .i64 0) (.int .i64 z) = w19 at BK9 FB9 hHeld ⊢
            refine take_ (i := 19) (N := some 3) (v := ?_) (a' := ?_) #[true, true, true, true, true, true, true, true, true, true, true, true, true, true, true, true, true, true, true, true, false] rfl rfl (by kernel_rfl) (fun _ _ _ h => h) (Or.inl ⟨by rfl, ?_⟩) hHeld ?_ ?_
            rotate_left
            · rintro w' ⟨s0, s1, s2, s3, s4, s5, s6, s7, s8, s9, s10, s11, s12, s13, s14, s15, s16, s17⟩
              go_simp
              with_reducible rfl
            rotate_left
            · simp only [Act.put, List.setIfInBounds_toArray, List.set_cons_zero, List.set_cons_succ, i64_w, i32_w]
              rfl
            refine take_ (i := 20) (N := some 4) (v := ?_) (a' := ?_) #[true, true, true, true, true, true, true, true, true, true, true, true, true, true, true, true, true, true, true, true, true] rfl rfl (by kernel_rfl) (fun _ _ _ h => h) (Or.inl ⟨by rfl, ?_⟩) hHeld ?_ ?_
            rotate_left
            · rintro w' ⟨s0, s1, s2, s3, s4, s5, s6, s7, s8, s9, s10, s11, s12, s13, s14, s15, s16, s17⟩
              go_simp
              with_reducible rfl
            rotate_left
            · simp only [Act.put, List.setIfInBounds_toArray, List.set_cons_zero, List.set_cons_succ, i64_w, i32_w]
              rfl
            refine done_ (by kernel_rfl) ?_
            try go_wp2
            refine bodyPost_ret (results_ctt rfl _ _ g2 44 #[.int .i64 Y, .int .i64 v2, .int .i64 v3, .int .i64 v4, .int .i64 v5, .int .i64 s, .int .i64 0, .int .i64 z] (0, 0) _ rfl BK9.out Try.underlying44 rfl (by kernel_rfl)) rfl ?_
            exact ⟨by first | rfl | (simp; done) | (simp; rfl), FB9.out⟩
          · have HLE := Aside0.mk (show l7.isEmpty = false by cases l7 with | nil => exact absurd rfl hl | cons x r => rfl)
            have hle : ((l7.length : Int) == 0) = false := beq_eq_false_iff_ne.mpr (fun h => hl (List.eq_nil_of_length_eq_zero (by omega)))
            refine start_ (n := 21) (S := fun w' => w'.cell? ⟨g6, 0, none⟩ = some (.int .i64 Y) ∧ w'.cell? ⟨g6, 1, none⟩ = some (.int .i64 v2) ∧ w'.cell? ⟨g6, 2, none⟩ = some (.int .i64 v3) ∧ w'.cell? ⟨g6, 3, none⟩ = some (.int .i64 v4) ∧ w'.cell? ⟨g6, 4, none⟩ = some (.int .i64 v5) ∧ w'.cell? ⟨g6, 5, none⟩ = some (.int .i64 s) ∧ w'.cell? ⟨g6, 6, none⟩ = some (.int .i64 0) ∧ w'.cell? ⟨g6, 7, none⟩ = some (.int .i64 z) ∧ w'.cell? ⟨g9, 0, none⟩ = some (.int .i64 Y) ∧ w'.cell? ⟨g9, 1, none⟩ = some (.int .i64 v2) ∧ w'.cell? ⟨g9, 2, none⟩ = some (.int .i64 v3) ∧ w'.cell? ⟨g9, 3, none⟩ = some (.int .i64 v4) ∧ w'.cell? ⟨g9, 4, none⟩ = some (.int .i64 v5) ∧ w'.cell? ⟨g9, 5, none⟩ = some (.int .i64 s) ∧ w'.cell? ⟨g9, 6, none⟩ = some (.int .i64 0) ∧ w'.cell? ⟨g9, 7, none⟩ = some (.int .i64 0) ∧ w'.cell? ⟨g12, 0, none⟩ = some (.slice qA l7.length qc) ∧ w'.cell? ⟨g12, 1, none⟩ = some (.bool true)) (ds := []) #[false, false, false, false, false, false, false, false, false, false, false, false, false, false, false, false, false, false, false, false, false] (by kernel_rfl) rfl rfl ⟨ct0, ct1, ct2, ct3, ct4, ct5, ct6, ct7, cf0, cf1, cf2, cf3, cf4, cf5, cf6, cf7, q0, q1⟩ (fun hHeld => ?_)
            generalize hwg : w16.drew = w17 at hHeld ⊢
            have FB2 := Aside0.mk (show Below w.heap.size w w17 from hwg ▸ below_drew1 FB.out)
            have BK2 := Aside0.mk (show w17.heap[g2]? = some (tm 0 0 0 0 0 0 0 0) from hwg ▸ BR2.out)
            have B6 := Aside0.mk (show w17.heap[g6]? = some (tm Y v2 v3 v4 v5 s 0 z) from hwg ▸ S16.out.snd)
            have B9 := Aside0.mk (show w17.heap[g9]? = some (tm Y v2 v3 v4 v5 s 0 0) from hwg ▸ S16.out.head)
            have B12 := Aside0.mk (show w17.heap[g12]? = some (.cells #[.slice qA l7.length qc, .bool true] 81 (0, 0)) from hwg ▸ QB.out)
            clear hwg ct0 ct1 ct2 ct3 ct4 ct5 ct6 ct7 cf0 cf1 cf2 cf3 cf4 cf5 cf6 cf7 q0 q1 FB BR2
            refine take_ (i := 17) (N := some 88) (v := ?_) (a' := ?_) #[false, false, false, false, false, false, false, false, false, false, false, false, false, false, false, false, false, true, false, false, false] rfl rfl (by kernel_rfl) (fun _ _ _ h => h) (Or.inl ⟨by rfl, ?_⟩) hHeld ?_ ?_
            rotate_left
            · rintro w' ⟨s0, s1, s2, s3, s4, s5, s6, s7, s8, s9, s10, s11, s12, s13, s14, s15, s16, s17⟩
              go_simp
              with_reducible rfl
            rotate_left
            · simp only [Act.put, List.setIfInBounds_toArray, List.set_cons_zero, List.set_cons_succ, i64_w, i32_w]
              rfl
            refine take_ (i := 0) (N := some 71) (v := ?_) (a' := ?_) #[true, false, false, false, false, false, false, false, false, false, false, false, false, false, false, false, false, true, false, false, false] rfl rfl (by kernel_rfl) (fun _ _ _ h => h) (Or.inl ⟨by rfl, ?_⟩) hHeld ?_ ?_
            rotate_left
            · rintro w' ⟨s0, s1, s2, s3, s4, s5, s6, s7, s8, s9, s10, s11, s12, s13, s14, s15, s16, s17⟩
              go_simp
              with_reducible rfl
            rotate_left
            · simp only [Act.put, List.setIfInBounds_toArray, List.set_cons_zero, List.set_cons_succ, i64_w, i32_w]
              rfl
            refine take_ (i := 1) (N := some 72) (v := ?_) (a' := ?_) #[true, true, false, false, false, false, false, false, false, false, false, false, false, false, false, false, false, true, false, false, false] rfl rfl (by kernel_rfl) (fun _ _ _ h => h) (Or.inl ⟨by rfl, ?_⟩) hHeld ?_ ?_
            rotate_left
            · rintro w' ⟨s0, s1, s2, s3, s4, s5, s6, s7, s8, s9, s10, s11, s12, s13, s14, s15, s16, s17⟩
              go_simp
              with_reducible rfl
            rotate_left
            · simp only [Act.put, List.setIfInBounds_toArray, List.set_cons_zero, List.set_cons_succ, i64_w, i32_w]
              rfl
            refine take_ (i := 2) (N := some 73) (v := ?_) (a' := ?_) #[true, true, true, false, false, false, false, false, false, false, false, false, false, false, false, false, false, true, false, false, false] rfl rfl (by kernel_rfl) (fun _ _ _ h => h) (Or.inl ⟨by rfl, ?_⟩) hHeld ?_ ?_
            rotate_left
            · rintro w' ⟨s0, s1, s2, s3, s4, s5, s6, s7, s8, s9, s10, s11, s12, s13, s14, s15, s16, s17⟩
              go_simp
              with_reducible rfl
            rotate_left
            · simp only [Act.put, List.setIfInBounds_toArray, List.set_cons_zero, List.set_cons_succ, i64_w, i32_w]
              rfl
            refine take_ (i := 3) (N := some 74) (v := ?_) (a' := ?_) #[true, true, true, true, false, false, false, false, false, false, false, false, false, false, false, false, false, true, false, false, false] rfl rfl (by kernel_rfl) (fun _ _ _ h => h) (Or.inl ⟨by rfl, ?_⟩) hHeld ?_ ?_
            rotate_left
            · rintro w' ⟨s0, s1, s2, s3, s4, s5, s6, s7, s8, s9, s10, s11, s12, s13, s14, s15, s16, s17⟩
              go_simp
              with_reducible rfl
            rotate_left
            · simp only [Act.put, List.setIfInBounds_toArray, List.set_cons_zero, List.set_cons_succ, i64_w, i32_w]
              rfl
            refine take_ (i := 4) (N := some 75) (v := ?_) (a' := ?_) #[true, true, true, true, true, false, false, false, false, false, false, false, false, false, false, false, false, true, false, false, false] rfl rfl (by kernel_rfl) (fun _ _ _ h => h) (Or.inl ⟨by rfl, ?_⟩) hHeld ?_ ?_
            rotate_left
            · rintro w' ⟨s0, s1, s2, s3, s4, s5, s6, s7, s8, s9, s10, s11, s12, s13, s14, s15, s16, s17⟩
              go_simp
              with_reducible rfl
            rotate_left
            · simp only [Act.put, List.setIfInBounds_toArray, List.set_cons_zero, List.set_cons_succ, i64_w, i32_w]
              rfl
            refine take_ (i := 5) (N := some 76) (v := ?_) (a' := ?_) #[true, true, true, true, true, true, false, false, false, false, false, false, false, false, false, false, false, true, false, false, false] rfl rfl (by kernel_rfl) (fun _ _ _ h => h) (Or.inl ⟨by rfl, ?_⟩) hHeld ?_ ?_
            rotate_left
            · rintro w' ⟨s0, s1, s2, s3, s4, s5, s6, s7, s8, s9, s10, s11, s12, s13, s14, s15, s16, s17⟩
              go_simp
              with_reducible rfl
            rotate_left
            · simp only [Act.put, List.setIfInBounds_toArray, List.set_cons_zero, List.set_cons_succ, i64_w, i32_w]
              rfl
            refine take_ (i := 6) (N := some 77) (v := ?_) (a' := ?_) #[true, true, true, true, true, true, true, false, false, false, false, false, false, false, false, false, false, true, false, false, false] rfl rfl (by kernel_rfl) (fun _ _ _ h => h) (Or.inl ⟨by rfl, ?_⟩) hHeld ?_ ?_
            rotate_left
            · rintro w' ⟨s0, s1, s2, s3, s4, s5, s6, s7, s8, s9, s10, s11, s12, s13, s14, s15, s16, s17⟩
              go_simp
              with_reducible rfl
            rotate_left
            · simp only [Act.put, List.setIfInBounds_toArray, List.set_cons_zero, List.set_cons_succ, i64_w, i32_w]
              rfl
            refine take_ (i := 7) (N := some 78) (v := ?_) (a' := ?_) #[true, true, true, true, true, true, true, true, false, false, false, false, false, false, false, false, false, true, false, false, false] rfl rfl (by kernel_rfl) (fun _ _ _ h => h) (Or.inl ⟨by rfl, ?_⟩) hHeld ?_ ?_
            rotate_left
            · rintro w' ⟨s0, s1, s2, s3, s4, s5, s6, s7, s8, s9, s10, s11, s12, s13, s14, s15, s16, s17⟩
              go_simp
              with_reducible rfl
            rotate_left
            · simp only [Act.put, List.setIfInBounds_toArray, List.set_cons_zero, List.set_cons_succ, i64_w, i32_w]
              rfl
            refine take_ (i := 8) (N := some 79) (v := ?_) (a' := ?_) #[true, true, true, true, true, true, true, true, true, false, false, false, false, false, false, false, false, true, false, false, false] rfl rfl (by kernel_rfl) (fun _ _ _ h => h) (Or.inl ⟨by rfl, ?_⟩) hHeld ?_ ?_
            rotate_left
            · rintro w' ⟨s0, s1, s2, s3, s4, s5, s6, s7, s8, s9, s10, s11, s12, s13, s14, s15, s16, s17⟩
              go_simp
              with_reducible rfl
            rotate_left
            · simp only [Act.put, List.setIfInBounds_toArray, List.set_cons_zero, List.set_cons_succ, i64_w, i32_w]
              rfl
            refine take_ (i := 9) (N := some 80) (v := ?_) (a' := ?_) #[true, true, true, true, true, true, true, true, true, true, false, false, false, false, false, false, false, true, false, false, false] rfl rfl (by kernel_rfl) (fun _ _ _ h => h) (Or.inl ⟨by rfl, ?_⟩) hHeld ?_ ?_
            rotate_left
            · rintro w' ⟨s0, s1, s2, s3, s4, s5, s6, s7, s8, s9, s10, s11, s12, s13, s14, s15, s16, s17⟩
              go_simp
              with_reducible rfl
            rotate_left
            · simp only [Act.put, List.setIfInBounds_toArray, List.set_cons_zero, List.set_cons_succ, i64_w, i32_w]
              rfl
            refine take_ (i := 10) (N := some 81) (v := ?_) (a' := ?_) #[true, true, true, true, true, true, true, true, true, true, true, false, false, false, false, false, false, true, false, false, false] rfl rfl (by kernel_rfl) (fun _ _ _ h => h) (Or.inl ⟨by rfl, ?_⟩) hHeld ?_ ?_
            rotate_left
            · rintro w' ⟨s0, s1, s2, s3, s4, s5, s6, s7, s8, s9, s10, s11, s12, s13, s14, s15, s16, s17⟩
              go_simp
              with_reducible rfl
            rotate_left
            · simp only [Act.put, List.setIfInBounds_toArray, List.set_cons_zero, List.set_cons_succ, i64_w, i32_w]
              rfl
            refine take_ (i := 11) (N := some 82) (v := ?_) (a' := ?_) #[true, true, true, true, true, true, true, true, true, true, true, true, false, false, false, false, false, true, false, false, false] rfl rfl (by kernel_rfl) (fun _ _ _ h => h) (Or.inl ⟨by rfl, ?_⟩) hHeld ?_ ?_
            rotate_left
            · rintro w' ⟨s0, s1, s2, s3, s4, s5, s6, s7, s8, s9, s10, s11, s12, s13, s14, s15, s16, s17⟩
              go_simp
              with_reducible rfl
            rotate_left
            · simp only [Act.put, List.setIfInBounds_toArray, List.set_cons_zero, List.set_cons_succ, i64_w, i32_w]
              rfl
            refine take_ (i := 12) (N := some 83) (v := ?_) (a' := ?_) #[true, true, true, true, true, true, true, true, true, true, true, true, true, false, false, false, false, true, false, false, false] rfl rfl (by kernel_rfl) (fun _ _ _ h => h) (Or.inl ⟨by rfl, ?_⟩) hHeld ?_ ?_
            rotate_left
            · rintro w' ⟨s0, s1, s2, s3, s4, s5, s6, s7, s8, s9, s10, s11, s12, s13, s14, s15, s16, s17⟩
              go_simp
              with_reducible rfl
            rotate_left
            · simp only [Act.put, List.setIfInBounds_toArray, List.set_cons_zero, List.set_cons_succ, i64_w, i32_w]
              rfl
            refine take_ (i := 13) (N := some 84) (v := ?_) (a' := ?_) #[true, true, true, true, true, true, true, true, true, true, true, true, true, true, false, false, false, true, false, false, false] rfl rfl (by kernel_rfl) (fun _ _ _ h => h) (Or.inl ⟨by rfl, ?_⟩) hHeld ?_ ?_
            rotate_left
            · rintro w' ⟨s0, s1, s2, s3, s4, s5, s6, s7, s8, s9, s10, s11, s12, s13, s14, s15, s16, s17⟩
              go_simp
              with_reducible rfl
            rotate_left
            · simp only [Act.put, List.setIfInBounds_toArray, List.set_cons_zero, List.set_cons_succ, i64_w, i32_w]
              rfl
            refine take_ (i := 14) (N := some 85) (v := undef) (a' := ?_) #[true, true, true, true, true, true, true, true, true, true, true, true, true, true, true, false, false, true, false, false, false] rfl rfl (by kernel_rfl) (fun _ _ _ h => h) (Or.inr ⟨by rfl, rfl⟩) hHeld ?_ ?_
            rotate_left
            · simp only [Act.put, List.setIfInBounds_toArray, List.set_cons_zero, List.set_cons_succ, i64_w, i32_w]
              rfl
            refine take_ (i := 15) (N := some 86) (v := undef) (a' := ?_) #[true, true, true, true, true, true, true, true, true, true, true, true, true, true, true, true, false, true, false, false, false] rfl rfl (by kernel_rfl) (fun _ _ _ h => h) (Or.inr ⟨by rfl, rfl⟩) hHeld ?_ ?_
            rotate_left
            · simp only [Act.put, List.setIfInBounds_toArray, List.set_cons_zero, List.set_cons_succ, i64_w, i32_w]
              rfl
            refine take_ (i := 16) (N := some 87) (v := ?_) (a' := ?_) #[true, true, true, true, true, true, true, true, true, true, true, true, true, true, true, true, true, true, false, false, false] rfl rfl (by kernel_rfl) (fun _ _ _ h => h) (Or.inl ⟨by rfl, ?_⟩) hHeld ?_ ?_
            rotate_left
            · rintro w' ⟨s0, s1, s2, s3, s4, s5, s6, s7, s8, s9, s10, s11, s12, s13, s14, s15, s16, s17⟩
              go_simp
              with_reducible rfl
            rotate_left
            · simp only [Act.put, List.setIfInBounds_toArray, List.set_cons_zero, List.set_cons_succ, i64_w, i32_w]
              rfl
            refine one_ (i := 18) (N := none) #[true, true, true, true, true, true, true, true, true, true, true, true, true, true, true, true, true, true, true, false, false] rfl rfl (by kernel_rfl) (by decide) (fun K hK => ?_)
            have r0 := (blk_cell BK2.out 0).trans (show _ = some (.int .i64 0) from rfl)
            have rf0 := blk_frozen BK2.out 0
            have r1 := (blk_cell BK2.out 1).trans (show _ = some (.int .i64 0) from rfl)
            have rf1 := blk_frozen BK2.out 1
            have r2 := (blk_cell BK2.out 2).trans (show _ = some (.int .i64 0) from rfl)
            have rf2 := blk_frozen BK2.out 2
            have r3 := (blk_cell BK2.out 3).trans (show _ = some (.int .i64 0) from rfl)
            have rf3 := blk_frozen BK2.out 3
            have r4 := (blk_cell BK2.out 4).trans (show _ = some (.int .i64 0) from rfl)
            have rf4 := blk_frozen BK2.out 4
            have r5 := (blk_cell BK2.out 5).trans (show _ = some (.int .i64 0) from rfl)
            have rf5 := blk_frozen BK2.out 5
            have r6 := (blk_cell BK2.out 6).trans (show _ = some (.int .i64 0) from rfl)
            have rf6 := blk_frozen BK2.out 6
            have r7 := (blk_cell BK2.out 7).trans (show _ = some (.int .i64 0) from rfl)
            have rf7 := blk_frozen BK2.out 7
            refine skip_ (w1 := put8 w17 g2 (.int .i64 Y) (.int .i64 v2) (.int .i64 v3) (.int .i64 v4) (.int .i64 v5) (.int .i64 s) (.int .i64 0) (.int .i64 z)) (by rfl) rfl ?_ ?_
            · go_simp
              rfl
            have BK9 := Aside0.mk (put8_blk BK2.out (.int .i64 Y) (.int .i64 v2) (.int .i64 v3) (.int .i64 v4) (.int .i64 v5) (.int .i64 s) (.int .i64 0) (.int .i64 z))
            have GW9 := Aside0.mk (put8_grown w17 g2 (.int .i64 Y) (.int .i64 v2) (.int .i64 v3) (.int .i64 v4) (.int .i64 v5) (.int .i64 s) (.int .i64 0) (.int .i64 z))
            have FB9 := Aside0.mk (FB2.out.grown GW9.out (below_size FB2.out) (fun q hq => by cases hq; exact GR.out))
            clear r0 rf0 r1 rf1 r2 rf2 r3 rf3 r4 rf4 r5 rf5 r6 rf6 r7 rf7
            refine hK.out _ _ ⟨(World.grownBy.cell GW9.out (hHeld.1) NE6.out), (World.grownBy.cell GW9.out (hHeld.2.1) NE6.out), (World.grownBy.cell GW9.out (hHeld.2.2.1) NE6.out), (World.grownBy.cell GW9.out (hHeld.2.2.2.1) NE6.out), (World.grownBy.cell GW9.out (hHeld.2.2.2.2.1) NE6.out), (World.grownBy.cell GW9.out (hHeld.2.2.2.2.2.1) NE6.out), (World.grownBy.cell GW9.out (hHeld.2.2.2.2.2.2.1) NE6.out), (World.grownBy.cell GW9.out (hHeld.2.2.2.2.2.2.2.1) NE6.out), (World.grownBy.cell GW9.out (hHeld.2.2.2.2.2.2.2.2.1) NE9.out), (World.grownBy.cell GW9.out (hHeld.2.2.2.2.2.2.2.2.2.1) NE9.out), (World.grownBy.cell GW9.out (hHeld.2.2.2.2.2.2.2.2.2.2.1) NE9.out), (World.grownBy.cell GW9.out (hHeld.2.2.2.2.2.2.2.2.2.2.2.1) NE9.out), (World.grownBy.cell GW9.out (hHeld.2.2.2.2.2.2.2.2.2.2.2.2.1) NE9.out), (World.grownBy.cell GW9.out (hHeld.2.2.2.2.2.2.2.2.2.2.2.2.2.1) NE9.out), (World.grownBy.cell GW9.out (hHeld.2.2.2.2.2.2.2.2.2.2.2.2.2.2.1) NE9.out), (World.grownBy.cell GW9.out (hHeld.2.2.2.2.2.2.2.2.2.2.2.2.2.2.2.1) NE9.out), (World.grownBy.cell GW9.out (hHeld.2.2.2.2.2.2.2.2.2.2.2.2.2.2.2.2.1) NE12.out), (World.grownBy.cell GW9.out (hHeld.2.2.2.2.2.2.2.2.2.2.2.2.2.2.2.2.2) NE12.out)⟩ (fun hHeld => ?_)
            clear hK K
            generalize put8 w17 g2 (.int .i64 Y) (.int .i64 v2) (.int .i64 v3) (.int .i64 v4) (.int .i64 v5) (.int .i64 s) (.int .i64 0) (.int .i64 z) = w19 at BK9 FB9 hHeld ⊢
            refine take_ (i := 19) (N := some 3) (v := ?_) (a' := ?_) #[true, true, true, true, true, true, true, true, true, true, true, true, true, true, true, true, true, true, true, true, false] rfl rfl (by kernel_rfl) (fun _ _ _ h => h) (Or.inl ⟨by rfl, ?_⟩) hHeld ?_ ?_
            rotate_left
            · rintro w' ⟨s0, s1, s2, s3, s4, s5, s6, s7, s8, s9, s10, s11, s12, s13, s14, s15, s16, s17⟩
              go_simp
              with_reducible rfl
            rotate_left
            · simp only [Act.put, List.setIfInBounds_toArray, List.set_cons_zero, List.set_cons_succ, i64_w, i32_w]
              rfl
            refine take_ (i := 20) (N := some 4) (v := ?_) (a' := ?_) #[true, true, true, true, true, true, true, true, true, true, true, true, true, true, true, true, true, true, true, true, true] rfl rfl (by kernel_rfl) (fun _ _ _ h => h) (Or.inl ⟨by rfl, ?_⟩) hHeld ?_ ?_
            rotate_left
            · rintro w' ⟨s0, s1, s2, s3, s4, s5, s6, s7, s8, s9, s10, s11, s12, s13, s14, s15, s16, s17⟩
              go_simp
              with_reducible rfl
            rotate_left
            · simp only [Act.put, List.setIfInBounds_toArray, List.set_cons_zero, List.set_cons_succ, i64_w, i32_w]
              rfl
            refine done_ (by kernel_rfl) ?_
            try go_wp2
            refine bodyPost_ret (results_ctt rfl _ _ g2 44 #[.int .i64 Y, .int .i64 v2, .int .i64 v3, .int .i64 v4, .int .i64 v5, .int .i64 s, .int .i64 0, .int .i64 z] (0, 0) _ rfl BK9.out Try.underlying44 rfl (by kernel_rfl)) rfl ?_
            exact ⟨by first | rfl | (simp [HLE.out]; done) | (simp [HLE.out]; rfl), FB9.out⟩
def u1L (l : List Int) : List Int := figL 2 l
def u2L (l : List Int) : List Int := figL 2 (u1L l)
def u3L (l : List Int) : List Int := figL 2 (u2L l)
def u4L (l : List Int) : List Int := figL 2 (u3L l)
def u5L (l : List Int) : List Int := figL 2 (u4L l)
def u5O (l : List Int) : Bool := ((((true && figO 2 l) && figO 2 (u1L l)) && figO 2 (u2L l)) && figO 2 (u3L l)) && figO 2 (u4L l)
def u6L (l : List Int) : List Int := if dig0 (u5L l) = true then figL 2 (u5L l) else u5L l
def u6O (l : List Int) : Bool := if dig0 (u5L l) = true then u5O l && figO 2 (u5L l) else u5O l
def secI (l : List Int) : Int := if dig0 (u5L l) = true then figN 2 (u5L l) else 0
def utcOk (l : List Int) : Bool := zoneO (u6O l) (u6L l) && (zoneL (u6L l)).isEmpty && rightB (yearI (figN 2 l)) (figN 2 (u1L l)) (figN 2 (u2L l)) (figN 2 (u3L l)) (figN 2 (u4L l)) (secI l) 0 0
theorem Utc_any (A0 : Option Addr) (c0 : Nat) (l : List Int) (w : World) (hr0 : Kd.C (Kd.int .u8) w A0 l.length l) (hc0 : l.length ≤ c0) (hby : bytesIn l) :
    Calls Try.prog 25 #[.slice A0 l.length c0] w (UtcTo w (yearI (figN 2 l)) (figN 2 (u1L l)) (figN 2 (u2L l)) (figN 2 (u3L l)) (figN 2 (u4L l)) (secI l) 0 (zoneV (u6L l)) (utcOk l) (zoneT (u6L l))) :=
  Utc_core A0 c0 l (u1L l) (u2L l) (u3L l) (u4L l) (u5L l) (u6L l) _ _ _ _ _ (u5O l) (u6O l) _ _ _ _ _ _ _ _ (secI l) _ w hr0 hc0 hby rfl rfl rfl rfl rfl rfl rfl rfl rfl rfl rfl rfl rfl rfl rfl rfl (fun h => ⟨if_pos h, if_pos h, if_pos h⟩) (fun h => ⟨if_neg (by rw [h]; decide), if_neg (by rw [h]; decide), if_neg (by rw [h]; decide)⟩) rfl rfl rfl rfl
end

def spec_Utc.f (l0 : List Int) : Option (Int × Int × Int × Int × Int × Int × Int × Int × Bool × Bool) := if (∀ x, x ∈ l0 → 0 ≤ x ∧ x ≤ 255) then some (yearI (figN 2 l0), figN 2 (u1L l0), figN 2 (u2L l0), figN 2 (u3L l0), figN 2 (u4L l0), secI l0, 0, zoneV (u6L l0), utcOk l0, zoneT (u6L l0)) else none
theorem spec_Utc.calls (A0 : Option Addr) (c0 : Nat) (l0 : List Int) (r1 : Int) (r2 : Int) (r3 : Int) (r4 : Int) (r5 : Int) (r6 : Int) (r7 : Int) (r8 : Int) (r9 : Bool) (r10 : Bool) (w : World) (hr0 : Kd.C (Kd.int .u8) w A0 l0.length l0) (hc0 : l0.length ≤ c0) (h : spec_Utc.f l0 = some (r1, r2, r3, r4, r5, r6, r7, r8, r9, r10)) :
    Calls Try.prog 25 #[.slice A0 l0.length c0] w fun e w' => e = .returned (.tuple #[.agg #[.int .i64 r1, .int .i64 r2, .int .i64 r3, .int .i64 r4, .int .i64 r5, .int .i64 r6, .int .i64 r7, .int .i64 r8], .bool r9, .bool r10]) ∧ Below w.heap.size w w' := by
  unfold spec_Utc.f at h
  by_cases hb : (∀ x, x ∈ l0 → 0 ≤ x ∧ x ≤ 255)
  · rw [if_pos hb] at h
    simp only [Option.some.injEq, Prod.mk.injEq] at h
    obtain ⟨rfl, rfl, rfl, rfl, rfl, rfl, rfl, rfl, rfl, rfl⟩ := h
    exact Utc_any A0 c0 l0 w hr0 hc0 hb
  · rw [if_neg hb] at h
    cases h

/-! ### impl_copied: function 44 -/
def impl_copied.f (l0 : List Int) : Option (List Int) := if ([] : List Int).length + l0.length < 140737488355328 then (some (([] : List Int) ++ l0)) else (none)
set_option maxHeartbeats 8000000 in
set_option maxRecDepth 100000 in
theorem impl_copied.calls (A0 : Option Addr) (c0 : Nat) (l0 : List Int) (r : List Int) (w : World) (hr0 : Kd.C (Kd.int .u8) w A0 l0.length l0) (hc0 : l0.length ≤ c0) (h : impl_copied.f l0 = some r) :
    Calls Try.prog 44 #[.slice A0 l0.length c0] w fun e w' => ∃ v0_ : Value, e = .returned (v0_) ∧ Kd.R (Kd.int .u8) 5 w' w.heap.size (fun _ => True) v0_ r ∧ Below w.heap.size w w' := by
  have HR0 := Aside0.mk hr0
  have HC0 := Aside0.mk hc0
  clear hr0 hc0
  have HB := Aside0.mk (Below.refl w.heap.size w)
  have H : (if ([] : List Int).length + l0.length < 140737488355328 then (some (([] : List Int) ++ l0)) else (none)) = some r := h
  clear h
  by_cases c2 : ([] : List Int).length + l0.length < 140737488355328
  · rw [if_pos c2] at H
    have LMc2 := Aside0.mk c2
    clear c2
    obtain ⟨y101, hy101⟩ : ∃ y_ : List Int, y_ = (([] : List Int) ++ l0) := ⟨_, rfl⟩
    replace H : (some y101) = some r := by first | (rw [hy101]; with_reducible exact H) | (have H2_ := (Option.bind_some _ _).symm.trans H; rw [hy101]; with_reducible exact H2_) | (have H2_ := (Option.bind_some _ _).symm.trans H; with_reducible exact H2_) | with_reducible exact H | (rw [hy101]; exact H) | exact H
    have Ny101 := Aside0.mk hy101
    clear hy101
    obtain rfl := Option.some.inj H
    go_enter Try.func44, Try.ntmps44
    go_wp2_with (first | ((with_reducible refine gate_builtin (b := .append) (xs := #[.const (.slice none 0 0), .tmp 3]) rfl ?_); at_builtin; refine Kd.R_append_rows (Kd.int .u8) (w0 := w) w.heap.size rfl (.const (.slice none 0 0)) (.tmp 3) 25 5 (.int .u8 0) 1 rfl Try.underlying25 info5 rfl (by decide) (by omega) (.slice none 0 0) ([] : List Int) l0 _ _ _ (fun _ => True) (fun _ => False) rfl rfl ?aO ?aR (fun _ _ h => h) (fun _ h => h.elim) ?aF ?aB ?aS ?aL ?_; (case aR => repeat (first | exact HR0.out | (with_reducible refine Kd.C_alloc ?_ _) | (with_reducible refine Kd.C_drewN ?_ _) | (with_reducible refine Kd.C_drew ?_))); (case aB => exact (by repeat (first | (with_reducible first | exact HB.out | apply below_alloc | apply pw_below_drewN | apply below_drew1) | exact HB.out))); (case aF => exact (fun _ _ => trivial)); (case aO => exact ((Kd.R_nil _ _ _ _ (fun _ => True)))); (case aS => exact (below_size (by repeat (first | (with_reducible first | exact HB.out | apply below_alloc | apply pw_below_drewN | apply below_drew1) | exact HB.out)))); (case aL => have := LMc2.out; omega); intro v102 w3 ho hb hg hat; rw [← Ny101.out] at ho; have n0_ := Aside0.mk (hb); have n1_ := Aside0.mk (ho); clear HB; have HB := n0_; have HO103 := n1_; clear n0_ n1_; clear ho hb hg hat))
    go_ret
    exact ⟨_, by first | rfl | (simp [errW_none, errW_some] <;> rfl) | (simp [*, errW_none, errW_some] <;> rfl), by (with_reducible repeat (first | apply Kd.R_alloc | apply Kd.R_drewN | apply Kd.R_drew)); exact HO103.out, by repeat (first | (with_reducible first | exact HB.out | apply below_alloc | apply pw_below_drewN | apply below_drew1) | exact HB.out)⟩
  · rw [if_neg c2] at H
    exact absurd H (by simp)

/-! ### impl_short: function 48 -/
def impl_short.f (l0 : List Int) : Option (Bool) := some (decide ((l0.length : Int) ≤ 10000))
set_option maxHeartbeats 8000000 in
set_option maxRecDepth 100000 in
theorem impl_short.calls (A0 : Option Addr) (c0 : Nat) (l0 : List Int) (r : Bool) (w : World) (hr0 : Kd.C (Kd.int .u8) w A0 l0.length l0) (hc0 : l0.length ≤ c0) (h : impl_short.f l0 = some r) :
    Calls Try.prog 48 #[.slice A0 l0.length c0] w fun e w' => e = .returned (.bool r) ∧ Drawn0 w w' := by
  have HR0 := Aside0.mk hr0
  have HC0 := Aside0.mk hc0
  clear hr0 hc0
  have H : (some (decide ((l0.length : Int) ≤ 10000))) = some r := h
  clear h
  obtain rfl := Option.some.inj H
  go_enter Try.func48, Try.ntmps48
  go_wp2
  go_ret
  exact ⟨by first | rfl | (simp; done) | (simp [*]; done), by repeat (first | exact Drawn0.refl _ | apply Drawn0.step)⟩

/-! ### impl_told: function 54 -/
def impl_told.f (a0_0 : Int) (a0_1 : Int) (a0_2 : Int) (a0_3 : Int) (a0_4 : Int) (a0_5 : Int) (a0_6 : Int) (a0_7 : Int) (a1 : Option Int) : Option (Int × Int × Int × Int × Int × Int × Int × Int × Bool) := if a1.isNone = true then (some (a0_0, a0_1, a0_2, a0_3, a0_4, a0_5, a0_6, a0_7, true)) else (some (0, 0, 0, 0, 0, 0, 0, 0, false))
set_option maxHeartbeats 8000000 in
set_option maxRecDepth 100000 in
theorem impl_told.calls (a0_0 : Int) (a0_1 : Int) (a0_2 : Int) (a0_3 : Int) (a0_4 : Int) (a0_5 : Int) (a0_6 : Int) (a0_7 : Int) (a1 : Option Int) (r1 : Int) (r2 : Int) (r3 : Int) (r4 : Int) (r5 : Int) (r6 : Int) (r7 : Int) (r8 : Int) (r9 : Bool) (w : World) (h : impl_told.f a0_0 a0_1 a0_2 a0_3 a0_4 a0_5 a0_6 a0_7 a1 = some (r1, r2, r3, r4, r5, r6, r7, r8, r9)) :
    Calls Try.prog 54 #[.agg #[.int .i64 a0_0, .int .i64 a0_1, .int .i64 a0_2, .int .i64 a0_3, .int .i64 a0_4, .int .i64 a0_5, .int .i64 a0_6, .int .i64 a0_7], errW a1] w fun e w' => e = .returned (.tuple #[.agg #[.int .i64 r1, .int .i64 r2, .int .i64 r3, .int .i64 r4, .int .i64 r5, .int .i64 r6, .int .i64 r7, .int .i64 r8], .bool r9]) ∧ Below w.heap.size w w' := by
  have hu87 := Try.underlying87
  have hu47 := Try.underlying47
  have hu72 := Try.underlying72
  have HB := Aside0.mk (Below.refl w.heap.size w)
  have H : (if a1.isNone = true then (some (a0_0, a0_1, a0_2, a0_3, a0_4, a0_5, a0_6, a0_7, true)) else (some (0, 0, 0, 0, 0, 0, 0, 0, false))) = some (r1, r2, r3, r4, r5, r6, r7, r8, r9) := h
  clear h
  rcases a1 with _ | q106
  · have H1 : (some (a0_0, a0_1, a0_2, a0_3, a0_4, a0_5, a0_6, a0_7, true)) = some (r1, r2, r3, r4, r5, r6, r7, r8, r9) := by rw [if_pos (show (none : Option Int).isNone = true by rfl)] at H; exact H
    clear H
    have H := H1
    clear H1
    simp only [errW_none, errW_some]
    simp only [Option.some.injEq, Prod.mk.injEq] at H
    obtain ⟨rfl, rfl, rfl, rfl, rfl, rfl, rfl, rfl, rfl⟩ := H
    go_enter Try.func54, Try.ntmps54
    go_wp2_with (first | ((with_reducible refine gate_dst (N := 2) rfl ?_); refine box_event ?hg (N := 2) ?hd (cs := #[.int .i64 a0_0, .int .i64 a0_1, .int .i64 a0_2, .int .i64 a0_3, .int .i64 a0_4, .int .i64 a0_5, .int .i64 a0_6, .int .i64 a0_7]) (t := 87) ?hr ?_; (case hd => rfl); (case hg => rfl); (case hr => first | (go_simp; done) | (go_simp; rfl)); intro gb104 hg w3 hbox hb; have n0_ := Aside0.mk (below_step (by repeat (first | (with_reducible first | exact HB.out | apply below_alloc | apply pw_below_drewN | apply below_drew1) | exact HB.out)) hb); have n1_ := Aside0.mk (hbox); have n2_ := Aside0.mk ((by rw [hg]; exact (below_size (by repeat (first | (with_reducible first | exact HB.out | apply below_alloc | apply pw_below_drewN | apply below_drew1) | exact HB.out))) : w.heap.size ≤ gb104)); have n3_ := Aside0.mk ((by rw [hg]; exact (below_size (by repeat (first | (with_reducible first | exact HB.out | apply below_alloc | apply pw_below_drewN | apply below_drew1) | exact HB.out))) : w.heap.size ≤ gb104)); clear HB; have HB := n0_; have BK104 := n1_; have GW104 := n2_; have GE104 := n3_; clear n0_ n1_ n2_ n3_; clear hb hbox hg) | ((with_reducible refine gate_dst (N := 4) rfl ?_); refine box_event ?hg (N := 4) ?hd (cs := #[.int .i64 0, .int .i64 0, .int .i64 0, .int .i64 0, .int .i64 0, .int .i64 0, .int .i64 0, .int .i64 0]) (t := 47) ?hr ?_; (case hd => rfl); (case hg => rfl); (case hr => first | (go_simp; done) | (go_simp; rfl)); intro gb105 hg w4 hbox hb; have n0_ := Aside0.mk (blk_below (g := gb104) (o := .cells #[.int .i64 a0_0, .int .i64 a0_1, .int .i64 a0_2, .int .i64 a0_3, .int .i64 a0_4, .int .i64 a0_5, .int .i64 a0_6, .int .i64 a0_7] 87 (0, 0)) (by (with_reducible repeat (first | refine blk_drewN ?_ _ | refine blk_drew ?_ | refine blk_alloc ?_ _)); exact BK104.out) hb); have n1_ := Aside0.mk (below_step (by repeat (first | (with_reducible first | exact HB.out | apply below_alloc | apply pw_below_drewN | apply below_drew1 | refine below_set ?_ GE104.out) | exact HB.out)) hb); have n2_ := Aside0.mk (hbox); have n3_ := Aside0.mk ((by rw [hg]; exact (below_size (by repeat (first | (with_reducible first | exact HB.out | apply below_alloc | apply pw_below_drewN | apply below_drew1 | refine below_set ?_ GE104.out) | exact HB.out))) : w.heap.size ≤ gb105)); have n4_ := Aside0.mk ((by rw [hg]; exact (below_size (by repeat (first | (with_reducible first | exact HB.out | apply below_alloc | apply pw_below_drewN | apply below_drew1 | refine below_set ?_ GE104.out) | exact HB.out))) : w.heap.size ≤ gb105)); have n5_ := Aside0.mk ((by rw [hg]; exact Nat.ne_of_lt (blk_lt (g := gb104) (o := .cells #[.int .i64 a0_0, .int .i64 a0_1, .int .i64 a0_2, .int .i64 a0_3, .int .i64 a0_4, .int .i64 a0_5, .int .i64 a0_6, .int .i64 a0_7] 87 (0, 0)) (by (with_reducible repeat (first | refine blk_drewN ?_ _ | refine blk_drew ?_ | refine blk_alloc ?_ _)); exact BK104.out)) : gb104 ≠ gb105)); have n6_ := Aside0.mk ((by rw [hg]; exact Nat.ne_of_gt (blk_lt (g := gb104) (o := .cells #[.int .i64 a0_0, .int .i64 a0_1, .int .i64 a0_2, .int .i64 a0_3, .int .i64 a0_4, .int .i64 a0_5, .int .i64 a0_6, .int .i64 a0_7] 87 (0, 0)) (by (with_reducible repeat (first | refine blk_drewN ?_ _ | refine blk_drew ?_ | refine blk_alloc ?_ _)); exact BK104.out)) : gb105 ≠ gb104)); clear BK104; clear HB; have BK104 := n0_; have HB := n1_; have BK105 := n2_; have GW105 := n3_; have GE105 := n4_; have NB104_105 := n5_; have NB105_104 := n6_; clear n0_ n1_ n2_ n3_ n4_ n5_ n6_; clear hb hbox hg; have hnb5 := NB104_105.out; have hnc5 := NB105_104.out; have hcz6_0 : w4.cell? ⟨gb104, 0, none⟩ = some (.int .i64 a0_0) := (blk_cell BK104.out 0).trans rfl; have hcz6_1 : w4.cell? ⟨gb104, 1, none⟩ = some (.int .i64 a0_1) := (blk_cell BK104.out 1).trans rfl; have hcz6_2 : w4.cell? ⟨gb104, 2, none⟩ = some (.int .i64 a0_2) := (blk_cell BK104.out 2).trans rfl; have hcz6_3 : w4.cell? ⟨gb104, 3, none⟩ = some (.int .i64 a0_3) := (blk_cell BK104.out 3).trans rfl; have hcz6_4 : w4.cell? ⟨gb104, 4, none⟩ = some (.int .i64 a0_4) := (blk_cell BK104.out 4).trans rfl; have hcz6_5 : w4.cell? ⟨gb104, 5, none⟩ = some (.int .i64 a0_5) := (blk_cell BK104.out 5).trans rfl; have hcz6_6 : w4.cell? ⟨gb104, 6, none⟩ = some (.int .i64 a0_6) := (blk_cell BK104.out 6).trans rfl; have hcz6_7 : w4.cell? ⟨gb104, 7, none⟩ = some (.int .i64 a0_7) := (blk_cell BK104.out 7).trans rfl; have hfz6_0 := blk_frozen BK104.out 0; have hfz6_1 := blk_frozen BK104.out 1; have hfz6_2 := blk_frozen BK104.out 2; have hfz6_3 := blk_frozen BK104.out 3; have hfz6_4 := blk_frozen BK104.out 4; have hfz6_5 := blk_frozen BK104.out 5; have hfz6_6 := blk_frozen BK104.out 6; have hfz6_7 := blk_frozen BK104.out 7; have hcz7_0 : w4.cell? ⟨gb105, 0, none⟩ = some (.int .i64 0) := (blk_cell BK105.out 0).trans rfl; have hcz7_1 : w4.cell? ⟨gb105, 1, none⟩ = some (.int .i64 0) := (blk_cell BK105.out 1).trans rfl; have hcz7_2 : w4.cell? ⟨gb105, 2, none⟩ = some (.int .i64 0) := (blk_cell BK105.out 2).trans rfl; have hcz7_3 : w4.cell? ⟨gb105, 3, none⟩ = some (.int .i64 0) := (blk_cell BK105.out 3).trans rfl; have hcz7_4 : w4.cell? ⟨gb105, 4, none⟩ = some (.int .i64 0) := (blk_cell BK105.out 4).trans rfl; have hcz7_5 : w4.cell? ⟨gb105, 5, none⟩ = some (.int .i64 0) := (blk_cell BK105.out 5).trans rfl; have hcz7_6 : w4.cell? ⟨gb105, 6, none⟩ = some (.int .i64 0) := (blk_cell BK105.out 6).trans rfl; have hcz7_7 : w4.cell? ⟨gb105, 7, none⟩ = some (.int .i64 0) := (blk_cell BK105.out 7).trans rfl; have hfz7_0 := blk_frozen BK105.out 0; have hfz7_1 := blk_frozen BK105.out 1; have hfz7_2 := blk_frozen BK105.out 2; have hfz7_3 := blk_frozen BK105.out 3; have hfz7_4 := blk_frozen BK105.out 4; have hfz7_5 := blk_frozen BK105.out 5; have hfz7_6 := blk_frozen BK105.out 6; have hfz7_7 := blk_frozen BK105.out 7))
    refine bodyPost_ret (results_ct rfl _ _ gb105 47 #[.int .i64 a0_0, .int .i64 a0_1, .int .i64 a0_2, .int .i64 a0_3, .int .i64 a0_4, .int .i64 a0_5, .int .i64 a0_6, .int .i64 a0_7] (0, 0) _ rfl (by (with_reducible repeat (first | refine blk_drewN ?_ _ | refine blk_drew ?_ | refine blk_alloc ?_ _)); refine blk_put (cs := #[.int .i64 a0_0, .int .i64 a0_1, .int .i64 a0_2, .int .i64 a0_3, .int .i64 a0_4, .int .i64 a0_5, .int .i64 a0_6, .int .i64 0]) ?_ 7 _ rfl; (with_reducible repeat (first | refine blk_drewN ?_ _ | refine blk_drew ?_ | refine blk_alloc ?_ _)); refine blk_put (cs := #[.int .i64 a0_0, .int .i64 a0_1, .int .i64 a0_2, .int .i64 a0_3, .int .i64 a0_4, .int .i64 a0_5, .int .i64 0, .int .i64 0]) ?_ 6 _ rfl; (with_reducible repeat (first | refine blk_drewN ?_ _ | refine blk_drew ?_ | refine blk_alloc ?_ _)); refine blk_put (cs := #[.int .i64 a0_0, .int .i64 a0_1, .int .i64 a0_2, .int .i64 a0_3, .int .i64 a0_4, .int .i64 0, .int .i64 0, .int .i64 0]) ?_ 5 _ rfl; (with_reducible repeat (first | refine blk_drewN ?_ _ | refine blk_drew ?_ | refine blk_alloc ?_ _)); refine blk_put (cs := #[.int .i64 a0_0, .int .i64 a0_1, .int .i64 a0_2, .int .i64 a0_3, .int .i64 0, .int .i64 0, .int .i64 0, .int .i64 0]) ?_ 4 _ rfl; (with_reducible repeat (first | refine blk_drewN ?_ _ | refine blk_drew ?_ | refine blk_alloc ?_ _)); refine blk_put (cs := #[.int .i64 a0_0, .int .i64 a0_1, .int .i64 a0_2, .int .i64 0, .int .i64 0, .int .i64 0, .int .i64 0, .int .i64 0]) ?_ 3 _ rfl; (with_reducible repeat (first | refine blk_drewN ?_ _ | refine blk_drew ?_ | refine blk_alloc ?_ _)); refine blk_put (cs := #[.int .i64 a0_0, .int .i64 a0_1, .int .i64 0, .int .i64 0, .int .i64 0, .int .i64 0, .int .i64 0, .int .i64 0]) ?_ 2 _ rfl; (with_reducible repeat (first | refine blk_drewN ?_ _ | refine blk_drew ?_ | refine blk_alloc ?_ _)); refine blk_put (cs := #[.int .i64 a0_0, .int .i64 0, .int .i64 0, .int .i64 0, .int .i64 0, .int .i64 0, .int .i64 0, .int .i64 0]) ?_ 1 _ rfl; (with_reducible repeat (first | refine blk_drewN ?_ _ | refine blk_drew ?_ | refine blk_alloc ?_ _)); refine blk_put (cs := #[.int .i64 0, .int .i64 0, .int .i64 0, .int .i64 0, .int .i64 0, .int .i64 0, .int .i64 0, .int .i64 0]) ?_ 0 _ rfl; (with_reducible repeat (first | refine blk_drewN ?_ _ | refine blk_drew ?_ | refine blk_alloc ?_ _)); exact BK105.out) Try.underlying47 rfl (by kernel_rfl)) rfl ?_
    exact ⟨by first | rfl | (simp [errW_none, errW_some] <;> rfl) | (simp [*, errW_none, errW_some] <;> rfl), by repeat (first | (with_reducible first | exact HB.out | apply below_alloc | apply pw_below_drewN | apply below_drew1 | refine below_set ?_ GE104.out | refine below_set ?_ GE105.out) | exact HB.out)⟩
  · have H1 : (some (0, 0, 0, 0, 0, 0, 0, 0, false)) = some (r1, r2, r3, r4, r5, r6, r7, r8, r9) := by rw [if_neg (show ¬ (some q106).isNone = true by simp)] at H; exact H
    clear H
    have H := H1
    clear H1
    simp only [errW_none, errW_some]
    simp only [Option.some.injEq, Prod.mk.injEq] at H
    obtain ⟨rfl, rfl, rfl, rfl, rfl, rfl, rfl, rfl, rfl⟩ := H
    go_enter Try.func54, Try.ntmps54
    go_wp2_with (first | ((with_reducible refine gate_dst (N := 2) rfl ?_); refine box_event ?hg (N := 2) ?hd (cs := #[.int .i64 a0_0, .int .i64 a0_1, .int .i64 a0_2, .int .i64 a0_3, .int .i64 a0_4, .int .i64 a0_5, .int .i64 a0_6, .int .i64 a0_7]) (t := 87) ?hr ?_; (case hd => rfl); (case hg => rfl); (case hr => first | (go_simp; done) | (go_simp; rfl)); intro gb104 hg w8 hbox hb; have n0_ := Aside0.mk (below_step (by repeat (first | (with_reducible first | exact HB.out | apply below_alloc | apply pw_below_drewN | apply below_drew1) | exact HB.out)) hb); have n1_ := Aside0.mk (hbox); have n2_ := Aside0.mk ((by rw [hg]; exact (below_size (by repeat (first | (with_reducible first | exact HB.out | apply below_alloc | apply pw_below_drewN | apply below_drew1) | exact HB.out))) : w.heap.size ≤ gb104)); have n3_ := Aside0.mk ((by rw [hg]; exact (below_size (by repeat (first | (with_reducible first | exact HB.out | apply below_alloc | apply pw_below_drewN | apply below_drew1) | exact HB.out))) : w.heap.size ≤ gb104)); clear HB; have HB := n0_; have BK104 := n1_; have GW104 := n2_; have GE104 := n3_; clear n0_ n1_ n2_ n3_; clear hb hbox hg) | ((with_reducible refine gate_dst (N := 4) rfl ?_); refine box_event ?hg (N := 4) ?hd (cs := #[.int .i64 0, .int .i64 0, .int .i64 0, .int .i64 0, .int .i64 0, .int .i64 0, .int .i64 0, .int .i64 0]) (t := 47) ?hr ?_; (case hd => rfl); (case hg => rfl); (case hr => first | (go_simp; done) | (go_simp; rfl)); intro gb105 hg w9 hbox hb; have n0_ := Aside0.mk (blk_below (g := gb104) (o := .cells #[.int .i64 a0_0, .int .i64 a0_1, .int .i64 a0_2, .int .i64 a0_3, .int .i64 a0_4, .int .i64 a0_5, .int .i64 a0_6, .int .i64 a0_7] 87 (0, 0)) (by (with_reducible repeat (first | refine blk_drewN ?_ _ | refine blk_drew ?_ | refine blk_alloc ?_ _)); exact BK104.out) hb); have n1_ := Aside0.mk (below_step (by repeat (first | (with_reducible first | exact HB.out | apply below_alloc | apply pw_below_drewN | apply below_drew1 | refine below_set ?_ GE104.out) | exact HB.out)) hb); have n2_ := Aside0.mk (hbox); have n3_ := Aside0.mk ((by rw [hg]; exact (below_size (by repeat (first | (with_reducible first | exact HB.out | apply below_alloc | apply pw_below_drewN | apply below_drew1 | refine below_set ?_ GE104.out) | exact HB.out))) : w.heap.size ≤ gb105)); have n4_ := Aside0.mk ((by rw [hg]; exact (below_size (by repeat (first | (with_reducible first | exact HB.out | apply below_alloc | apply pw_below_drewN | apply below_drew1 | refine below_set ?_ GE104.out) | exact HB.out))) : w.heap.size ≤ gb105)); have n5_ := Aside0.mk ((by rw [hg]; exact Nat.ne_of_lt (blk_lt (g := gb104) (o := .cells #[.int .i64 a0_0, .int .i64 a0_1, .int .i64 a0_2, .int .i64 a0_3, .int .i64 a0_4, .int .i64 a0_5, .int .i64 a0_6, .int .i64 a0_7] 87 (0, 0)) (by (with_reducible repeat (first | refine blk_drewN ?_ _ | refine blk_drew ?_ | refine blk_alloc ?_ _)); exact BK104.out)) : gb104 ≠ gb105)); have n6_ := Aside0.mk ((by rw [hg]; exact Nat.ne_of_gt (blk_lt (g := gb104) (o := .cells #[.int .i64 a0_0, .int .i64 a0_1, .int .i64 a0_2, .int .i64 a0_3, .int .i64 a0_4, .int .i64 a0_5, .int .i64 a0_6, .int .i64 a0_7] 87 (0, 0)) (by (with_reducible repeat (first | refine blk_drewN ?_ _ | refine blk_drew ?_ | refine blk_alloc ?_ _)); exact BK104.out)) : gb105 ≠ gb104)); clear BK104; clear HB; have BK104 := n0_; have HB := n1_; have BK105 := n2_; have GW105 := n3_; have GE105 := n4_; have NB104_105 := n5_; have NB105_104 := n6_; clear n0_ n1_ n2_ n3_ n4_ n5_ n6_; clear hb hbox hg; have hnb10 := NB105_104.out; have hnc10 := NB104_105.out; have hcz11_0 : w9.cell? ⟨gb105, 0, none⟩ = some (.int .i64 0) := (blk_cell BK105.out 0).trans rfl; have hcz11_1 : w9.cell? ⟨gb105, 1, none⟩ = some (.int .i64 0) := (blk_cell BK105.out 1).trans rfl; have hcz11_2 : w9.cell? ⟨gb105, 2, none⟩ = some (.int .i64 0) := (blk_cell BK105.out 2).trans rfl; have hcz11_3 : w9.cell? ⟨gb105, 3, none⟩ = some (.int .i64 0) := (blk_cell BK105.out 3).trans rfl; have hcz11_4 : w9.cell? ⟨gb105, 4, none⟩ = some (.int .i64 0) := (blk_cell BK105.out 4).trans rfl; have hcz11_5 : w9.cell? ⟨gb105, 5, none⟩ = some (.int .i64 0) := (blk_cell BK105.out 5).trans rfl; have hcz11_6 : w9.cell? ⟨gb105, 6, none⟩ = some (.int .i64 0) := (blk_cell BK105.out 6).trans rfl; have hcz11_7 : w9.cell? ⟨gb105, 7, none⟩ = some (.int .i64 0) := (blk_cell BK105.out 7).trans rfl; have hfz11_0 := blk_frozen BK105.out 0; have hfz11_1 := blk_frozen BK105.out 1; have hfz11_2 := blk_frozen BK105.out 2; have hfz11_3 := blk_frozen BK105.out 3; have hfz11_4 := blk_frozen BK105.out 4; have hfz11_5 := blk_frozen BK105.out 5; have hfz11_6 := blk_frozen BK105.out 6; have hfz11_7 := blk_frozen BK105.out 7))
    refine bodyPost_ret (results_ct rfl _ _ gb105 47 #[.int .i64 0, .int .i64 0, .int .i64 0, .int .i64 0, .int .i64 0, .int .i64 0, .int .i64 0, .int .i64 0] (0, 0) _ rfl (by (with_reducible repeat (first | refine blk_drewN ?_ _ | refine blk_drew ?_ | refine blk_alloc ?_ _)); refine blk_put (cs := #[.int .i64 0, .int .i64 0, .int .i64 0, .int .i64 0, .int .i64 0, .int .i64 0, .int .i64 0, .int .i64 0]) ?_ 7 _ rfl; (with_reducible repeat (first | refine blk_drewN ?_ _ | refine blk_drew ?_ | refine blk_alloc ?_ _)); refine blk_put (cs := #[.int .i64 0, .int .i64 0, .int .i64 0, .int .i64 0, .int .i64 0, .int .i64 0, .int .i64 0, .int .i64 0]) ?_ 6 _ rfl; (with_reducible repeat (first | refine blk_drewN ?_ _ | refine blk_drew ?_ | refine blk_alloc ?_ _)); refine blk_put (cs := #[.int .i64 0, .int .i64 0, .int .i64 0, .int .i64 0, .int .i64 0, .int .i64 0, .int .i64 0, .int .i64 0]) ?_ 5 _ rfl; (with_reducible repeat (first | refine blk_drewN ?_ _ | refine blk_drew ?_ | refine blk_alloc ?_ _)); refine blk_put (cs := #[.int .i64 0, .int .i64 0, .int .i64 0, .int .i64 0, .int .i64 0, .int .i64 0, .int .i64 0, .int .i64 0]) ?_ 4 _ rfl; (with_reducible repeat (first | refine blk_drewN ?_ _ | refine blk_drew ?_ | refine blk_alloc ?_ _)); refine blk_put (cs := #[.int .i64 0, .int .i64 0, .int .i64 0, .int .i64 0, .int .i64 0, .int .i64 0, .int .i64 0, .int .i64 0]) ?_ 3 _ rfl; (with_reducible repeat (first | refine blk_drewN ?_ _ | refine blk_drew ?_ | refine blk_alloc ?_ _)); refine blk_put (cs := #[.int .i64 0, .int .i64 0, .int .i64 0, .int .i64 0, .int .i64 0, .int .i64 0, .int .i64 0, .int .i64 0]) ?_ 2 _ rfl; (with_reducible repeat (first | refine blk_drewN ?_ _ | refine blk_drew ?_ | refine blk_alloc ?_ _)); refine blk_put (cs := #[.int .i64 0, .int .i64 0, .int .i64 0, .int .i64 0, .int .i64 0, .int .i64 0, .int .i64 0, .int .i64 0]) ?_ 1 _ rfl; (with_reducible repeat (first | refine blk_drewN ?_ _ | refine blk_drew ?_ | refine blk_alloc ?_ _)); refine blk_put (cs := #[.int .i64 0, .int .i64 0, .int .i64 0, .int .i64 0, .int .i64 0, .int .i64 0, .int .i64 0, .int .i64 0]) ?_ 0 _ rfl; (with_reducible repeat (first | refine blk_drewN ?_ _ | refine blk_drew ?_ | refine blk_alloc ?_ _)); exact BK105.out) Try.underlying47 rfl (by kernel_rfl)) rfl ?_
    exact ⟨by first | rfl | (simp [errW_none, errW_some] <;> rfl) | (simp [*, errW_none, errW_some] <;> rfl), by repeat (first | (with_reducible first | exact HB.out | apply below_alloc | apply pw_below_drewN | apply below_drew1 | refine below_set ?_ GE104.out | refine below_set ?_ GE105.out) | exact HB.out)⟩

section
open Go.BigFrame
set_option linter.unusedSimpArgs false
def TBad (w : World) (e : Ending) (w' : World) : Prop := e = .returned (.tuple #[.agg #[.int .i64 0, .int .i64 0, .int .i64 0, .int .i64 0, .int .i64 0, .int .i64 0, .int .i64 0, .int .i64 0], .bool false]) ∧ Below w.heap.size w w'
def TGood (w : World) (y mo d h mi s na a : Int) (e : Ending) (w' : World) : Prop := e = .returned (.tuple #[.agg #[.int .i64 y, .int .i64 mo, .int .i64 d, .int .i64 h, .int .i64 mi, .int .i64 s, .int .i64 na, .int .i64 a], .bool true]) ∧ Below w.heap.size w w'
set_option maxHeartbeats 8000000 in
set_option maxRecDepth 100000 in
theorem told_good (y mo d h mi s na a : Int)  (w : World) : Calls Try.prog 54 #[.agg #[.int .i64 y, .int .i64 mo, .int .i64 d, .int .i64 h, .int .i64 mi, .int .i64 s, .int .i64 na, .int .i64 a], .nilIface] w (TGood w y mo d h mi s na a) := by
  have hu72 := Try.underlying72
  have HB0 := Aside0.mk (Below.refl w.heap.size w)
  go_enter Try.func54, Try.ntmps54
  go_wp2_with (first
    | ((with_reducible refine gate_dst (N := 2) rfl ?_); refine box_event ?hg (N := 2) ?hd (cs := #[.int .i64 y, .int .i64 mo, .int .i64 d, .int .i64 h, .int .i64 mi, .int .i64 s, .int .i64 na, .int .i64 a]) (t := 87) ?hr ?_; (case hd => rfl); (case hg => rfl); (case hr => first | (go_simp; done) | (go_simp; rfl)); intro g1 hg w1 hbox hb; have BB1 := Aside0.mk hbox; have HB1 := Aside0.mk (below_step HB0.out hb); clear hbox hb hg)
    | ((with_reducible refine gate_dst (N := 4) rfl ?_); refine box_event ?hg (N := 4) ?hd (cs := #[.int .i64 0, .int .i64 0, .int .i64 0, .int .i64 0, .int .i64 0, .int .i64 0, .int .i64 0, .int .i64 0]) (t := 47) ?hr ?_; (case hd => rfl); (case hg => rfl); (case hr => first | (go_simp; done) | (go_simp; rfl)); intro g2 hg w2 hbox hb; have BB2 := Aside0.mk (blk_below BB1.out hb); have HB2 := Aside0.mk (below_step HB1.out hb); have BR2 := Aside0.mk hbox; have GR := Aside0.mk (show w.heap.size ≤ g2 by rw [hg]; exact below_size HB1.out); have cr0 := (blk_cell BR2.out 0).trans (show _ = some (.int .i64 0) from rfl); have crf0 := blk_frozen BR2.out 0; have cr1 := (blk_cell BR2.out 1).trans (show _ = some (.int .i64 0) from rfl); have crf1 := blk_frozen BR2.out 1; have cr2 := (blk_cell BR2.out 2).trans (show _ = some (.int .i64 0) from rfl); have crf2 := blk_frozen BR2.out 2; have cr3 := (blk_cell BR2.out 3).trans (show _ = some (.int .i64 0) from rfl); have crf3 := blk_frozen BR2.out 3; have cr4 := (blk_cell BR2.out 4).trans (show _ = some (.int .i64 0) from rfl); have crf4 := blk_frozen BR2.out 4; have cr5 := (blk_cell BR2.out 5).trans (show _ = some (.int .i64 0) from rfl); have crf5 := blk_frozen BR2.out 5; have cr6 := (blk_cell BR2.out 6).trans (show _ = some (.int .i64 0) from rfl); have crf6 := blk_frozen BR2.out 6; have cr7 := (blk_cell BR2.out 7).trans (show _ = some (.int .i64 0) from rfl); have crf7 := blk_frozen BR2.out 7; have ct0 := (blk_cell BB2.out 0).trans (show _ = some (.int .i64 y) from rfl); have ctf0 := blk_frozen BB2.out 0; have ct1 := (blk_cell BB2.out 1).trans (show _ = some (.int .i64 mo) from rfl); have ctf1 := blk_frozen BB2.out 1; have ct2 := (blk_cell BB2.out 2).trans (show _ = some (.int .i64 d) from rfl); have ctf2 := blk_frozen BB2.out 2; have ct3 := (blk_cell BB2.out 3).trans (show _ = some (.int .i64 h) from rfl); have ctf3 := blk_frozen BB2.out 3; have ct4 := (blk_cell BB2.out 4).trans (show _ = some (.int .i64 mi) from rfl); have ctf4 := blk_frozen BB2.out 4; have ct5 := (blk_cell BB2.out 5).trans (show _ = some (.int .i64 s) from rfl); have ctf5 := blk_frozen BB2.out 5; have ct6 := (blk_cell BB2.out 6).trans (show _ = some (.int .i64 na) from rfl); have ctf6 := blk_frozen BB2.out 6; have ct7 := (blk_cell BB2.out 7).trans (show _ = some (.int .i64 a) from rfl); have ctf7 := blk_frozen BB2.out 7; clear hbox hb hg)
    | ((with_reducible refine gate_store (t := 47) (p := 4) rfl ?_); refine store_event (t := 47) (p := 4) (v := ?vo4) (w1 := put8 w2 g2 (.int .i64 y) (.int .i64 mo) (.int .i64 d) (.int .i64 h) (.int .i64 mi) (.int .i64 s) (.int .i64 na) (.int .i64 a)) ?hg ?ho ?hn ?hr ?_; (case ho => rfl); (case hg => rfl); (case hn => rfl); (case hr => first | (go_simp; done) | (go_simp; rfl)); intro w9 hw; have BX := Aside0.mk (show w9.heap[g2]? = some (.cells #[.int .i64 y, .int .i64 mo, .int .i64 d, .int .i64 h, .int .i64 mi, .int .i64 s, .int .i64 na, .int .i64 a] 47 (0, 0)) from by rw [hw]; exact put8_blk BR2.out (.int .i64 y) (.int .i64 mo) (.int .i64 d) (.int .i64 h) (.int .i64 mi) (.int .i64 s) (.int .i64 na) (.int .i64 a)); have HX := Aside0.mk (show Below w.heap.size w w9 from by rw [hw]; exact HB2.out.grown (put8_grown w2 g2 (.int .i64 y) (.int .i64 mo) (.int .i64 d) (.int .i64 h) (.int .i64 mi) (.int .i64 s) (.int .i64 na) (.int .i64 a)) (below_size HB2.out) (fun q hq => by cases hq; exact GR.out)); clear hw))
  refine bodyPost_ret (results_ct rfl _ _ g2 47 #[.int .i64 y, .int .i64 mo, .int .i64 d, .int .i64 h, .int .i64 mi, .int .i64 s, .int .i64 na, .int .i64 a] (0, 0) _ rfl BX.out Try.underlying47 rfl (by kernel_rfl)) rfl ?_
  exact ⟨rfl, HX.out⟩
set_option maxHeartbeats 8000000 in
set_option maxRecDepth 100000 in
theorem told_bad (y mo d h mi s na a : Int) (T : TypeId) (x : Value) (w : World) : Calls Try.prog 54 #[.agg #[.int .i64 y, .int .i64 mo, .int .i64 d, .int .i64 h, .int .i64 mi, .int .i64 s, .int .i64 na, .int .i64 a], .iface T x] w (TBad w) := by
  have hu72 := Try.underlying72
  have HB0 := Aside0.mk (Below.refl w.heap.size w)
  go_enter Try.func54, Try.ntmps54
  go_wp2_with (first
    | ((with_reducible refine gate_dst (N := 2) rfl ?_); refine box_event ?hg (N := 2) ?hd (cs := #[.int .i64 y, .int .i64 mo, .int .i64 d, .int .i64 h, .int .i64 mi, .int .i64 s, .int .i64 na, .int .i64 a]) (t := 87) ?hr ?_; (case hd => rfl); (case hg => rfl); (case hr => first | (go_simp; done) | (go_simp; rfl)); intro g1 hg w1 hbox hb; have BB1 := Aside0.mk hbox; have HB1 := Aside0.mk (below_step HB0.out hb); clear hbox hb hg)
    | ((with_reducible refine gate_dst (N := 4) rfl ?_); refine box_event ?hg (N := 4) ?hd (cs := #[.int .i64 0, .int .i64 0, .int .i64 0, .int .i64 0, .int .i64 0, .int .i64 0, .int .i64 0, .int .i64 0]) (t := 47) ?hr ?_; (case hd => rfl); (case hg => rfl); (case hr => first | (go_simp; done) | (go_simp; rfl)); intro g2 hg w2 hbox hb; have BB2 := Aside0.mk (blk_below BB1.out hb); have HB2 := Aside0.mk (below_step HB1.out hb); have BR2 := Aside0.mk hbox; have GR := Aside0.mk (show w.heap.size ≤ g2 by rw [hg]; exact below_size HB1.out); have cr0 := (blk_cell BR2.out 0).trans (show _ = some (.int .i64 0) from rfl); have crf0 := blk_frozen BR2.out 0; have cr1 := (blk_cell BR2.out 1).trans (show _ = some (.int .i64 0) from rfl); have crf1 := blk_frozen BR2.out 1; have cr2 := (blk_cell BR2.out 2).trans (show _ = some (.int .i64 0) from rfl); have crf2 := blk_frozen BR2.out 2; have cr3 := (blk_cell BR2.out 3).trans (show _ = some (.int .i64 0) from rfl); have crf3 := blk_frozen BR2.out 3; have cr4 := (blk_cell BR2.out 4).trans (show _ = some (.int .i64 0) from rfl); have crf4 := blk_frozen BR2.out 4; have cr5 := (blk_cell BR2.out 5).trans (show _ = some (.int .i64 0) from rfl); have crf5 := blk_frozen BR2.out 5; have cr6 := (blk_cell BR2.out 6).trans (show _ = some (.int .i64 0) from rfl); have crf6 := blk_frozen BR2.out 6; have cr7 := (blk_cell BR2.out 7).trans (show _ = some (.int .i64 0) from rfl); have crf7 := blk_frozen BR2.out 7; have ct0 := (blk_cell BB2.out 0).trans (show _ = some (.int .i64 y) from rfl); have ctf0 := blk_frozen BB2.out 0; have ct1 := (blk_cell BB2.out 1).trans (show _ = some (.int .i64 mo) from rfl); have ctf1 := blk_frozen BB2.out 1; have ct2 := (blk_cell BB2.out 2).trans (show _ = some (.int .i64 d) from rfl); have ctf2 := blk_frozen BB2.out 2; have ct3 := (blk_cell BB2.out 3).trans (show _ = some (.int .i64 h) from rfl); have ctf3 := blk_frozen BB2.out 3; have ct4 := (blk_cell BB2.out 4).trans (show _ = some (.int .i64 mi) from rfl); have ctf4 := blk_frozen BB2.out 4; have ct5 := (blk_cell BB2.out 5).trans (show _ = some (.int .i64 s) from rfl); have ctf5 := blk_frozen BB2.out 5; have ct6 := (blk_cell BB2.out 6).trans (show _ = some (.int .i64 na) from rfl); have ctf6 := blk_frozen BB2.out 6; have ct7 := (blk_cell BB2.out 7).trans (show _ = some (.int .i64 a) from rfl); have ctf7 := blk_frozen BB2.out 7; clear hbox hb hg)
    | ((with_reducible refine gate_store (t := 47) (p := 4) rfl ?_); refine store_event (t := 47) (p := 4) (v := ?vo4) (w1 := put8 w2 g2 (.int .i64 0) (.int .i64 0) (.int .i64 0) (.int .i64 0) (.int .i64 0) (.int .i64 0) (.int .i64 0) (.int .i64 0)) ?hg ?ho ?hn ?hr ?_; (case ho => rfl); (case hg => rfl); (case hn => rfl); (case hr => first | (go_simp; done) | (go_simp; rfl)); intro w9 hw; have BX := Aside0.mk (show w9.heap[g2]? = some (.cells #[.int .i64 0, .int .i64 0, .int .i64 0, .int .i64 0, .int .i64 0, .int .i64 0, .int .i64 0, .int .i64 0] 47 (0, 0)) from by rw [hw]; exact put8_blk BR2.out (.int .i64 0) (.int .i64 0) (.int .i64 0) (.int .i64 0) (.int .i64 0) (.int .i64 0) (.int .i64 0) (.int .i64 0)); have HX := Aside0.mk (show Below w.heap.size w w9 from by rw [hw]; exact HB2.out.grown (put8_grown w2 g2 (.int .i64 0) (.int .i64 0) (.int .i64 0) (.int .i64 0) (.int .i64 0) (.int .i64 0) (.int .i64 0) (.int .i64 0)) (below_size HB2.out) (fun q hq => by cases hq; exact GR.out)); clear hw))
  refine bodyPost_ret (results_ct rfl _ _ g2 47 #[.int .i64 0, .int .i64 0, .int .i64 0, .int .i64 0, .int .i64 0, .int .i64 0, .int .i64 0, .int .i64 0] (0, 0) _ rfl BX.out Try.underlying47 rfl (by kernel_rfl)) rfl ?_
  exact ⟨rfl, HX.out⟩
end

section
open Go.BigFrame
set_option linter.unusedSimpArgs false
def NewErr (w : World) (e : Ending) (w' : World) : Prop := ∃ T x, e = .returned (.iface T x) ∧ Below w.heap.size w w'
set_option maxHeartbeats 1000000 in
theorem errors_New_any (s : ByteArray) (w : World) : Calls Try.prog 97 #[.string s] w (NewErr w) := by
  have hu := Try.underlying151
  go_enter Try.func97, Try.ntmps97
  go_wp2
  go_ret
  exact ⟨_, _, rfl, (Below.refl _ _).alloc (Nat.le_refl _) _⟩
def PBad (w : World) (e : Ending) (w' : World) : Prop := ∃ T x, e = .returned (.tuple #[.agg #[.int .i64 0, .int .i64 0, .int .i64 0, .int .i64 0, .int .i64 0, .int .i64 0, .int .i64 0, .int .i64 0], .iface T x]) ∧ Below w.heap.size w w'
def PGood (w : World) (y mo d h mi s na a : Int) (e : Ending) (w' : World) : Prop := e = .returned (.tuple #[.agg #[.int .i64 y, .int .i64 mo, .int .i64 d, .int .i64 h, .int .i64 mi, .int .i64 s, .int .i64 na, .int .i64 a], .nilIface]) ∧ Below w.heap.size w w'
end

end Go.Proofs.Ytmiemfgcggkbnaa.QU
