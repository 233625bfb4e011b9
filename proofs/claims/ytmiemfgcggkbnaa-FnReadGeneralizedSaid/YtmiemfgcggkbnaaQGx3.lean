-- Written by a program of this work (wip/patch_print.py) for this claim.
import Derived.Test.YtmiemfgcggkbnaaQGx0
import Derived.Test.YtmiemfgcggkbnaaQGx1
import Derived.Test.YtmiemfgcggkbnaaQGx2
namespace Go.Proofs.Ytmiemfgcggkbnaa.QG
open Go.RowKit Go.Proofs.YtmiemfgcggkbnaaW.PrintWords Go.Proofs.YtmiemfgcggkbnaaW.PrintLast Go.Proofs.YtmiemfgcggkbnaaW.PrintMore
attribute [local go_sem] max2_int min2_int max_two min_two max_three min_three max_four min_four   -- for this text's walks alone
set_option linter.unusedVariables false
set_option linter.unusedSimpArgs false

section
open Go.BigFrame
set_option linter.unusedSimpArgs false
def UtcTo (w : World) (y mo d h mi s na a : Int) (ok t : Bool) (e : Ending) (w' : World) : Prop := e = .returned (.tuple #[.agg #[.int .i64 y, .int .i64 mo, .int .i64 d, .int .i64 h, .int .i64 mi, .int .i64 s, .int .i64 na, .int .i64 a], .bool ok, .bool t]) ∧ Below w.heap.size w w'
def dig0 (l : List Int) : Bool := decide (0 < l.length) && decide (48 ≤ rd l 0) && decide (rd l 0 ≤ 57)
def yearI (v : Int) : Int := if v + 1900 < 1950 then v + 2000 else v + 1900
theorem figures_4 (g : Nat) (ok : Bool) (l : List Int) (w0 w : World) (hby : bytesIn l) (hg : w0.heap.size ≤ g) (hs : Scan w0 w g l ok) (hB : Below w0.heap.size w0 w) :
    Calls Try.prog 51 #[.pointer (some ⟨g, 0, none⟩), .int .i64 4] w (ScanTo w0 w g (figL 4 l) (ok && figO 4 l) (.int .i64 (figN 4 l))) := figures_any g 4 ok l w0 w (by omega) hby hg hs hB
theorem figures4_SB (g : Nat) (ok : Bool) (l : List Int) (bs : List (Nat × Obj)) (w0 w : World) (hby : bytesIn l) (h : SB w0 w g l ok bs) :
    Calls Try.prog 51 #[.pointer (some ⟨g, 0, none⟩), .int .i64 4] w (SBTo w0 g (figL 4 l) (ok && figO 4 l) bs (.int .i64 (figN 4 l))) :=
  (figures_4 g ok l w0 w hby h.2.2.1 h.1 h.2.1).mono fun _ _ ⟨he, hs, hb, hg⟩ => ⟨he, h.step hs hb hg⟩
theorem figures_1 (g : Nat) (ok : Bool) (l : List Int) (w0 w : World) (hby : bytesIn l) (hg : w0.heap.size ≤ g) (hs : Scan w0 w g l ok) (hB : Below w0.heap.size w0 w) :
    Calls Try.prog 51 #[.pointer (some ⟨g, 0, none⟩), .int .i64 1] w (ScanTo w0 w g (figL 1 l) (ok && figO 1 l) (.int .i64 (figN 1 l))) := figures_any g 1 ok l w0 w (by omega) hby hg hs hB
theorem fig1_dig {l : List Int} (h : dig0 l = true) : figL 1 l = l.drop 1 ∧ figO 1 l = true ∧ figN 1 l = rd l 0 - 48 ∧ 0 ≤ rd l 0 - 48 ∧ rd l 0 - 48 ≤ 9 := by
  simp only [dig0, Bool.and_eq_true, decide_eq_true_eq] at h
  match l, h with
  | x :: r, h =>
    have e : rd (x :: r) 0 = x := rfl
    rw [e] at h ⊢
    have hl : ¬ (x :: r).length < 1 := by simp
    refine ⟨by unfold figL; rw [if_neg hl], ?_, ?_, by omega, by omega⟩
    · unfold figO
      rw [if_neg hl]
      simp [figD, h.1.2, h.2]
    · unfold figN
      rw [if_neg hl]
      simp [figV]
theorem figure1_SB (g : Nat) (ok : Bool) (l : List Int) (bs : List (Nat × Obj)) (w0 w : World) (hd : dig0 l = true) (hby : bytesIn l) (h : SB w0 w g l ok bs) :
    Calls Try.prog 51 #[.pointer (some ⟨g, 0, none⟩), .int .i64 1] w (SBTo w0 g (l.drop 1) ok bs (.int .i64 (rd l 0 - 48))) :=
  (figures_1 g ok l w0 w hby h.2.2.1 h.1 h.2.1).mono fun _ _ ⟨he, hs, hb, hg⟩ => by
    obtain ⟨a, b, c, -, -⟩ := fig1_dig hd
    rw [a, b, Bool.and_true] at hs
    rw [c] at he
    exact ⟨he, h.step hs hb hg⟩
theorem next_SB (g : Nat) (x : Int) (ok : Bool) (l : List Int) (bs : List (Nat × Obj)) (w0 w : World) (h : SB w0 w g l ok bs) :
    Calls Try.prog 56 #[.pointer (some ⟨g, 0, none⟩), .int .u8 x] w (SBTo w0 g (if nextB x l = true then l.drop 1 else l) ok bs (.bool (nextB x l))) := by
  cases hx : nextB x l with
  | true => exact (next_any_yes g x ok l w0 w hx h.2.2.1 h.1 h.2.1).mono fun _ _ ⟨he, hs, hb, hg⟩ => ⟨he, h.step hs hb hg⟩
  | false => exact (next_any_no g x ok l w0 w hx h.1 h.2.1).mono fun _ _ ⟨he, hs, hb, hg⟩ => ⟨he, h.step hs hb hg⟩
theorem SB.setOk {w0 w : World} {g : Nat} {l : List Int} {ok : Bool} {bs : List (Nat × Obj)} (h : SB w0 w g l ok bs) (b b' : Bool) (e : b' = b) : SB w0 (w.setCell ⟨g, 1, none⟩ (.bool b)) g l b' bs :=
  h.step (Scan_ok' h.1 b b' e) (below_set h.2.1 h.2.2.1) (grown_set _ _ _ _)
/-- How many figures stand at the front: at most k are counted. -/
def gN : Nat → List Int → Nat
  | 0, _ => 0
  | k + 1, l => if dig0 l = true then gN k (l.drop 1) + 1 else 0
theorem gN_le : ∀ (k : Nat) (l : List Int), gN k l ≤ k
  | 0, _ => Nat.le_refl _
  | k + 1, l => by
    unfold gN
    split
    · have := gN_le k (l.drop 1); omega
    · omega
theorem gN_len : ∀ (k : Nat) (l : List Int), gN k l ≤ l.length
  | 0, _ => Nat.zero_le _
  | k + 1, l => by
    unfold gN
    split
    · rename_i h
      have := gN_len k (l.drop 1)
      simp only [dig0, Bool.and_eq_true, decide_eq_true_eq] at h
      rw [List.length_drop] at this
      omega
    · omega
theorem gN_dig : ∀ (k : Nat) (l : List Int) (j : Nat), j < gN k l → 48 ≤ rd l (j : Int) ∧ rd l (j : Int) ≤ 57
  | 0, _, j, h => absurd h (Nat.not_lt_zero _)
  | k + 1, l, j, h => by
    unfold gN at h
    by_cases hd : dig0 l = true
    · rw [if_pos hd] at h
      cases j with
      | zero =>
        simp only [dig0, Bool.and_eq_true, decide_eq_true_eq] at hd
        exact ⟨hd.1.2, hd.2⟩
      | succ j =>
        have := gN_dig k (l.drop 1) j (by omega)
        have e : rd (l.drop 1) (j : Int) = rd l ((j + 1 : Nat) : Int) := by
          unfold rd
          rw [Int.toNat_natCast, Int.toNat_natCast, List.getD_eq_getElem?_getD, List.getD_eq_getElem?_getD, List.getElem?_drop, Nat.add_comm]
        rw [← e]
        exact this
    · rw [if_neg hd] at h
      omega
/-- The last of n figures. -/
def lastI (l : List Int) (n : Nat) : Int := if n = 0 then 0 else rd l ((n - 1 : Nat) : Int) - 48
theorem figV_dig {l : List Int} {m : Nat} (h : ∀ j : Nat, j < m → 48 ≤ rd l (j : Int) ∧ rd l (j : Int) ≤ 57) : ∀ k, k ≤ m → k ≤ l.length → 0 ≤ figV (l.take k) ∧ figV (l.take k) ≤ 10 ^ k - 1
  | 0, _, _ => by simp [figV]
  | k + 1, hm, hk => by
    have ih := figV_dig h k (by omega) (by omega)
    have hx := h k (by omega)
    rw [rd_take l k (by omega), figV_snoc, Int.pow_succ]
    omega
theorem figV_ten {l : List Int} {k : Nat} (h : 0 ≤ figV (l.take k) ∧ figV (l.take k) ≤ 10 ^ k - 1) (hk : k ≤ 10) : 0 ≤ figV (l.take k) ∧ figV (l.take k) ≤ 10000000000 := by
  have : (10 : Int) ^ k ≤ 10000000000 := by
    rcases (by omega : k = 0 ∨ k = 1 ∨ k = 2 ∨ k = 3 ∨ k = 4 ∨ k = 5 ∨ k = 6 ∨ k = 7 ∨ k = 8 ∨ k = 9 ∨ k = 10) with rfl | rfl | rfl | rfl | rfl | rfl | rfl | rfl | rfl | rfl | rfl <;> decide
  omega
set_option maxHeartbeats 8000000 in
set_option maxRecDepth 100000 in
theorem Gen_core (A0 : Option Addr) (c0 : Nat) (l l1 l2 l3 l4 l5 l6 l7 l8 l9 : List Int) (o1 o2 o3 o4 o5 o6 o8 o9 t : Bool) (v1 v2 v3 v4 v5 v6 na z : Int) (n : Nat) (w : World) (hr0 : Kd.C (Kd.int .u8) w A0 l.length l) (hc0 : l.length ≤ c0) (hby : bytesIn l) (e0 : v1 = figN 4 l) (f0 : l1 = figL 4 l) (h0 : o1 = (true && figO 4 l)) (e1 : v2 = figN 2 l1) (f1 : l2 = figL 2 l1) (h1 : o2 = (o1 && figO 2 l1)) (e2 : v3 = figN 2 l2) (f2 : l3 = figL 2 l2) (h2 : o3 = (o2 && figO 2 l2)) (e3 : v4 = figN 2 l3) (f3 : l4 = figL 2 l3) (h3 : o4 = (o3 && figO 2 l3)) (e4 : v5 = figN 2 l4) (f4 : l5 = figL 2 l4) (h4 : o5 = (o4 && figO 2 l4)) (e5 : v6 = figN 2 l5) (f5 : l6 = figL 2 l5) (h5 : o6 = (o5 && figO 2 l5)) (ed : nextB 46 l6 = true → l7 = l6.drop 1 ∧ n = gN 10 l7 ∧ l8 = l7.drop n ∧ o8 = (o6 && decide (0 < n) && decide (n < 10) && decide (0 < lastI l7 n)) ∧ na = figV (l7.take n) * 10 ^ (9 - n)) (en : nextB 46 l6 = false → l8 = l6 ∧ o8 = o6 ∧ na = 0) (ez : z = zoneV l8) (et : t = zoneT l8) (el : l9 = zoneL l8) (eo : o9 = zoneO o8 l8) :
    Calls Try.prog 28 #[.slice A0 l.length c0] w (UtcTo w v1 v2 v3 v4 v5 v6 na z (o9 && l9.isEmpty && rightB v1 v2 v3 v4 v5 v6 na 0) t) := by
  have HY0 := Aside0.mk hby
  have HY1 := Aside0.mk (show bytesIn l1 from by rw [f0]; exact bytesIn_figL HY0.out 4)
  have HY2 := Aside0.mk (show bytesIn l2 from by rw [f1]; exact bytesIn_figL HY1.out 2)
  have HY3 := Aside0.mk (show bytesIn l3 from by rw [f2]; exact bytesIn_figL HY2.out 2)
  have HY4 := Aside0.mk (show bytesIn l4 from by rw [f3]; exact bytesIn_figL HY3.out 2)
  have HY5 := Aside0.mk (show bytesIn l5 from by rw [f4]; exact bytesIn_figL HY4.out 2)
  have HY6 := Aside0.mk (show bytesIn l6 from by rw [f5]; exact bytesIn_figL HY5.out 2)
  have HY8 := Aside0.mk (show bytesIn l8 from by
    cases hd : nextB 46 l6 with
    | true => rw [(ed hd).2.2.1, (ed hd).1]; exact bytesIn_drop (bytesIn_drop HY6.out _) _
    | false => rw [(en hd).1]; exact HY6.out)
  have E0' := Aside0.mk e0
  have F0' := Aside0.mk f0
  have H0' := Aside0.mk h0
  have E1' := Aside0.mk e1
  have F1' := Aside0.mk f1
  have H1' := Aside0.mk h1
  have E2' := Aside0.mk e2
  have F2' := Aside0.mk f2
  have H2' := Aside0.mk h2
  have E3' := Aside0.mk e3
  have F3' := Aside0.mk f3
  have H3' := Aside0.mk h3
  have E4' := Aside0.mk e4
  have F4' := Aside0.mk f4
  have H4' := Aside0.mk h4
  have E5' := Aside0.mk e5
  have F5' := Aside0.mk f5
  have H5' := Aside0.mk h5
  have ED' := Aside0.mk ed
  have EN' := Aside0.mk en
  have EZ' := Aside0.mk ez
  have ET' := Aside0.mk et
  have EL' := Aside0.mk el
  have EO' := Aside0.mk eo
  have HR0 := Aside0.mk hr0
  have HC0 := Aside0.mk hc0
  have HB0 := Aside0.mk (Below.refl w.heap.size w)
  clear e0 f0 h0 e1 f1 h1 e2 f2 h2 e3 f3 h3 e4 f4 h4 e5 f5 h5 ed en ez et el eo hr0 hc0 hby
  go_enter Try.func28, Try.ntmps28
  go_upto_if 29 with (first
    | ((with_reducible refine gate_dst (N := 2) rfl ?_); refine box_event ?hg (N := 2) ?hd (cs := #[.int .i64 0, .int .i64 0, .int .i64 0, .int .i64 0, .int .i64 0, .int .i64 0, .int .i64 0, .int .i64 0]) (t := 44) ?hr ?_; (case hd => rfl); (case hg => rfl); (case hr => first | (go_simp; done) | (go_simp; rfl)); intro g2 hg w1 hbox hb; have BR := Aside0.mk hbox; have HB1 := Aside0.mk (below_step HB0.out hb); have GR := Aside0.mk (show w.heap.size ≤ g2 by rw [hg]; exact Nat.le_refl _); clear hbox hb hg)
    | ((with_reducible refine gate_dst (N := 14) rfl ?_); refine box_event ?hg (N := 14) ?hd (cs := #[.slice A0 l.length c0, .bool true]) (t := 81) ?hr ?_; (case hd => rfl); (case hg => rfl); (case hr => first | (go_simp; done) | (go_simp; rfl)); intro g12 hg w2 hbox hb; have S0 := Aside0.mk (SB.start HR0.out HC0.out HB1.out BR.out GR.out hg hbox hb); clear hbox hb hg)
    | (go_at_call 51; (with_reducible refine (figures_SB g12 _ _ _ w u5 HY5.out S5.out).mono ?_); rw [← E5'.out, ← F5'.out, ← H5'.out]; rintro e u6 ⟨rfl, hsb⟩; have S6 := Aside0.mk hsb; clear hsb)
    | (go_at_call 51; (with_reducible refine (figures_SB g12 _ _ _ w u4 HY4.out S4.out).mono ?_); rw [← E4'.out, ← F4'.out, ← H4'.out]; rintro e u5 ⟨rfl, hsb⟩; have S5 := Aside0.mk hsb; clear hsb)
    | (go_at_call 51; (with_reducible refine (figures_SB g12 _ _ _ w u3 HY3.out S3.out).mono ?_); rw [← E3'.out, ← F3'.out, ← H3'.out]; rintro e u4 ⟨rfl, hsb⟩; have S4 := Aside0.mk hsb; clear hsb)
    | (go_at_call 51; (with_reducible refine (figures_SB g12 _ _ _ w u2 HY2.out S2.out).mono ?_); rw [← E2'.out, ← F2'.out, ← H2'.out]; rintro e u3 ⟨rfl, hsb⟩; have S3 := Aside0.mk hsb; clear hsb)
    | (go_at_call 51; (with_reducible refine (figures_SB g12 _ _ _ w u1 HY1.out S1.out).mono ?_); rw [← E1'.out, ← F1'.out, ← H1'.out]; rintro e u2 ⟨rfl, hsb⟩; have S2 := Aside0.mk hsb; clear hsb)
    | (go_at_call 51; (with_reducible refine (figures4_SB g12 _ _ _ w w2 HY0.out S0.out).mono ?_); rw [← E0'.out, ← F0'.out, ← H0'.out]; rintro e u1 ⟨rfl, hsb⟩; have S1 := Aside0.mk hsb; clear hsb)
    | ((with_reducible refine gate_dst (N := 6) rfl ?_); refine box_event ?hg (N := 6) ?hd (cs := #[.int .i64 0, .int .i64 0, .int .i64 0, .int .i64 0, .int .i64 0, .int .i64 0, .int .i64 0, .int .i64 0]) (t := 44) ?hr ?_; (case hd => rfl); (case hg => rfl); (case hr => first | (go_simp; done) | (go_simp; rfl)); intro g6 hg w6 hbox hb; have SA := Aside0.mk (SB.alloc S6.out hg hbox hb); have ct0 := (blk_cell SA.out.head 0).trans (show _ = some (.int .i64 0) from rfl); have ctf0 := blk_frozen SA.out.head 0; have ct1 := (blk_cell SA.out.head 1).trans (show _ = some (.int .i64 0) from rfl); have ctf1 := blk_frozen SA.out.head 1; have ct2 := (blk_cell SA.out.head 2).trans (show _ = some (.int .i64 0) from rfl); have ctf2 := blk_frozen SA.out.head 2; have ct3 := (blk_cell SA.out.head 3).trans (show _ = some (.int .i64 0) from rfl); have ctf3 := blk_frozen SA.out.head 3; have ct4 := (blk_cell SA.out.head 4).trans (show _ = some (.int .i64 0) from rfl); have ctf4 := blk_frozen SA.out.head 4; have ct5 := (blk_cell SA.out.head 5).trans (show _ = some (.int .i64 0) from rfl); have ctf5 := blk_frozen SA.out.head 5; have ct6 := (blk_cell SA.out.head 6).trans (show _ = some (.int .i64 0) from rfl); have ctf6 := blk_frozen SA.out.head 6; have ct7 := (blk_cell SA.out.head 7).trans (show _ = some (.int .i64 0) from rfl); have ctf7 := blk_frozen SA.out.head 7; clear hbox hb hg)
    | ((with_reducible refine gate_store (t := 44) (p := 6) rfl ?_); refine store_event (t := 44) (p := 6) (v := ?vo6) (w1 := put8 w6 g6 (.int .i64 v1) (.int .i64 v2) (.int .i64 v3) (.int .i64 v4) (.int .i64 v5) (.int .i64 v6) (.int .i64 0) (.int .i64 0)) ?hg ?ho ?hn ?hr ?_; (case ho => rfl); (case hg => rfl); (case hn => rfl); (case hr => first | (go_simp; done) | (go_simp; rfl)); intro w7 hw; have S7 := Aside0.mk (SB.put SA.out (put8_blk SA.out.head (.int .i64 v1) (.int .i64 v2) (.int .i64 v3) (.int .i64 v4) (.int .i64 v5) (.int .i64 v6) (.int .i64 0) (.int .i64 0)) (put8_grown w6 g6 (.int .i64 v1) (.int .i64 v2) (.int .i64 v3) (.int .i64 v4) (.int .i64 v5) (.int .i64 v6) (.int .i64 0) (.int .i64 0))); rw [← hw] at S7; clear ct0 ctf0 ct1 ctf1 ct2 ctf2 ct3 ctf3 ct4 ctf4 ct5 ctf5 ct6 ctf6 ct7 ctf7; clear hw)
    | (go_at_call 56; (with_reducible refine (next_SB g12 46 _ _ _ w w7 S7.out).mono ?_); rintro e w8 ⟨rfl, hsb⟩; have S8 := Aside0.mk hsb; clear hsb))
  (try simp only [Act.put, List.setIfInBounds_toArray, List.set_cons_zero, List.set_cons_succ])
  clear BR HB1 S0 S1 S2 S3 S4 S5 S6 SA S7 HR0 HC0 HB0 E0' F0' H0' E1' F1' H1' E2' F2' H2' E3' F3' H3' E4' F4' H4' E5' F5' H5'
  go_cut [] (fun wc => Aside0 (SB w wc g12 l8 o8 ((g6, tm v1 v2 v3 v4 v5 v6 na 0) :: [(g2, tm 0 0 0 0 0 0 0 0)])))
  case first =>
    cases hd : nextB 46 l6 with
    | false =>
      have HD := Aside0.mk (EN'.out hd)
      have S9 := Aside0.mk (show SB w w8 g12 l6 o6 _ from by have := S8.out; rw [hd, if_neg (by decide)] at this; exact this)
      clear ED' EN' hd S8
      go_wp2
      go_meet
      case rel => exact ⟨by rw [HD.out.1, HD.out.2.1, HD.out.2.2]; exact S9.out⟩
    | true =>
      obtain ⟨e7, em, e8, e9, e10⟩ := ED'.out hd
      have E7 := Aside0.mk e7
      have EM := Aside0.mk em
      have E8 := Aside0.mk e8
      have E9 := Aside0.mk e9
      have E10 := Aside0.mk e10
      have S9 := Aside0.mk (show SB w w8 g12 l7 o6 _ from by have := S8.out; rw [hd, if_pos rfl, ← e7] at this; exact this)
      have HY7 := Aside0.mk (show bytesIn l7 from by rw [e7]; exact bytesIn_drop HY6.out _)
      have GL := Aside0.mk (show gN 10 l7 ≤ 10 ∧ gN 10 l7 ≤ l7.length from ⟨gN_le _ _, gN_len _ _⟩)
      have hn10 : n ≤ 10 := by rw [em]; exact gN_le _ _
      clear ED' EN' hd S8 e7 em e8 e9 e10
      go_upto_block 0 with (fail)
      (try simp only [Act.put, List.setIfInBounds_toArray, List.set_cons_zero, List.set_cons_succ])
      go_cut [7, 8] (fun v7 v8 wc => v7 = .int .i64 (n : Int) ∧ v8 = .int .i64 (lastI l7 n) ∧ Aside0 (SB w wc g12 (l7.drop n) o6 ((g6, tm v1 v2 v3 v4 v5 v6 (figV (l7.take n)) 0) :: [(g2, tm 0 0 0 0 0 0 0 0)])))
      case first =>
        go_wp2
        go_loopw [7, 8] (fun v7 v8 wr => ∃ k : Nat, v7 = .int .i64 (k : Int) ∧ v8 = .int .i64 (lastI l7 k) ∧ Aside0 (k ≤ 10 ∧ k + gN (10 - k) (l7.drop k) = n ∧ k ≤ l7.length ∧ (∀ j : Nat, j < k → 48 ≤ rd l7 (j : Int) ∧ rd l7 (j : Int) ≤ 57)) ∧ Aside0 (SB w wr g12 (l7.drop k) o6 ((g6, tm v1 v2 v3 v4 v5 v6 (figV (l7.take k)) 0) :: [(g2, tm 0 0 0 0 0 0 0 0)]))) (fun v7 _ _ => 10 - (intOf v7).toNat)
        case atStart => exact ⟨0, rfl, rfl, ⟨by omega, by rw [EM.out]; simp, by omega, fun j h => absurd h (Nat.not_lt_zero _)⟩, ⟨S9.out⟩⟩
        case round =>
          obtain ⟨k, rfl, rfl, HK, SX⟩ := hrel
          generalize wr = wd at SX ⊢
          have hk10 : k ≤ 10 := HK.out.1
          have hkl : k ≤ l7.length := HK.out.2.2.1
          have bf := figV_ten (figV_dig HK.out.2.2.2 k (Nat.le_refl _) hkl) hk10
          have HYk := Aside0.mk (bytesIn_drop HY7.out k)
          obtain ⟨R, hR⟩ : ∃ R, R = l7.drop k := ⟨_, rfl⟩
          obtain ⟨F, hF⟩ : ∃ F, F = figV (l7.take k) := ⟨_, rfl⟩
          rw [← hR] at SX HYk
          rw [← hF] at SX bf
          have ER := Aside0.mk hR
          have EF := Aside0.mk hF
          clear hR hF
          rcases (by
            by_cases h0 : R = []
            · exact .inl h0
            · have h1 : 0 < R.length := List.length_pos_iff.2 h0
              rcases (by omega : rd R 0 < 48 ∨ 57 < rd R 0 ∨ (48 ≤ rd R 0 ∧ rd R 0 ≤ 57)) with h | h | h
              · exact .inr (.inl ⟨h1, h⟩)
              · exact .inr (.inr (.inl ⟨h1, h⟩))
              · exact .inr (.inr (.inr ⟨h1, h.1, h.2⟩)) : R = [] ∨ (0 < R.length ∧ rd R 0 < 48) ∨ (0 < R.length ∧ 57 < rd R 0) ∨ (0 < R.length ∧ 48 ≤ rd R 0 ∧ rd R 0 ≤ 57)) with hs | ⟨hn, hs⟩ | ⟨hn, hs⟩ | ⟨hn, hs, hs'⟩
          · have HD := Aside0.mk (show dig0 R = false from by rw [hs]; rfl)
            have HS := Aside0.mk hs
            have HE := Aside0.mk (show k = n from by have h := HK.out.2.1; rw [← ER.out] at h; cases hq : 10 - k with | zero => rw [hq] at h; simp only [gN] at h; omega | succ q => rw [hq] at h; simp only [gN] at h; rw [if_neg (by rw [HD.out]; decide)] at h; omega)
            clear hs 
            obtain ⟨qA, qc, qb, qr, qC⟩ := SX.out.1; have q0 := (blk_cell qb 0).trans (show _ = some (.slice qA R.length qc) from rfl); have q1 := (blk_cell qb 1).trans (show _ = some (.bool o6) from rfl); rw [show R.length = 0 from (congrArg List.length HS.out)] at q0; clear qb qr qC
            go_wp2
            go_meet
            case rel => exact ⟨by rw [HE.out], by rw [HE.out], ⟨by rw [← HE.out, ← ER.out, ← EF.out]; exact SX.out⟩⟩
          · have HD := Aside0.mk (show dig0 R = false from by simp [dig0]; omega)
            have HS := Aside0.mk hs
            have HN := Aside0.mk hn
            have HE := Aside0.mk (show k = n from by have h := HK.out.2.1; rw [← ER.out] at h; cases hq : 10 - k with | zero => rw [hq] at h; simp only [gN] at h; omega | succ q => rw [hq] at h; simp only [gN] at h; rw [if_neg (by rw [HD.out]; decide)] at h; omega)
            clear hs hn
            obtain ⟨qA, qc, qb, qr, qC⟩ := SX.out.1; have q0 := (blk_cell qb 0).trans (show _ = some (.slice qA R.length qc) from rfl); have q1 := (blk_cell qb 1).trans (show _ = some (.bool o6) from rfl); obtain ⟨ad, eA, hx0⟩ := scan_at0 qr SX.out.2.1 0 (by omega) (by have := HN.out; omega); subst eA; rw [show (0 : Int).toNat = 0 from rfl, add_zero_] at hx0; have tz : decide (0 < R.length) = true := decide_eq_true HN.out; have tq : (0 : Int) < (R.length : Int) := Int.ofNat_lt.mpr HN.out; have t48 : decide (48 ≤ rd R 0) = false := decide_eq_false (by have := HS.out; omega); clear qb qr qC
            go_wp2
            go_meet
            case rel => exact ⟨by rw [HE.out], by rw [HE.out], ⟨by rw [← HE.out, ← ER.out, ← EF.out]; exact SX.out⟩⟩
          · have HD := Aside0.mk (show dig0 R = false from by simp [dig0]; omega)
            have HS := Aside0.mk hs
            have HN := Aside0.mk hn
            have HE := Aside0.mk (show k = n from by have h := HK.out.2.1; rw [← ER.out] at h; cases hq : 10 - k with | zero => rw [hq] at h; simp only [gN] at h; omega | succ q => rw [hq] at h; simp only [gN] at h; rw [if_neg (by rw [HD.out]; decide)] at h; omega)
            clear hs hn
            obtain ⟨qA, qc, qb, qr, qC⟩ := SX.out.1; have q0 := (blk_cell qb 0).trans (show _ = some (.slice qA R.length qc) from rfl); have q1 := (blk_cell qb 1).trans (show _ = some (.bool o6) from rfl); obtain ⟨ad, eA, hx0⟩ := scan_at0 qr SX.out.2.1 0 (by omega) (by have := HN.out; omega); subst eA; rw [show (0 : Int).toNat = 0 from rfl, add_zero_] at hx0; have tz : decide (0 < R.length) = true := decide_eq_true HN.out; have tq : (0 : Int) < (R.length : Int) := Int.ofNat_lt.mpr HN.out; have t48 : decide (48 ≤ rd R 0) = true := decide_eq_true (by have := HS.out; omega); have t57 : decide (rd R 0 ≤ 57) = false := decide_eq_false (by have := HS.out; omega); clear qb qr qC
            go_wp2
            go_meet
            case rel => exact ⟨by rw [HE.out], by rw [HE.out], ⟨by rw [← HE.out, ← ER.out, ← EF.out]; exact SX.out⟩⟩
          · have HD := Aside0.mk (show dig0 R = true from by simp [dig0]; omega)
            have HS := Aside0.mk hs
            have HN := Aside0.mk hn
            have HS2 := Aside0.mk hs'
            clear hs hn hs'
            obtain ⟨qA, qc, qb, qr, qC⟩ := SX.out.1; have q0 := (blk_cell qb 0).trans (show _ = some (.slice qA R.length qc) from rfl); have q1 := (blk_cell qb 1).trans (show _ = some (.bool o6) from rfl); obtain ⟨ad, eA, hx0⟩ := scan_at0 qr SX.out.2.1 0 (by omega) (by have := HN.out; omega); subst eA; rw [show (0 : Int).toNat = 0 from rfl, add_zero_] at hx0; have tz : decide (0 < R.length) = true := decide_eq_true HN.out; have tq : (0 : Int) < (R.length : Int) := Int.ofNat_lt.mpr HN.out; have t48 : decide (48 ≤ rd R 0) = true := decide_eq_true HS.out; have t57 : decide (rd R 0 ≤ 57) = true := decide_eq_true HS2.out; clear qb qr qC
            by_cases h10 : k < 10
            · have t10 : decide ((k : Int) < 10) = true := decide_eq_true (by omega)
              have bd : 0 ≤ rd R 0 - 48 ∧ rd R 0 - 48 ≤ 9 := by have := HS.out; have := HS2.out; omega
              obtain ⟨D, hD⟩ : ∃ D, D = rd R 0 - 48 := ⟨_, rfl⟩
              rw [← hD] at bd
              have EDD := Aside0.mk hD
              clear hD
              go_wp2_with (first
                | (go_at_call 51; (with_reducible refine (figure1_SB g12 _ _ _ w wd HD.out HYk.out SX.out).mono ?_); rw [← EDD.out]; rintro e w10 ⟨rfl, hsb⟩; have S10 := Aside0.mk hsb; clear hsb q0 q1 hx0 tz tq t48 t57 t10; have ct0 := (blk_cell S10.out.head 0).trans (show _ = some (.int .i64 v1) from rfl); have ctf0 := blk_frozen S10.out.head 0; have ct1 := (blk_cell S10.out.head 1).trans (show _ = some (.int .i64 v2) from rfl); have ctf1 := blk_frozen S10.out.head 1; have ct2 := (blk_cell S10.out.head 2).trans (show _ = some (.int .i64 v3) from rfl); have ctf2 := blk_frozen S10.out.head 2; have ct3 := (blk_cell S10.out.head 3).trans (show _ = some (.int .i64 v4) from rfl); have ctf3 := blk_frozen S10.out.head 3; have ct4 := (blk_cell S10.out.head 4).trans (show _ = some (.int .i64 v5) from rfl); have ctf4 := blk_frozen S10.out.head 4; have ct5 := (blk_cell S10.out.head 5).trans (show _ = some (.int .i64 v6) from rfl); have ctf5 := blk_frozen S10.out.head 5; have ct6 := (blk_cell S10.out.head 6).trans (show _ = some (.int .i64 F) from rfl); have ctf6 := blk_frozen S10.out.head 6; have ct7 := (blk_cell S10.out.head 7).trans (show _ = some (.int .i64 0) from rfl); have ctf7 := blk_frozen S10.out.head 7)
                | ((with_reducible refine gate_store (t := 3) (p := 65) rfl ?_); refine store_event (t := 3) (p := 65) (v := ?vo65) (w1 := w10.setCell ⟨g6, 6, none⟩ (.int .i64 (10 * F + D))) ?hg ?ho ?hn ?hr ?_; (case ho => rfl); (case hg => rfl); (case hn => rfl); (case hr => first | (go_simp; done) | (go_simp; rfl)); intro w11 hw; have S11 := Aside0.mk (SB.put S10.out (blk_put (cs' := #[.int .i64 v1, .int .i64 v2, .int .i64 v3, .int .i64 v4, .int .i64 v5, .int .i64 v6, .int .i64 (10 * F + D), .int .i64 0]) S10.out.head 6 (.int .i64 (10 * F + D)) rfl) (grown_set w10 g6 6 (.int .i64 (10 * F + D)))); rw [← hw] at S11; clear hw))
              go_roundw
              case rel =>
                have hl : k < l7.length := by
                  have := HN.out
                  rw [ER.out, List.length_drop] at this
                  omega
                have eD : rd l7 (k : Int) = rd R 0 := by
                  rw [ER.out]
                  unfold rd
                  simp [List.getElem?_drop]
                have eG : k + 1 + gN (10 - (k + 1)) (l7.drop (k + 1)) = n := by
                  have h := HK.out.2.1
                  rw [show 10 - k = (10 - (k + 1)) + 1 by omega] at h
                  simp only [gN] at h
                  rw [if_pos (by rw [← ER.out]; exact HD.out), List.drop_drop] at h
                  omega
                refine ⟨k + 1, by go_num, by unfold lastI; rw [if_neg (by omega), show k + 1 - 1 = k by omega, eD, EDD.out], ⟨by omega, eG, by omega, fun j hj => ?_⟩, ⟨?_⟩⟩
                · rcases Nat.lt_or_ge j k with h | h
                  · exact HK.out.2.2.2 j h
                  · have hjk : j = k := by omega
                    subst hjk
                    rw [eD]
                    exact ⟨HS.out, HS2.out⟩
                · rw [rd_take l7 k hl, figV_snoc, ← EF.out, eD, show 10 * F + rd R 0 - 48 = 10 * F + D by rw [EDD.out]; omega, ← List.drop_drop, ← ER.out]
                  exact S11.out
              case measure => simp [intOf]; omega
            · have t10 : decide ((k : Int) < 10) = false := decide_eq_false (by omega)
              have HE := Aside0.mk (show k = n from by have h := HK.out.2.1; rw [show 10 - k = 0 by omega] at h; simp only [gN] at h; omega)
              go_wp2
              go_meet
              case rel => exact ⟨by rw [HE.out], by rw [HE.out], ⟨by rw [← HE.out, ← ER.out, ← EF.out]; exact SX.out⟩⟩
      case rest =>
        clear S9
        obtain ⟨rfl, rfl, SX⟩ := hcut
        generalize wc = wd at SX ⊢
        have bl : n ≤ 10 ∧ n ≤ l7.length := by rw [EM.out]; exact GL.out
        have bf := figV_ten (figV_dig (fun j hj => gN_dig 10 l7 j (by rw [← EM.out]; exact hj)) n (Nat.le_refl _) bl.2) bl.1
        have BFD := Aside0.mk (figV_dig (fun j hj => gN_dig 10 l7 j (by rw [← EM.out]; exact hj)) n (Nat.le_refl _) bl.2)
        obtain ⟨F, hF⟩ : ∃ F, F = figV (l7.take n) := ⟨_, rfl⟩
        obtain ⟨Q, hQ⟩ : ∃ Q, Q = lastI l7 n := ⟨_, rfl⟩
        rw [← hF] at SX bf BFD
        rw [← hQ]
        have EF := Aside0.mk hF
        have EQ := Aside0.mk hQ
        clear hF hQ
        go_upto_region 9 with (fail)
        (try simp only [Act.put, List.setIfInBounds_toArray, List.set_cons_zero, List.set_cons_succ])
        go_cut [] (fun wc => Aside0 (SB w wc g12 l8 o8 ((g6, tm v1 v2 v3 v4 v5 v6 F 0) :: [(g2, tm 0 0 0 0 0 0 0 0)])))
        case first =>
          have SY := Aside0.mk (show SB w wd g12 l8 o6 _ from by rw [E8.out]; exact SX.out)
          have EO8 := E9.out
          rw [← EQ.out] at EO8
          have EO8' := Aside0.mk EO8
          clear SX EO8
          obtain ⟨qA, qc, qb, qr, qC⟩ := SY.out.1; have q0 := (blk_cell qb 0).trans (show _ = some (.slice qA l8.length qc) from rfl); have q1 := (blk_cell qb 1).trans (show _ = some (.bool o6) from rfl); have qf1 := blk_frozen qb 1; clear qb qr qC
          cases o6 with
          | false =>
            go_wp2
            go_meet
            case rel => exact ⟨SB.setOk SY.out _ _ (by rw [EO8'.out]; simp)⟩
          | true =>
            go_wp2
            all_goals
              go_meet
              case rel =>
                refine ⟨SB.setOk SY.out _ _ ?_⟩
                rw [EO8'.out]
                clear EO8' SY EF EQ bf bl BFD E10 GL HY7 HY0 HY1 HY2 HY3 HY4 HY5 HY6 HY8 EZ' ET' EL' EO' E7 EM E8 E9
                first
                | (simp_all; done)
                | (simp_all; omega)
                | (simp; omega)
        case rest =>
          clear SX
          have SX := hcut
          clear hcut
          generalize wc = wd2 at SX ⊢
          have BP := Aside0.mk (show ∀ j : Nat, n + j ≤ 9 → 0 ≤ F * 10 ^ j ∧ F * 10 ^ j ≤ 1000000000 from fun j hj => by
            refine ⟨Int.mul_nonneg bf.1 (Int.le_of_lt (Int.pow_pos (by decide))), ?_⟩
            have h1 : F * 10 ^ j ≤ 10 ^ n * 10 ^ j := Int.mul_le_mul_of_nonneg_right (by have := BFD.out.2; omega) (Int.le_of_lt (Int.pow_pos (by decide)))
            rw [← Int.pow_add] at h1
            have h2 : (10 : Int) ^ (n + j) ≤ 1000000000 := by
              rcases (by omega : n + j = 0 ∨ n + j = 1 ∨ n + j = 2 ∨ n + j = 3 ∨ n + j = 4 ∨ n + j = 5 ∨ n + j = 6 ∨ n + j = 7 ∨ n + j = 8 ∨ n + j = 9) with h | h | h | h | h | h | h | h | h | h <;> rw [h] <;> decide
            omega)
          clear bf BFD bl
          go_wp2
          go_loopw [7] (fun v7 wr => ∃ k : Nat, v7 = .int .i64 (k : Int) ∧ Aside0 (n ≤ k ∧ (k ≤ 9 ∨ k = n)) ∧ Aside0 (SB w wr g12 l8 o8 ((g6, tm v1 v2 v3 v4 v5 v6 (F * 10 ^ (k - n)) 0) :: [(g2, tm 0 0 0 0 0 0 0 0)]))) (fun v7 _ => 9 - (intOf v7).toNat)
          case atStart => exact ⟨n, rfl, ⟨by omega, .inr rfl⟩, ⟨by rw [Nat.sub_self, Int.pow_zero, Int.mul_one]; exact SX.out⟩⟩
          case round =>
            obtain ⟨k, rfl, HK, SX⟩ := hrel
            generalize wr = wd at SX ⊢
            have hk1 : n ≤ k := HK.out.1
            have hk3 : k ≤ 10 := by rcases HK.out.2 with h | h <;> omega
            by_cases h9 : k < 9
            · have t9 : decide ((k : Int) < 9) = true := decide_eq_true (by omega)
              have bm := BP.out (k - n) (by omega)
              obtain ⟨M, hM⟩ : ∃ M, M = F * 10 ^ (k - n) := ⟨_, rfl⟩
              rw [← hM] at bm SX
              have EM2 := Aside0.mk hM
              clear hM
              have ct0 := (blk_cell SX.out.head 0).trans (show _ = some (.int .i64 v1) from rfl); have ctf0 := blk_frozen SX.out.head 0; have ct1 := (blk_cell SX.out.head 1).trans (show _ = some (.int .i64 v2) from rfl); have ctf1 := blk_frozen SX.out.head 1; have ct2 := (blk_cell SX.out.head 2).trans (show _ = some (.int .i64 v3) from rfl); have ctf2 := blk_frozen SX.out.head 2; have ct3 := (blk_cell SX.out.head 3).trans (show _ = some (.int .i64 v4) from rfl); have ctf3 := blk_frozen SX.out.head 3; have ct4 := (blk_cell SX.out.head 4).trans (show _ = some (.int .i64 v5) from rfl); have ctf4 := blk_frozen SX.out.head 4; have ct5 := (blk_cell SX.out.head 5).trans (show _ = some (.int .i64 v6) from rfl); have ctf5 := blk_frozen SX.out.head 5; have ct6 := (blk_cell SX.out.head 6).trans (show _ = some (.int .i64 M) from rfl); have ctf6 := blk_frozen SX.out.head 6; have ct7 := (blk_cell SX.out.head 7).trans (show _ = some (.int .i64 0) from rfl); have ctf7 := blk_frozen SX.out.head 7
              go_wp2_with (first
                | ((with_reducible refine gate_store (t := 3) (p := 94) rfl ?_); refine store_event (t := 3) (p := 94) (v := ?vo94) (w1 := wd.setCell ⟨g6, 6, none⟩ (.int .i64 (M * 10))) ?hg ?ho ?hn ?hr ?_; (case ho => rfl); (case hg => rfl); (case hn => rfl); (case hr => first | (go_simp; done) | (go_simp; rfl)); intro w11 hw; have S11 := Aside0.mk (SB.put SX.out (blk_put (cs' := #[.int .i64 v1, .int .i64 v2, .int .i64 v3, .int .i64 v4, .int .i64 v5, .int .i64 v6, .int .i64 (M * 10), .int .i64 0]) SX.out.head 6 (.int .i64 (M * 10)) rfl) (grown_set wd g6 6 (.int .i64 (M * 10)))); rw [← hw] at S11; clear hw))
              go_roundw
              case rel => exact ⟨k + 1, by go_num, ⟨by omega, .inl (by omega)⟩, ⟨by rw [show k + 1 - n = (k - n) + 1 by omega, Int.pow_succ, ← Int.mul_assoc, ← EM2.out]; exact S11.out⟩⟩
              case measure => simp [intOf]; omega
            · have t9 : decide ((k : Int) < 9) = false := decide_eq_false (by omega)
              go_wp2
              go_meet
              case rel => exact ⟨by rw [E10.out, ← EF.out]; have h : k - n = 9 - n := (by rcases HK.out.2 with h | h <;> omega); rw [← h]; exact SX.out⟩
  case rest =>
    clear S8
    have S11 := hcut
    clear hcut
    generalize wc = w11 at S11 ⊢
    go_wp2_with (first
      | (go_at_call 52; (with_reducible refine (zone_SB g12 _ _ _ w w11 HY8.out S11.out).mono ?_); rw [← EZ'.out, ← ET'.out, ← EL'.out, ← EO'.out]; rintro e w12 ⟨rfl, hsb⟩; have S12 := Aside0.mk hsb; clear hsb; have ct0 := (blk_cell S12.out.head 0).trans (show _ = some (.int .i64 v1) from rfl); have ctf0 := blk_frozen S12.out.head 0; have ct1 := (blk_cell S12.out.head 1).trans (show _ = some (.int .i64 v2) from rfl); have ctf1 := blk_frozen S12.out.head 1; have ct2 := (blk_cell S12.out.head 2).trans (show _ = some (.int .i64 v3) from rfl); have ctf2 := blk_frozen S12.out.head 2; have ct3 := (blk_cell S12.out.head 3).trans (show _ = some (.int .i64 v4) from rfl); have ctf3 := blk_frozen S12.out.head 3; have ct4 := (blk_cell S12.out.head 4).trans (show _ = some (.int .i64 v5) from rfl); have ctf4 := blk_frozen S12.out.head 4; have ct5 := (blk_cell S12.out.head 5).trans (show _ = some (.int .i64 v6) from rfl); have ctf5 := blk_frozen S12.out.head 5; have ct6 := (blk_cell S12.out.head 6).trans (show _ = some (.int .i64 na) from rfl); have ctf6 := blk_frozen S12.out.head 6; have ct7 := (blk_cell S12.out.head 7).trans (show _ = some (.int .i64 0) from rfl); have ctf7 := blk_frozen S12.out.head 7)
      | ((with_reducible refine gate_store (t := 3) (p := 101) rfl ?_); refine store_event (t := 3) (p := 101) (v := ?vo101) (w1 := w12.setCell ⟨g6, 7, none⟩ (.int .i64 z)) ?hg ?ho ?hn ?hr ?_; (case ho => rfl); (case hg => rfl); (case hn => rfl); (case hr => first | (go_simp; done) | (go_simp; rfl)); intro w13 hw; have S13 := Aside0.mk (SB.put S12.out (blk_put (cs' := #[.int .i64 v1, .int .i64 v2, .int .i64 v3, .int .i64 v4, .int .i64 v5, .int .i64 v6, .int .i64 na, .int .i64 z]) S12.out.head 7 (.int .i64 z) rfl) (grown_set w12 g6 7 (.int .i64 z))); rw [← hw] at S13; clear ct0 ctf0 ct1 ctf1 ct2 ctf2 ct3 ctf3 ct4 ctf4 ct5 ctf5 ct6 ctf6 ct7 ctf7; have ct0 := (blk_cell S13.out.head 0).trans (show _ = some (.int .i64 v1) from rfl); have ctf0 := blk_frozen S13.out.head 0; have ct1 := (blk_cell S13.out.head 1).trans (show _ = some (.int .i64 v2) from rfl); have ctf1 := blk_frozen S13.out.head 1; have ct2 := (blk_cell S13.out.head 2).trans (show _ = some (.int .i64 v3) from rfl); have ctf2 := blk_frozen S13.out.head 2; have ct3 := (blk_cell S13.out.head 3).trans (show _ = some (.int .i64 v4) from rfl); have ctf3 := blk_frozen S13.out.head 3; have ct4 := (blk_cell S13.out.head 4).trans (show _ = some (.int .i64 v5) from rfl); have ctf4 := blk_frozen S13.out.head 4; have ct5 := (blk_cell S13.out.head 5).trans (show _ = some (.int .i64 v6) from rfl); have ctf5 := blk_frozen S13.out.head 5; have ct6 := (blk_cell S13.out.head 6).trans (show _ = some (.int .i64 na) from rfl); have ctf6 := blk_frozen S13.out.head 6; have ct7 := (blk_cell S13.out.head 7).trans (show _ = some (.int .i64 z) from rfl); have ctf7 := blk_frozen S13.out.head 7; clear hw)
      | ((with_reducible refine gate_dst (N := 11) rfl ?_); refine box_event ?hg (N := 11) ?hd (cs := #[.int .i64 0, .int .i64 0, .int .i64 0, .int .i64 0, .int .i64 0, .int .i64 0, .int .i64 0, .int .i64 0]) (t := 44) ?hr ?_; (case hd => rfl); (case hg => rfl); (case hr => first | (go_simp; done) | (go_simp; rfl)); intro g9 hg w14 hbox hb; have S14 := Aside0.mk (SB.alloc S13.out hg hbox hb); clear ct0 ctf0 ct1 ctf1 ct2 ctf2 ct3 ctf3 ct4 ctf4 ct5 ctf5 ct6 ctf6 ct7 ctf7; have ct0 := (blk_cell S14.out.snd 0).trans (show _ = some (.int .i64 v1) from rfl); have ctf0 := blk_frozen S14.out.snd 0; have ct1 := (blk_cell S14.out.snd 1).trans (show _ = some (.int .i64 v2) from rfl); have ctf1 := blk_frozen S14.out.snd 1; have ct2 := (blk_cell S14.out.snd 2).trans (show _ = some (.int .i64 v3) from rfl); have ctf2 := blk_frozen S14.out.snd 2; have ct3 := (blk_cell S14.out.snd 3).trans (show _ = some (.int .i64 v4) from rfl); have ctf3 := blk_frozen S14.out.snd 3; have ct4 := (blk_cell S14.out.snd 4).trans (show _ = some (.int .i64 v5) from rfl); have ctf4 := blk_frozen S14.out.snd 4; have ct5 := (blk_cell S14.out.snd 5).trans (show _ = some (.int .i64 v6) from rfl); have ctf5 := blk_frozen S14.out.snd 5; have ct6 := (blk_cell S14.out.snd 6).trans (show _ = some (.int .i64 na) from rfl); have ctf6 := blk_frozen S14.out.snd 6; have ct7 := (blk_cell S14.out.snd 7).trans (show _ = some (.int .i64 z) from rfl); have ctf7 := blk_frozen S14.out.snd 7; have cf0 := (blk_cell S14.out.head 0).trans (show _ = some (.int .i64 0) from rfl); have cff0 := blk_frozen S14.out.head 0; have cf1 := (blk_cell S14.out.head 1).trans (show _ = some (.int .i64 0) from rfl); have cff1 := blk_frozen S14.out.head 1; have cf2 := (blk_cell S14.out.head 2).trans (show _ = some (.int .i64 0) from rfl); have cff2 := blk_frozen S14.out.head 2; have cf3 := (blk_cell S14.out.head 3).trans (show _ = some (.int .i64 0) from rfl); have cff3 := blk_frozen S14.out.head 3; have cf4 := (blk_cell S14.out.head 4).trans (show _ = some (.int .i64 0) from rfl); have cff4 := blk_frozen S14.out.head 4; have cf5 := (blk_cell S14.out.head 5).trans (show _ = some (.int .i64 0) from rfl); have cff5 := blk_frozen S14.out.head 5; have cf6 := (blk_cell S14.out.head 6).trans (show _ = some (.int .i64 0) from rfl); have cff6 := blk_frozen S14.out.head 6; have cf7 := (blk_cell S14.out.head 7).trans (show _ = some (.int .i64 0) from rfl); have cff7 := blk_frozen S14.out.head 7; clear hbox hb hg)
      | ((with_reducible refine gate_store (t := 44) (p := 11) rfl ?_); refine store_event (t := 44) (p := 11) (v := ?vo11) (w1 := put8 w14 g9 (.int .i64 v1) (.int .i64 v2) (.int .i64 v3) (.int .i64 v4) (.int .i64 v5) (.int .i64 v6) (.int .i64 na) (.int .i64 z)) ?hg ?ho ?hn ?hr ?_; (case ho => rfl); (case hg => rfl); (case hn => rfl); (case hr => first | (go_simp; done) | (go_simp; rfl)); intro w15 hw; have S15 := Aside0.mk (SB.put S14.out (put8_blk S14.out.head (.int .i64 v1) (.int .i64 v2) (.int .i64 v3) (.int .i64 v4) (.int .i64 v5) (.int .i64 v6) (.int .i64 na) (.int .i64 z)) (put8_grown w14 g9 (.int .i64 v1) (.int .i64 v2) (.int .i64 v3) (.int .i64 v4) (.int .i64 v5) (.int .i64 v6) (.int .i64 na) (.int .i64 z))); rw [← hw] at S15; clear ct0 ctf0 ct1 ctf1 ct2 ctf2 ct3 ctf3 ct4 ctf4 ct5 ctf5 ct6 ctf6 ct7 ctf7; clear cf0 cff0 cf1 cff1 cf2 cff2 cf3 cff3 cf4 cff4 cf5 cff5 cf6 cff6 cf7 cff7; have cf0 := (blk_cell S15.out.head 0).trans (show _ = some (.int .i64 v1) from rfl); have cff0 := blk_frozen S15.out.head 0; have cf1 := (blk_cell S15.out.head 1).trans (show _ = some (.int .i64 v2) from rfl); have cff1 := blk_frozen S15.out.head 1; have cf2 := (blk_cell S15.out.head 2).trans (show _ = some (.int .i64 v3) from rfl); have cff2 := blk_frozen S15.out.head 2; have cf3 := (blk_cell S15.out.head 3).trans (show _ = some (.int .i64 v4) from rfl); have cff3 := blk_frozen S15.out.head 3; have cf4 := (blk_cell S15.out.head 4).trans (show _ = some (.int .i64 v5) from rfl); have cff4 := blk_frozen S15.out.head 4; have cf5 := (blk_cell S15.out.head 5).trans (show _ = some (.int .i64 v6) from rfl); have cff5 := blk_frozen S15.out.head 5; have cf6 := (blk_cell S15.out.head 6).trans (show _ = some (.int .i64 na) from rfl); have cff6 := blk_frozen S15.out.head 6; have cf7 := (blk_cell S15.out.head 7).trans (show _ = some (.int .i64 z) from rfl); have cff7 := blk_frozen S15.out.head 7; clear hw)
      | ((with_reducible refine gate_store (t := 3) (p := 103) rfl ?_); refine store_event (t := 3) (p := 103) (v := ?vo103) (w1 := w15.setCell ⟨g9, 7, none⟩ (.int .i64 0)) ?hg ?ho ?hn ?hr ?_; (case ho => rfl); (case hg => rfl); (case hn => rfl); (case hr => first | (go_simp; done) | (go_simp; rfl)); intro w16 hw; have S16 := Aside0.mk (SB.put S15.out (blk_put (cs' := #[.int .i64 v1, .int .i64 v2, .int .i64 v3, .int .i64 v4, .int .i64 v5, .int .i64 v6, .int .i64 na, .int .i64 0]) S15.out.head 7 (.int .i64 0) rfl) (grown_set w15 g9 7 (.int .i64 0))); rw [← hw] at S16; clear cf0 cff0 cf1 cff1 cf2 cff2 cf3 cff3 cf4 cff4 cf5 cff5 cf6 cff6 cf7 cff7; have cf0 := (blk_cell S16.out.head 0).trans (show _ = some (.int .i64 v1) from rfl); have cff0 := blk_frozen S16.out.head 0; have cf1 := (blk_cell S16.out.head 1).trans (show _ = some (.int .i64 v2) from rfl); have cff1 := blk_frozen S16.out.head 1; have cf2 := (blk_cell S16.out.head 2).trans (show _ = some (.int .i64 v3) from rfl); have cff2 := blk_frozen S16.out.head 2; have cf3 := (blk_cell S16.out.head 3).trans (show _ = some (.int .i64 v4) from rfl); have cff3 := blk_frozen S16.out.head 3; have cf4 := (blk_cell S16.out.head 4).trans (show _ = some (.int .i64 v5) from rfl); have cff4 := blk_frozen S16.out.head 4; have cf5 := (blk_cell S16.out.head 5).trans (show _ = some (.int .i64 v6) from rfl); have cff5 := blk_frozen S16.out.head 5; have cf6 := (blk_cell S16.out.head 6).trans (show _ = some (.int .i64 na) from rfl); have cff6 := blk_frozen S16.out.head 6; have cf7 := (blk_cell S16.out.head 7).trans (show _ = some (.int .i64 0) from rfl); have cff7 := blk_frozen S16.out.head 7; have ct0 := (blk_cell S16.out.snd 0).trans (show _ = some (.int .i64 v1) from rfl); have ctf0 := blk_frozen S16.out.snd 0; have ct1 := (blk_cell S16.out.snd 1).trans (show _ = some (.int .i64 v2) from rfl); have ctf1 := blk_frozen S16.out.snd 1; have ct2 := (blk_cell S16.out.snd 2).trans (show _ = some (.int .i64 v3) from rfl); have ctf2 := blk_frozen S16.out.snd 2; have ct3 := (blk_cell S16.out.snd 3).trans (show _ = some (.int .i64 v4) from rfl); have ctf3 := blk_frozen S16.out.snd 3; have ct4 := (blk_cell S16.out.snd 4).trans (show _ = some (.int .i64 v5) from rfl); have ctf4 := blk_frozen S16.out.snd 4; have ct5 := (blk_cell S16.out.snd 5).trans (show _ = some (.int .i64 v6) from rfl); have ctf5 := blk_frozen S16.out.snd 5; have ct6 := (blk_cell S16.out.snd 6).trans (show _ = some (.int .i64 na) from rfl); have ctf6 := blk_frozen S16.out.snd 6; have ct7 := (blk_cell S16.out.snd 7).trans (show _ = some (.int .i64 z) from rfl); have ctf7 := blk_frozen S16.out.snd 7; obtain ⟨qA, qc, qb, qr, qC⟩ := S16.out.1; have q0 := (blk_cell qb 0).trans (show _ = some (.slice qA l9.length qc) from rfl); have q1 := (blk_cell qb 1).trans (show _ = some (.bool o9) from rfl); have BR2 := Aside0.mk ((S16.out.2.2.2.1.2 _ (List.mem_cons_of_mem _ (List.mem_cons_of_mem _ List.mem_cons_self))).2); clear hw))
    have FB := Aside0.mk S16.out.2.1
    have QB := Aside0.mk (show w16.heap[g12]? = some (.cells #[.slice qA l9.length qc, .bool o9] 81 (0, 0)) from qb)
    have NE6 := Aside0.mk (show some g6 ≠ some g2 from fun e => by have := S16.out.2.2.2.1.1; simp at this; injection e; simp_all)
    have NE9 := Aside0.mk (show some g9 ≠ some g2 from fun e => by have := S16.out.2.2.2.1.1; simp at this; injection e; simp_all)
    have NE12 := Aside0.mk (show some g12 ≠ some g2 from fun e => (S16.out.2.2.2.1.2 _ (List.mem_cons_of_mem _ (List.mem_cons_of_mem _ List.mem_cons_self))).1 (by injection e with e; exact e.symm))
    clear qb qr qC HY0 HY1 HY2 HY3 HY4 HY5 HY6 HY8 ED' EN' EZ' ET' EL' EO' S11 S12 S13 S14 S15 ctf0 cff0 ctf1 cff1 ctf2 cff2 ctf3 cff3 ctf4 cff4 ctf5 cff5 ctf6 cff6 ctf7 cff7
    cases o9 with
    | false =>
      refine start_ (n := 21) (S := fun w' => w'.cell? ⟨g6, 0, none⟩ = some (.int .i64 v1) ∧ w'.cell? ⟨g6, 1, none⟩ = some (.int .i64 v2) ∧ w'.cell? ⟨g6, 2, none⟩ = some (.int .i64 v3) ∧ w'.cell? ⟨g6, 3, none⟩ = some (.int .i64 v4) ∧ w'.cell? ⟨g6, 4, none⟩ = some (.int .i64 v5) ∧ w'.cell? ⟨g6, 5, none⟩ = some (.int .i64 v6) ∧ w'.cell? ⟨g6, 6, none⟩ = some (.int .i64 na) ∧ w'.cell? ⟨g6, 7, none⟩ = some (.int .i64 z) ∧ w'.cell? ⟨g9, 0, none⟩ = some (.int .i64 v1) ∧ w'.cell? ⟨g9, 1, none⟩ = some (.int .i64 v2) ∧ w'.cell? ⟨g9, 2, none⟩ = some (.int .i64 v3) ∧ w'.cell? ⟨g9, 3, none⟩ = some (.int .i64 v4) ∧ w'.cell? ⟨g9, 4, none⟩ = some (.int .i64 v5) ∧ w'.cell? ⟨g9, 5, none⟩ = some (.int .i64 v6) ∧ w'.cell? ⟨g9, 6, none⟩ = some (.int .i64 na) ∧ w'.cell? ⟨g9, 7, none⟩ = some (.int .i64 0) ∧ w'.cell? ⟨g12, 0, none⟩ = some (.slice qA l9.length qc) ∧ w'.cell? ⟨g12, 1, none⟩ = some (.bool false)) (ds := []) #[false, false, false, false, false, false, false, false, false, false, false, false, false, false, false, false, false, false, false, false, false] (by kernel_rfl) rfl rfl ⟨ct0, ct1, ct2, ct3, ct4, ct5, ct6, ct7, cf0, cf1, cf2, cf3, cf4, cf5, cf6, cf7, q0, q1⟩ (fun hHeld => ?_)
      generalize hwg : w16.drew = w17 at hHeld ⊢
      have FB2 := Aside0.mk (show Below w.heap.size w w17 from hwg ▸ below_drew1 FB.out)
      have BK2 := Aside0.mk (show w17.heap[g2]? = some (tm 0 0 0 0 0 0 0 0) from hwg ▸ BR2.out)
      have B6 := Aside0.mk (show w17.heap[g6]? = some (tm v1 v2 v3 v4 v5 v6 na z) from hwg ▸ S16.out.snd)
      have B9 := Aside0.mk (show w17.heap[g9]? = some (tm v1 v2 v3 v4 v5 v6 na 0) from hwg ▸ S16.out.head)
      have B12 := Aside0.mk (show w17.heap[g12]? = some (.cells #[.slice qA l9.length qc, .bool false] 81 (0, 0)) from hwg ▸ QB.out)
      clear hwg ct0 ct1 ct2 ct3 ct4 ct5 ct6 ct7 cf0 cf1 cf2 cf3 cf4 cf5 cf6 cf7 q0 q1 FB BR2
      refine take_ (i := 17) (N := some 121) (v := ?_) (a' := ?_) #[false, false, false, false, false, false, false, false, false, false, false, false, false, false, false, false, false, true, false, false, false] rfl rfl (by kernel_rfl) (fun _ _ _ h => h) (Or.inl ⟨by rfl, ?_⟩) hHeld ?_ ?_
      rotate_left
      · rintro w' ⟨s0, s1, s2, s3, s4, s5, s6, s7, s8, s9, s10, s11, s12, s13, s14, s15, s16, s17⟩
        go_simp
        with_reducible rfl
      rotate_left
      · simp only [Act.put, List.setIfInBounds_toArray, List.set_cons_zero, List.set_cons_succ, i64_w, i32_w]
        rfl
      refine take_ (i := 0) (N := some 104) (v := ?_) (a' := ?_) #[true, false, false, false, false, false, false, false, false, false, false, false, false, false, false, false, false, true, false, false, false] rfl rfl (by kernel_rfl) (fun _ _ _ h => h) (Or.inl ⟨by rfl, ?_⟩) hHeld ?_ ?_
      rotate_left
      · rintro w' ⟨s0, s1, s2, s3, s4, s5, s6, s7, s8, s9, s10, s11, s12, s13, s14, s15, s16, s17⟩
        go_simp
        with_reducible rfl
      rotate_left
      · simp only [Act.put, List.setIfInBounds_toArray, List.set_cons_zero, List.set_cons_succ, i64_w, i32_w]
        rfl
      refine take_ (i := 1) (N := some 105) (v := ?_) (a' := ?_) #[true, true, false, false, false, false, false, false, false, false, false, false, false, false, false, false, false, true, false, false, false] rfl rfl (by kernel_rfl) (fun _ _ _ h => h) (Or.inl ⟨by rfl, ?_⟩) hHeld ?_ ?_
      rotate_left
      · rintro w' ⟨s0, s1, s2, s3, s4, s5, s6, s7, s8, s9, s10, s11, s12, s13, s14, s15, s16, s17⟩
        go_simp
        with_reducible rfl
      rotate_left
      · simp only [Act.put, List.setIfInBounds_toArray, List.set_cons_zero, List.set_cons_succ, i64_w, i32_w]
        rfl
      refine take_ (i := 2) (N := some 106) (v := ?_) (a' := ?_) #[true, true, true, false, false, false, false, false, false, false, false, false, false, false, false, false, false, true, false, false, false] rfl rfl (by kernel_rfl) (fun _ _ _ h => h) (Or.inl ⟨by rfl, ?_⟩) hHeld ?_ ?_
      rotate_left
      · rintro w' ⟨s0, s1, s2, s3, s4, s5, s6, s7, s8, s9, s10, s11, s12, s13, s14, s15, s16, s17⟩
        go_simp
        with_reducible rfl
      rotate_left
      · simp only [Act.put, List.setIfInBounds_toArray, List.set_cons_zero, List.set_cons_succ, i64_w, i32_w]
        rfl
      refine take_ (i := 3) (N := some 107) (v := ?_) (a' := ?_) #[true, true, true, true, false, false, false, false, false, false, false, false, false, false, false, false, false, true, false, false, false] rfl rfl (by kernel_rfl) (fun _ _ _ h => h) (Or.inl ⟨by rfl, ?_⟩) hHeld ?_ ?_
      rotate_left
      · rintro w' ⟨s0, s1, s2, s3, s4, s5, s6, s7, s8, s9, s10, s11, s12, s13, s14, s15, s16, s17⟩
        go_simp
        with_reducible rfl
      rotate_left
      · simp only [Act.put, List.setIfInBounds_toArray, List.set_cons_zero, List.set_cons_succ, i64_w, i32_w]
        rfl
      refine take_ (i := 4) (N := some 108) (v := ?_) (a' := ?_) #[true, true, true, true, true, false, false, false, false, false, false, false, false, false, false, false, false, true, false, false, false] rfl rfl (by kernel_rfl) (fun _ _ _ h => h) (Or.inl ⟨by rfl, ?_⟩) hHeld ?_ ?_
      rotate_left
      · rintro w' ⟨s0, s1, s2, s3, s4, s5, s6, s7, s8, s9, s10, s11, s12, s13, s14, s15, s16, s17⟩
        go_simp
        with_reducible rfl
      rotate_left
      · simp only [Act.put, List.setIfInBounds_toArray, List.set_cons_zero, List.set_cons_succ, i64_w, i32_w]
        rfl
      refine take_ (i := 5) (N := some 109) (v := ?_) (a' := ?_) #[true, true, true, true, true, true, false, false, false, false, false, false, false, false, false, false, false, true, false, false, false] rfl rfl (by kernel_rfl) (fun _ _ _ h => h) (Or.inl ⟨by rfl, ?_⟩) hHeld ?_ ?_
      rotate_left
      · rintro w' ⟨s0, s1, s2, s3, s4, s5, s6, s7, s8, s9, s10, s11, s12, s13, s14, s15, s16, s17⟩
        go_simp
        with_reducible rfl
      rotate_left
      · simp only [Act.put, List.setIfInBounds_toArray, List.set_cons_zero, List.set_cons_succ, i64_w, i32_w]
        rfl
      refine take_ (i := 6) (N := some 110) (v := undef) (a' := ?_) #[true, true, true, true, true, true, true, false, false, false, false, false, false, false, false, false, false, true, false, false, false] rfl rfl (by kernel_rfl) (fun _ _ _ h => h) (Or.inr ⟨by rfl, rfl⟩) hHeld ?_ ?_
      rotate_left
      · simp only [Act.put, List.setIfInBounds_toArray, List.set_cons_zero, List.set_cons_succ, i64_w, i32_w]
        rfl
      refine take_ (i := 7) (N := some 111) (v := undef) (a' := ?_) #[true, true, true, true, true, true, true, true, false, false, false, false, false, false, false, false, false, true, false, false, false] rfl rfl (by kernel_rfl) (fun _ _ _ h => h) (Or.inr ⟨by rfl, rfl⟩) hHeld ?_ ?_
      rotate_left
      · simp only [Act.put, List.setIfInBounds_toArray, List.set_cons_zero, List.set_cons_succ, i64_w, i32_w]
        rfl
      refine take_ (i := 8) (N := some 112) (v := undef) (a' := ?_) #[true, true, true, true, true, true, true, true, true, false, false, false, false, false, false, false, false, true, false, false, false] rfl rfl (by kernel_rfl) (fun _ _ _ h => h) (Or.inr ⟨by rfl, rfl⟩) hHeld ?_ ?_
      rotate_left
      · simp only [Act.put, List.setIfInBounds_toArray, List.set_cons_zero, List.set_cons_succ, i64_w, i32_w]
        rfl
      refine take_ (i := 9) (N := some 113) (v := undef) (a' := ?_) #[true, true, true, true, true, true, true, true, true, true, false, false, false, false, false, false, false, true, false, false, false] rfl rfl (by kernel_rfl) (fun _ _ _ h => h) (Or.inr ⟨by rfl, rfl⟩) hHeld ?_ ?_
      rotate_left
      · simp only [Act.put, List.setIfInBounds_toArray, List.set_cons_zero, List.set_cons_succ, i64_w, i32_w]
        rfl
      refine take_ (i := 10) (N := some 114) (v := undef) (a' := ?_) #[true, true, true, true, true, true, true, true, true, true, true, false, false, false, false, false, false, true, false, false, false] rfl rfl (by kernel_rfl) (fun _ _ _ h => h) (Or.inr ⟨by rfl, rfl⟩) hHeld ?_ ?_
      rotate_left
      · simp only [Act.put, List.setIfInBounds_toArray, List.set_cons_zero, List.set_cons_succ, i64_w, i32_w]
        rfl
      refine take_ (i := 11) (N := some 115) (v := undef) (a' := ?_) #[true, true, true, true, true, true, true, true, true, true, true, true, false, false, false, false, false, true, false, false, false] rfl rfl (by kernel_rfl) (fun _ _ _ h => h) (Or.inr ⟨by rfl, rfl⟩) hHeld ?_ ?_
      rotate_left
      · simp only [Act.put, List.setIfInBounds_toArray, List.set_cons_zero, List.set_cons_succ, i64_w, i32_w]
        rfl
      refine take_ (i := 12) (N := some 116) (v := ?_) (a' := ?_) #[true, true, true, true, true, true, true, true, true, true, true, true, true, false, false, false, false, true, false, false, false] rfl rfl (by kernel_rfl) (fun _ _ _ h => h) (Or.inl ⟨by rfl, ?_⟩) hHeld ?_ ?_
      rotate_left
      · rintro w' ⟨s0, s1, s2, s3, s4, s5, s6, s7, s8, s9, s10, s11, s12, s13, s14, s15, s16, s17⟩
        go_simp
        with_reducible rfl
      rotate_left
      · simp only [Act.put, List.setIfInBounds_toArray, List.set_cons_zero, List.set_cons_succ, i64_w, i32_w]
        rfl
      refine take_ (i := 13) (N := some 117) (v := ?_) (a' := ?_) #[true, true, true, true, true, true, true, true, true, true, true, true, true, true, false, false, false, true, false, false, false] rfl rfl (by kernel_rfl) (fun _ _ _ h => h) (Or.inl ⟨by rfl, ?_⟩) hHeld ?_ ?_
      rotate_left
      · rintro w' ⟨s0, s1, s2, s3, s4, s5, s6, s7, s8, s9, s10, s11, s12, s13, s14, s15, s16, s17⟩
        go_simp
        with_reducible rfl
      rotate_left
      · simp only [Act.put, List.setIfInBounds_toArray, List.set_cons_zero, List.set_cons_succ, i64_w, i32_w]
        rfl
      refine take_ (i := 14) (N := some 118) (v := undef) (a' := ?_) #[true, true, true, true, true, true, true, true, true, true, true, true, true, true, true, false, false, true, false, false, false] rfl rfl (by kernel_rfl) (fun _ _ _ h => h) (Or.inr ⟨by rfl, rfl⟩) hHeld ?_ ?_
      rotate_left
      · simp only [Act.put, List.setIfInBounds_toArray, List.set_cons_zero, List.set_cons_succ, i64_w, i32_w]
        rfl
      refine take_ (i := 15) (N := some 119) (v := undef) (a' := ?_) #[true, true, true, true, true, true, true, true, true, true, true, true, true, true, true, true, false, true, false, false, false] rfl rfl (by kernel_rfl) (fun _ _ _ h => h) (Or.inr ⟨by rfl, rfl⟩) hHeld ?_ ?_
      rotate_left
      · simp only [Act.put, List.setIfInBounds_toArray, List.set_cons_zero, List.set_cons_succ, i64_w, i32_w]
        rfl
      refine take_ (i := 16) (N := some 120) (v := ?_) (a' := ?_) #[true, true, true, true, true, true, true, true, true, true, true, true, true, true, true, true, true, true, false, false, false] rfl rfl (by kernel_rfl) (fun _ _ _ h => h) (Or.inl ⟨by rfl, ?_⟩) hHeld ?_ ?_
      rotate_left
      · rintro w' ⟨s0, s1, s2, s3, s4, s5, s6, s7, s8, s9, s10, s11, s12, s13, s14, s15, s16, s17⟩
        go_simp
        with_reducible rfl
      rotate_left
      · simp only [Act.put, List.setIfInBounds_toArray, List.set_cons_zero, List.set_cons_succ, i64_w, i32_w]
        rfl
      refine one_ (i := 18) (N := none) #[true, true, true, true, true, true, true, true, true, true, true, true, true, true, true, true, true, true, true, false, false] rfl rfl (by kernel_rfl) (by decide) (fun K hK => ?_)
      have r0 := (blk_cell BK2.out 0).trans (show _ = some (.int .i64 0) from rfl)
      have rf0 := blk_frozen BK2.out 0
      have r1 := (blk_cell BK2.out 1).trans (show _ = some (.int .i64 0) from rfl)
      have rf1 := blk_frozen BK2.out 1
      have r2 := (blk_cell BK2.out 2).trans (show _ = some (.int .i64 0) from rfl)
      have rf2 := blk_frozen BK2.out 2
      have r3 := (blk_cell BK2.out 3).trans (show _ = some (.int .i64 0) from rfl)
      have rf3 := blk_frozen BK2.out 3
      have r4 := (blk_cell BK2.out 4).trans (show _ = some (.int .i64 0) from rfl)
      have rf4 := blk_frozen BK2.out 4
      have r5 := (blk_cell BK2.out 5).trans (show _ = some (.int .i64 0) from rfl)
      have rf5 := blk_frozen BK2.out 5
      have r6 := (blk_cell BK2.out 6).trans (show _ = some (.int .i64 0) from rfl)
      have rf6 := blk_frozen BK2.out 6
      have r7 := (blk_cell BK2.out 7).trans (show _ = some (.int .i64 0) from rfl)
      have rf7 := blk_frozen BK2.out 7
      refine skip_ (w1 := put8 w17 g2 (.int .i64 v1) (.int .i64 v2) (.int .i64 v3) (.int .i64 v4) (.int .i64 v5) (.int .i64 v6) (.int .i64 na) (.int .i64 z)) (by rfl) rfl ?_ ?_
      · go_simp
        rfl
      have BK9 := Aside0.mk (put8_blk BK2.out (.int .i64 v1) (.int .i64 v2) (.int .i64 v3) (.int .i64 v4) (.int .i64 v5) (.int .i64 v6) (.int .i64 na) (.int .i64 z))
      have GW9 := Aside0.mk (put8_grown w17 g2 (.int .i64 v1) (.int .i64 v2) (.int .i64 v3) (.int .i64 v4) (.int .i64 v5) (.int .i64 v6) (.int .i64 na) (.int .i64 z))
      have FB9 := Aside0.mk (FB2.out.grown GW9.out (below_size FB2.out) (fun q hq => by cases hq; exact GR.out))
      clear r0 rf0 r1 rf1 r2 rf2 r3 rf3 r4 rf4 r5 rf5 r6 rf6 r7 rf7
      refine hK.out _ _ ⟨(World.grownBy.cell GW9.out (hHeld.1) NE6.out), (World.grownBy.cell GW9.out (hHeld.2.1) NE6.out), (World.grownBy.cell GW9.out (hHeld.2.2.1) NE6.out), (World.grownBy.cell GW9.out (hHeld.2.2.2.1) NE6.out), (World.grownBy.cell GW9.out (hHeld.2.2.2.2.1) NE6.out), (World.grownBy.cell GW9.out (hHeld.2.2.2.2.2.1) NE6.out), (World.grownBy.cell GW9.out (hHeld.2.2.2.2.2.2.1) NE6.out), (World.grownBy.cell GW9.out (hHeld.2.2.2.2.2.2.2.1) NE6.out), (World.grownBy.cell GW9.out (hHeld.2.2.2.2.2.2.2.2.1) NE9.out), (World.grownBy.cell GW9.out (hHeld.2.2.2.2.2.2.2.2.2.1) NE9.out), (World.grownBy.cell GW9.out (hHeld.2.2.2.2.2.2.2.2.2.2.1) NE9.out), (World.grownBy.cell GW9.out (hHeld.2.2.2.2.2.2.2.2.2.2.2.1) NE9.out), (World.grownBy.cell GW9.out (hHeld.2.2.2.2.2.2.2.2.2.2.2.2.1) NE9.out), (World.grownBy.cell GW9.out (hHeld.2.2.2.2.2.2.2.2.2.2.2.2.2.1) NE9.out), (World.grownBy.cell GW9.out (hHeld.2.2.2.2.2.2.2.2.2.2.2.2.2.2.1) NE9.out), (World.grownBy.cell GW9.out (hHeld.2.2.2.2.2.2.2.2.2.2.2.2.2.2.2.1) NE9.out), (World.grownBy.cell GW9.out (hHeld.2.2.2.2.2.2.2.2.2.2.2.2.2.2.2.2.1) NE12.out), (World.grownBy.cell GW9.out (hHeld.2.2.2.2.2.2.2.2.2.2.2.2.2.2.2.2.2) NE12.out)⟩ (fun hHeld => ?_)
      clear hK K
      generalize put8 w17 g2 (.int .i64 v1) (.int .i64 v2) (.int .i64 v3) (.int .i64 v4) (.int .i64 v5) (.int .i64 v6) (.int .i64 na) (.int .i64 z) = w19 at BK9 FB9 hHeld ⊢
      refine take_ (i := 19) (N := some 3) (v := ?_) (a' := ?_) #[true, true, true, true, true, true, true, true, true, true, true, true, true, true, true, true, true, true, true, true, false] rfl rfl (by kernel_rfl) (fun _ _ _ h => h) (Or.inl ⟨by rfl, ?_⟩) hHeld ?_ ?_
      rotate_left
      · rintro w' ⟨s0, s1, s2, s3, s4, s5, s6, s7, s8, s9, s10, s11, s12, s13, s14, s15, s16, s17⟩
        go_simp
        with_reducible rfl
      rotate_left
      · simp only [Act.put, List.setIfInBounds_toArray, List.set_cons_zero, List.set_cons_succ, i64_w, i32_w]
        rfl
      refine take_ (i := 20) (N := some 4) (v := ?_) (a' := ?_) #[true, true, true, true, true, true, true, true, true, true, true, true, true, true, true, true, true, true, true, true, true] rfl rfl (by kernel_rfl) (fun _ _ _ h => h) (Or.inl ⟨by rfl, ?_⟩) hHeld ?_ ?_
      rotate_left
      · rintro w' ⟨s0, s1, s2, s3, s4, s5, s6, s7, s8, s9, s10, s11, s12, s13, s14, s15, s16, s17⟩
        go_simp
        with_reducible rfl
      rotate_left
      · simp only [Act.put, List.setIfInBounds_toArray, List.set_cons_zero, List.set_cons_succ, i64_w, i32_w]
        rfl
      refine done_ (by kernel_rfl) ?_
      try go_wp2
      refine bodyPost_ret (results_ctt rfl _ _ g2 44 #[.int .i64 v1, .int .i64 v2, .int .i64 v3, .int .i64 v4, .int .i64 v5, .int .i64 v6, .int .i64 na, .int .i64 z] (0, 0) _ rfl BK9.out Try.underlying44 rfl (by kernel_rfl)) rfl ?_
      exact ⟨by first | rfl | (simp; done) | (simp; rfl), FB9.out⟩
    | true =>
      by_cases hl : l9 = []
      · subst hl
        refine start_ (n := 21) (S := fun w' => w'.cell? ⟨g6, 0, none⟩ = some (.int .i64 v1) ∧ w'.cell? ⟨g6, 1, none⟩ = some (.int .i64 v2) ∧ w'.cell? ⟨g6, 2, none⟩ = some (.int .i64 v3) ∧ w'.cell? ⟨g6, 3, none⟩ = some (.int .i64 v4) ∧ w'.cell? ⟨g6, 4, none⟩ = some (.int .i64 v5) ∧ w'.cell? ⟨g6, 5, none⟩ = some (.int .i64 v6) ∧ w'.cell? ⟨g6, 6, none⟩ = some (.int .i64 na) ∧ w'.cell? ⟨g6, 7, none⟩ = some (.int .i64 z) ∧ w'.cell? ⟨g9, 0, none⟩ = some (.int .i64 v1) ∧ w'.cell? ⟨g9, 1, none⟩ = some (.int .i64 v2) ∧ w'.cell? ⟨g9, 2, none⟩ = some (.int .i64 v3) ∧ w'.cell? ⟨g9, 3, none⟩ = some (.int .i64 v4) ∧ w'.cell? ⟨g9, 4, none⟩ = some (.int .i64 v5) ∧ w'.cell? ⟨g9, 5, none⟩ = some (.int .i64 v6) ∧ w'.cell? ⟨g9, 6, none⟩ = some (.int .i64 na) ∧ w'.cell? ⟨g9, 7, none⟩ = some (.int .i64 0) ∧ w'.cell? ⟨g12, 0, none⟩ = some (.slice qA 0 qc) ∧ w'.cell? ⟨g12, 1, none⟩ = some (.bool true)) (ds := []) #[false, false, false, false, false, false, false, false, false, false, false, false, false, false, false, false, false, false, false, false, false] (by kernel_rfl) rfl rfl ⟨ct0, ct1, ct2, ct3, ct4, ct5, ct6, ct7, cf0, cf1, cf2, cf3, cf4, cf5, cf6, cf7, q0, q1⟩ (fun hHeld => ?_)
        generalize hwg : w16.drew = w17 at hHeld ⊢
        have FB2 := Aside0.mk (show Below w.heap.size w w17 from hwg ▸ below_drew1 FB.out)
        have BK2 := Aside0.mk (show w17.heap[g2]? = some (tm 0 0 0 0 0 0 0 0) from hwg ▸ BR2.out)
        have B6 := Aside0.mk (show w17.heap[g6]? = some (tm v1 v2 v3 v4 v5 v6 na z) from hwg ▸ S16.out.snd)
        have B9 := Aside0.mk (show w17.heap[g9]? = some (tm v1 v2 v3 v4 v5 v6 na 0) from hwg ▸ S16.out.head)
        have B12 := Aside0.mk (show w17.heap[g12]? = some (.cells #[.slice qA 0 qc, .bool true] 81 (0, 0)) from hwg ▸ QB.out)
        clear hwg ct0 ct1 ct2 ct3 ct4 ct5 ct6 ct7 cf0 cf1 cf2 cf3 cf4 cf5 cf6 cf7 q0 q1 FB BR2
        refine take_ (i := 17) (N := some 121) (v := ?_) (a' := ?_) #[false, false, false, false, false, false, false, false, false, false, false, false, false, false, false, false, false, true, false, false, false] rfl rfl (by kernel_rfl) (fun _ _ _ h => h) (Or.inl ⟨by rfl, ?_⟩) hHeld ?_ ?_
        rotate_left
        · rintro w' ⟨s0, s1, s2, s3, s4, s5, s6, s7, s8, s9, s10, s11, s12, s13, s14, s15, s16, s17⟩
          go_simp
          with_reducible rfl
        rotate_left
        · simp only [Act.put, List.setIfInBounds_toArray, List.set_cons_zero, List.set_cons_succ, i64_w, i32_w]
          rfl
        refine take_ (i := 0) (N := some 104) (v := ?_) (a' := ?_) #[true, false, false, false, false, false, false, false, false, false, false, false, false, false, false, false, false, true, false, false, false] rfl rfl (by kernel_rfl) (fun _ _ _ h => h) (Or.inl ⟨by rfl, ?_⟩) hHeld ?_ ?_
        rotate_left
        · rintro w' ⟨s0, s1, s2, s3, s4, s5, s6, s7, s8, s9, s10, s11, s12, s13, s14, s15, s16, s17⟩
          go_simp
          with_reducible rfl
        rotate_left
        · simp only [Act.put, List.setIfInBounds_toArray, List.set_cons_zero, List.set_cons_succ, i64_w, i32_w]
          rfl
        refine take_ (i := 1) (N := some 105) (v := ?_) (a' := ?_) #[true, true, false, false, false, false, false, false, false, false, false, false, false, false, false, false, false, true, false, false, false] rfl rfl (by kernel_rfl) (fun _ _ _ h => h) (Or.inl ⟨by rfl, ?_⟩) hHeld ?_ ?_
        rotate_left
        · rintro w' ⟨s0, s1, s2, s3, s4, s5, s6, s7, s8, s9, s10, s11, s12, s13, s14, s15, s16, s17⟩
          go_simp
          with_reducible rfl
        rotate_left
        · simp only [Act.put, List.setIfInBounds_toArray, List.set_cons_zero, List.set_cons_succ, i64_w, i32_w]
          rfl
        refine take_ (i := 2) (N := some 106) (v := ?_) (a' := ?_) #[true, true, true, false, false, false, false, false, false, false, false, false, false, false, false, false, false, true, false, false, false] rfl rfl (by kernel_rfl) (fun _ _ _ h => h) (Or.inl ⟨by rfl, ?_⟩) hHeld ?_ ?_
        rotate_left
        · rintro w' ⟨s0, s1, s2, s3, s4, s5, s6, s7, s8, s9, s10, s11, s12, s13, s14, s15, s16, s17⟩
          go_simp
          with_reducible rfl
        rotate_left
        · simp only [Act.put, List.setIfInBounds_toArray, List.set_cons_zero, List.set_cons_succ, i64_w, i32_w]
          rfl
        refine take_ (i := 3) (N := some 107) (v := ?_) (a' := ?_) #[true, true, true, true, false, false, false, false, false, false, false, false, false, false, false, false, false, true, false, false, false] rfl rfl (by kernel_rfl) (fun _ _ _ h => h) (Or.inl ⟨by rfl, ?_⟩) hHeld ?_ ?_
        rotate_left
        · rintro w' ⟨s0, s1, s2, s3, s4, s5, s6, s7, s8, s9, s10, s11, s12, s13, s14, s15, s16, s17⟩
          go_simp
          with_reducible rfl
        rotate_left
        · simp only [Act.put, List.setIfInBounds_toArray, List.set_cons_zero, List.set_cons_succ, i64_w, i32_w]
          rfl
        refine take_ (i := 4) (N := some 108) (v := ?_) (a' := ?_) #[true, true, true, true, true, false, false, false, false, false, false, false, false, false, false, false, false, true, false, false, false] rfl rfl (by kernel_rfl) (fun _ _ _ h => h) (Or.inl ⟨by rfl, ?_⟩) hHeld ?_ ?_
        rotate_left
        · rintro w' ⟨s0, s1, s2, s3, s4, s5, s6, s7, s8, s9, s10, s11, s12, s13, s14, s15, s16, s17⟩
          go_simp
          with_reducible rfl
        rotate_left
        · simp only [Act.put, List.setIfInBounds_toArray, List.set_cons_zero, List.set_cons_succ, i64_w, i32_w]
          rfl
        refine take_ (i := 5) (N := some 109) (v := ?_) (a' := ?_) #[true, true, true, true, true, true, false, false, false, false, false, false, false, false, false, false, false, true, false, false, false] rfl rfl (by kernel_rfl) (fun _ _ _ h => h) (Or.inl ⟨by rfl, ?_⟩) hHeld ?_ ?_
        rotate_left
        · rintro w' ⟨s0, s1, s2, s3, s4, s5, s6, s7, s8, s9, s10, s11, s12, s13, s14, s15, s16, s17⟩
          go_simp
          with_reducible rfl
        rotate_left
        · simp only [Act.put, List.setIfInBounds_toArray, List.set_cons_zero, List.set_cons_succ, i64_w, i32_w]
          rfl
        refine take_ (i := 6) (N := some 110) (v := ?_) (a' := ?_) #[true, true, true, true, true, true, true, false, false, false, false, false, false, false, false, false, false, true, false, false, false] rfl rfl (by kernel_rfl) (fun _ _ _ h => h) (Or.inl ⟨by rfl, ?_⟩) hHeld ?_ ?_
        rotate_left
        · rintro w' ⟨s0, s1, s2, s3, s4, s5, s6, s7, s8, s9, s10, s11, s12, s13, s14, s15, s16, s17⟩
          go_simp
          with_reducible rfl
        rotate_left
        · simp only [Act.put, List.setIfInBounds_toArray, List.set_cons_zero, List.set_cons_succ, i64_w, i32_w]
          rfl
        refine take_ (i := 7) (N := some 111) (v := ?_) (a' := ?_) #[true, true, true, true, true, true, true, true, false, false, false, false, false, false, false, false, false, true, false, false, false] rfl rfl (by kernel_rfl) (fun _ _ _ h => h) (Or.inl ⟨by rfl, ?_⟩) hHeld ?_ ?_
        rotate_left
        · rintro w' ⟨s0, s1, s2, s3, s4, s5, s6, s7, s8, s9, s10, s11, s12, s13, s14, s15, s16, s17⟩
          go_simp
          with_reducible rfl
        rotate_left
        · simp only [Act.put, List.setIfInBounds_toArray, List.set_cons_zero, List.set_cons_succ, i64_w, i32_w]
          rfl
        refine take_ (i := 8) (N := some 112) (v := ?_) (a' := ?_) #[true, true, true, true, true, true, true, true, true, false, false, false, false, false, false, false, false, true, false, false, false] rfl rfl (by kernel_rfl) (fun _ _ _ h => h) (Or.inl ⟨by rfl, ?_⟩) hHeld ?_ ?_
        rotate_left
        · rintro w' ⟨s0, s1, s2, s3, s4, s5, s6, s7, s8, s9, s10, s11, s12, s13, s14, s15, s16, s17⟩
          go_simp
          with_reducible rfl
        rotate_left
        · simp only [Act.put, List.setIfInBounds_toArray, List.set_cons_zero, List.set_cons_succ, i64_w, i32_w]
          rfl
        refine take_ (i := 9) (N := some 113) (v := ?_) (a' := ?_) #[true, true, true, true, true, true, true, true, true, true, false, false, false, false, false, false, false, true, false, false, false] rfl rfl (by kernel_rfl) (fun _ _ _ h => h) (Or.inl ⟨by rfl, ?_⟩) hHeld ?_ ?_
        rotate_left
        · rintro w' ⟨s0, s1, s2, s3, s4, s5, s6, s7, s8, s9, s10, s11, s12, s13, s14, s15, s16, s17⟩
          go_simp
          with_reducible rfl
        rotate_left
        · simp only [Act.put, List.setIfInBounds_toArray, List.set_cons_zero, List.set_cons_succ, i64_w, i32_w]
          rfl
        refine take_ (i := 10) (N := some 114) (v := ?_) (a' := ?_) #[true, true, true, true, true, true, true, true, true, true, true, false, false, false, false, false, false, true, false, false, false] rfl rfl (by kernel_rfl) (fun _ _ _ h => h) (Or.inl ⟨by rfl, ?_⟩) hHeld ?_ ?_
        rotate_left
        · rintro w' ⟨s0, s1, s2, s3, s4, s5, s6, s7, s8, s9, s10, s11, s12, s13, s14, s15, s16, s17⟩
          go_simp
          with_reducible rfl
        rotate_left
        · simp only [Act.put, List.setIfInBounds_toArray, List.set_cons_zero, List.set_cons_succ, i64_w, i32_w]
          rfl
        refine take_ (i := 11) (N := some 115) (v := ?_) (a' := ?_) #[true, true, true, true, true, true, true, true, true, true, true, true, false, false, false, false, false, true, false, false, false] rfl rfl (by kernel_rfl) (fun _ _ _ h => h) (Or.inl ⟨by rfl, ?_⟩) hHeld ?_ ?_
        rotate_left
        · rintro w' ⟨s0, s1, s2, s3, s4, s5, s6, s7, s8, s9, s10, s11, s12, s13, s14, s15, s16, s17⟩
          go_simp
          with_reducible rfl
        rotate_left
        · simp only [Act.put, List.setIfInBounds_toArray, List.set_cons_zero, List.set_cons_succ, i64_w, i32_w]
          rfl
        refine take_ (i := 12) (N := some 116) (v := ?_) (a' := ?_) #[true, true, true, true, true, true, true, true, true, true, true, true, true, false, false, false, false, true, false, false, false] rfl rfl (by kernel_rfl) (fun _ _ _ h => h) (Or.inl ⟨by rfl, ?_⟩) hHeld ?_ ?_
        rotate_left
        · rintro w' ⟨s0, s1, s2, s3, s4, s5, s6, s7, s8, s9, s10, s11, s12, s13, s14, s15, s16, s17⟩
          go_simp
          with_reducible rfl
        rotate_left
        · simp only [Act.put, List.setIfInBounds_toArray, List.set_cons_zero, List.set_cons_succ, i64_w, i32_w]
          rfl
        refine take_ (i := 13) (N := some 117) (v := ?_) (a' := ?_) #[true, true, true, true, true, true, true, true, true, true, true, true, true, true, false, false, false, true, false, false, false] rfl rfl (by kernel_rfl) (fun _ _ _ h => h) (Or.inl ⟨by rfl, ?_⟩) hHeld ?_ ?_
        rotate_left
        · rintro w' ⟨s0, s1, s2, s3, s4, s5, s6, s7, s8, s9, s10, s11, s12, s13, s14, s15, s16, s17⟩
          go_simp
          with_reducible rfl
        rotate_left
        · simp only [Act.put, List.setIfInBounds_toArray, List.set_cons_zero, List.set_cons_succ, i64_w, i32_w]
          rfl
        refine take_ (i := 14) (N := some 118) (v := ?_) (a' := ?_) #[true, true, true, true, true, true, true, true, true, true, true, true, true, true, true, false, false, true, false, false, false] rfl rfl (by kernel_rfl) (fun _ _ _ h => h) (Or.inl ⟨by rfl, ?_⟩) hHeld ?_ ?_
        rotate_left
        · rintro w' ⟨s0, s1, s2, s3, s4, s5, s6, s7, s8, s9, s10, s11, s12, s13, s14, s15, s16, s17⟩
          go_simp
          with_reducible rfl
        rotate_left
        · simp only [Act.put, List.setIfInBounds_toArray, List.set_cons_zero, List.set_cons_succ, i64_w, i32_w]
          rfl
        refine one_ (i := 15) (N := some 119) #[true, true, true, true, true, true, true, true, true, true, true, true, true, true, true, true, false, true, false, false, false] rfl rfl (by kernel_rfl) (by decide) (fun K hK => ?_)
        refine goes_ Try.func53 (by kernel_rfl) rfl #[.agg #[.int .i64 v1, .int .i64 v2, .int .i64 v3, .int .i64 v4, .int .i64 v5, .int .i64 v6, .int .i64 na, .int .i64 0]] (by rfl) rfl rfl (by (try simp only [List.map_toArray, List.map_cons, List.map_nil]); first | done | rfl) ?_
        with_reducible refine (Right_any v1 v2 v3 v4 v5 v6 na 0 _).mono ?_
        rintro e w18 ⟨rfl, hb⟩
        refine ⟨_, rfl, ?_⟩
        have FB3 := Aside0.mk (below_step FB2.out hb)
        have BK3 := Aside0.mk (blk_below BK2.out hb)
        have C6 := Aside0.mk (blk_below B6.out hb)
        have C9 := Aside0.mk (blk_below B9.out hb)
        have C12 := Aside0.mk (blk_below B12.out hb)
        clear hb hHeld
        refine hK.out _ _ ⟨(blk_cell C6.out 0).trans rfl, (blk_cell C6.out 1).trans rfl, (blk_cell C6.out 2).trans rfl, (blk_cell C6.out 3).trans rfl, (blk_cell C6.out 4).trans rfl, (blk_cell C6.out 5).trans rfl, (blk_cell C6.out 6).trans rfl, (blk_cell C6.out 7).trans rfl, (blk_cell C9.out 0).trans rfl, (blk_cell C9.out 1).trans rfl, (blk_cell C9.out 2).trans rfl, (blk_cell C9.out 3).trans rfl, (blk_cell C9.out 4).trans rfl, (blk_cell C9.out 5).trans rfl, (blk_cell C9.out 6).trans rfl, (blk_cell C9.out 7).trans rfl, (blk_cell C12.out 0).trans rfl, (blk_cell C12.out 1).trans rfl⟩ (fun hHeld => ?_)
        clear hK K
        refine norm_ (a' := ?_) ?_ ?_
        rotate_left
        · show Act.put _ (some 119) _ = _
          simp only [Act.put, List.setIfInBounds_toArray, List.set_cons_zero, List.set_cons_succ, i64_w, i32_w]
          rfl
        refine take_ (i := 16) (N := some 120) (v := ?_) (a' := ?_) #[true, true, true, true, true, true, true, true, true, true, true, true, true, true, true, true, true, true, false, false, false] rfl rfl (by kernel_rfl) (fun _ _ _ h => h) (Or.inl ⟨by rfl, ?_⟩) hHeld ?_ ?_
        rotate_left
        · rintro w' ⟨s0, s1, s2, s3, s4, s5, s6, s7, s8, s9, s10, s11, s12, s13, s14, s15, s16, s17⟩
          go_simp
          with_reducible rfl
        rotate_left
        · simp only [Act.put, List.setIfInBounds_toArray, List.set_cons_zero, List.set_cons_succ, i64_w, i32_w]
          rfl
        refine one_ (i := 18) (N := none) #[true, true, true, true, true, true, true, true, true, true, true, true, true, true, true, true, true, true, true, false, false] rfl rfl (by kernel_rfl) (by decide) (fun K hK => ?_)
        have r0 := (blk_cell BK3.out 0).trans (show _ = some (.int .i64 0) from rfl)
        have rf0 := blk_frozen BK3.out 0
        have r1 := (blk_cell BK3.out 1).trans (show _ = some (.int .i64 0) from rfl)
        have rf1 := blk_frozen BK3.out 1
        have r2 := (blk_cell BK3.out 2).trans (show _ = some (.int .i64 0) from rfl)
        have rf2 := blk_frozen BK3.out 2
        have r3 := (blk_cell BK3.out 3).trans (show _ = some (.int .i64 0) from rfl)
        have rf3 := blk_frozen BK3.out 3
        have r4 := (blk_cell BK3.out 4).trans (show _ = some (.int .i64 0) from rfl)
        have rf4 := blk_frozen BK3.out 4
        have r5 := (blk_cell BK3.out 5).trans (show _ = some (.int .i64 0) from rfl)
        have rf5 := blk_frozen BK3.out 5
        have r6 := (blk_cell BK3.out 6).trans (show _ = some (.int .i64 0) from rfl)
        have rf6 := blk_frozen BK3.out 6
        have r7 := (blk_cell BK3.out 7).trans (show _ = some (.int .i64 0) from rfl)
        have rf7 := blk_frozen BK3.out 7
        refine skip_ (w1 := put8 w18 g2 (.int .i64 v1) (.int .i64 v2) (.int .i64 v3) (.int .i64 v4) (.int .i64 v5) (.int .i64 v6) (.int .i64 na) (.int .i64 z)) (by rfl) rfl ?_ ?_
        · go_simp
          rfl
        have BK9 := Aside0.mk (put8_blk BK3.out (.int .i64 v1) (.int .i64 v2) (.int .i64 v3) (.int .i64 v4) (.int .i64 v5) (.int .i64 v6) (.int .i64 na) (.int .i64 z))
        have GW9 := Aside0.mk (put8_grown w18 g2 (.int .i64 v1) (.int .i64 v2) (.int .i64 v3) (.int .i64 v4) (.int .i64 v5) (.int .i64 v6) (.int .i64 na) (.int .i64 z))
        have FB9 := Aside0.mk (FB3.out.grown GW9.out (below_size FB3.out) (fun q hq => by cases hq; exact GR.out))
        clear r0 rf0 r1 rf1 r2 rf2 r3 rf3 r4 rf4 r5 rf5 r6 rf6 r7 rf7
        refine hK.out _ _ ⟨(World.grownBy.cell GW9.out (hHeld.1) NE6.out), (World.grownBy.cell GW9.out (hHeld.2.1) NE6.out), (World.grownBy.cell GW9.out (hHeld.2.2.1) NE6.out), (World.grownBy.cell GW9.out (hHeld.2.2.2.1) NE6.out), (World.grownBy.cell GW9.out (hHeld.2.2.2.2.1) NE6.out), (World.grownBy.cell GW9.out (hHeld.2.2.2.2.2.1) NE6.out), (World.grownBy.cell GW9.out (hHeld.2.2.2.2.2.2.1) NE6.out), (World.grownBy.cell GW9.out (hHeld.2.2.2.2.2.2.2.1) NE6.out), (World.grownBy.cell GW9.out (hHeld.2.2.2.2.2.2.2.2.1) NE9.out), (World.grownBy.cell GW9.out (hHeld.2.2.2.2.2.2.2.2.2.1) NE9.out), (World.grownBy.cell GW9.out (hHeld.2.2.2.2.2.2.2.2.2.2.1) NE9.out), (World.grownBy.cell GW9.out (hHeld.2.2.2.2.2.2.2.2.2.2.2.1) NE9.out), (World.grownBy.cell GW9.out (hHeld.2.2.2.2.2.2.2.2.2.2.2.2.1) NE9.out), (World.grownBy.cell GW9.out (hHeld.2.2.2.2.2.2.2.2.2.2.2.2.2.1) NE9.out), (World.grownBy.cell GW9.out (hHeld.2.2.2.2.2.2.2.2.2.2.2.2.2.2.1) NE9.out), (World.grownBy.cell GW9.out (hHeld.2.2.2.2.2.2.2.2.2.2.2.2.2.2.2.1) NE9.out), (World.grownBy.cell GW9.out (hHeld.2.2.2.2.2.2.2.2.2.2.2.2.2.2.2.2.1) NE12.out), (World.grownBy.cell GW9.out (hHeld.2.2.2.2.2.2.2.2.2.2.2.2.2.2.2.2.2) NE12.out)⟩ (fun hHeld => ?_)
        clear hK K
        generalize put8 w18 g2 (.int .i64 v1) (.int .i64 v2) (.int .i64 v3) (.int .i64 v4) (.int .i64 v5) (.int .i64 v6) (.int .i64 na) (.int .i64 z) = w19 at BK9 FB9 hHeld ⊢
        refine take_ (i := 19) (N := some 3) (v := ?_) (a' := ?_) #[true, true, true, true, true, true, true, true, true, true, true, true, true, true, true, true, true, true, true, true, false] rfl rfl (by kernel_rfl) (fun _ _ _ h => h) (Or.inl ⟨by rfl, ?_⟩) hHeld ?_ ?_
        rotate_left
        · rintro w' ⟨s0, s1, s2, s3, s4, s5, s6, s7, s8, s9, s10, s11, s12, s13, s14, s15, s16, s17⟩
          go_simp
          with_reducible rfl
        rotate_left
        · simp only [Act.put, List.setIfInBounds_toArray, List.set_cons_zero, List.set_cons_succ, i64_w, i32_w]
          rfl
        refine take_ (i := 20) (N := some 4) (v := ?_) (a' := ?_) #[true, true, true, true, true, true, true, true, true, true, true, true, true, true, true, true, true, true, true, true, true] rfl rfl (by kernel_rfl) (fun _ _ _ h => h) (Or.inl ⟨by rfl, ?_⟩) hHeld ?_ ?_
        rotate_left
        · rintro w' ⟨s0, s1, s2, s3, s4, s5, s6, s7, s8, s9, s10, s11, s12, s13, s14, s15, s16, s17⟩
          go_simp
          with_reducible rfl
        rotate_left
        · simp only [Act.put, List.setIfInBounds_toArray, List.set_cons_zero, List.set_cons_succ, i64_w, i32_w]
          rfl
        refine done_ (by kernel_rfl) ?_
        try go_wp2
        refine bodyPost_ret (results_ctt rfl _ _ g2 44 #[.int .i64 v1, .int .i64 v2, .int .i64 v3, .int .i64 v4, .int .i64 v5, .int .i64 v6, .int .i64 na, .int .i64 z] (0, 0) _ rfl BK9.out Try.underlying44 rfl (by kernel_rfl)) rfl ?_
        exact ⟨by first | rfl | (simp; done) | (simp; rfl), FB9.out⟩
      · have HLE := Aside0.mk (show l9.isEmpty = false by cases l9 with | nil => exact absurd rfl hl | cons x r => rfl)
        have hle : ((l9.length : Int) == 0) = false := beq_eq_false_iff_ne.mpr (fun h => hl (List.eq_nil_of_length_eq_zero (by omega)))
        refine start_ (n := 21) (S := fun w' => w'.cell? ⟨g6, 0, none⟩ = some (.int .i64 v1) ∧ w'.cell? ⟨g6, 1, none⟩ = some (.int .i64 v2) ∧ w'.cell? ⟨g6, 2, none⟩ = some (.int .i64 v3) ∧ w'.cell? ⟨g6, 3, none⟩ = some (.int .i64 v4) ∧ w'.cell? ⟨g6, 4, none⟩ = some (.int .i64 v5) ∧ w'.cell? ⟨g6, 5, none⟩ = some (.int .i64 v6) ∧ w'.cell? ⟨g6, 6, none⟩ = some (.int .i64 na) ∧ w'.cell? ⟨g6, 7, none⟩ = some (.int .i64 z) ∧ w'.cell? ⟨g9, 0, none⟩ = some (.int .i64 v1) ∧ w'.cell? ⟨g9, 1, none⟩ = some (.int .i64 v2) ∧ w'.cell? ⟨g9, 2, none⟩ = some (.int .i64 v3) ∧ w'.cell? ⟨g9, 3, none⟩ = some (.int .i64 v4) ∧ w'.cell? ⟨g9, 4, none⟩ = some (.int .i64 v5) ∧ w'.cell? ⟨g9, 5, none⟩ = some (.int .i64 v6) ∧ w'.cell? ⟨g9, 6, none⟩ = some (.int .i64 na) ∧ w'.cell? ⟨g9, 7, none⟩ = some (.int .i64 0) ∧ w'.cell? ⟨g12, 0, none⟩ = some (.slice qA l9.length qc) ∧ w'.cell? ⟨g12, 1, none⟩ = some (.bool true)) (ds := []) #[false, false, false, false, false, false, false, false, false, false, false, false, false, false, false, false, false, false, false, false, false] (by kernel_rfl) rfl rfl ⟨ct0, ct1, ct2, ct3, ct4, ct5, ct6, ct7, cf0, cf1, cf2, cf3, cf4, cf5, cf6, cf7, q0, q1⟩ (fun hHeld => ?_)
        generalize hwg : w16.drew = w17 at hHeld ⊢
        have FB2 := Aside0.mk (show Below w.heap.size w w17 from hwg ▸ below_drew1 FB.out)
        have BK2 := Aside0.mk (show w17.heap[g2]? = some (tm 0 0 0 0 0 0 0 0) from hwg ▸ BR2.out)
        have B6 := Aside0.mk (show w17.heap[g6]? = some (tm v1 v2 v3 v4 v5 v6 na z) from hwg ▸ S16.out.snd)
        have B9 := Aside0.mk (show w17.heap[g9]? = some (tm v1 v2 v3 v4 v5 v6 na 0) from hwg ▸ S16.out.head)
        have B12 := Aside0.mk (show w17.heap[g12]? = some (.cells #[.slice qA l9.length qc, .bool true] 81 (0, 0)) from hwg ▸ QB.out)
        clear hwg ct0 ct1 ct2 ct3 ct4 ct5 ct6 ct7 cf0 cf1 cf2 cf3 cf4 cf5 cf6 cf7 q0 q1 FB BR2
        refine take_ (i := 17) (N := some 121) (v := ?_) (a' := ?_) #[false, false, false, false, false, false, false, false, false, false, false, false, false, false, false, false, false, true, false, false, false] rfl rfl (by kernel_rfl) (fun _ _ _ h => h) (Or.inl ⟨by rfl, ?_⟩) hHeld ?_ ?_
        rotate_left
        · rintro w' ⟨s0, s1, s2, s3, s4, s5, s6, s7, s8, s9, s10, s11, s12, s13, s14, s15, s16, s17⟩
          go_simp
          with_reducible rfl
        rotate_left
        · simp only [Act.put, List.setIfInBounds_toArray, List.set_cons_zero, List.set_cons_succ, i64_w, i32_w]
          rfl
        refine take_ (i := 0) (N := some 104) (v := ?_) (a' := ?_) #[true, false, false, false, false, false, false, false, false, false, false, false, false, false, false, false, false, true, false, false, false] rfl rfl (by kernel_rfl) (fun _ _ _ h => h) (Or.inl ⟨by rfl, ?_⟩) hHeld ?_ ?_
        rotate_left
        · rintro w' ⟨s0, s1, s2, s3, s4, s5, s6, s7, s8, s9, s10, s11, s12, s13, s14, s15, s16, s17⟩
          go_simp
          with_reducible rfl
        rotate_left
        · simp only [Act.put, List.setIfInBounds_toArray, List.set_cons_zero, List.set_cons_succ, i64_w, i32_w]
          rfl
        refine take_ (i := 1) (N := some 105) (v := ?_) (a' := ?_) #[true, true, false, false, false, false, false, false, false, false, false, false, false, false, false, false, false, true, false, false, false] rfl rfl (by kernel_rfl) (fun _ _ _ h => h) (Or.inl ⟨by rfl, ?_⟩) hHeld ?_ ?_
        rotate_left
        · rintro w' ⟨s0, s1, s2, s3, s4, s5, s6, s7, s8, s9, s10, s11, s12, s13, s14, s15, s16, s17⟩
          go_simp
          with_reducible rfl
        rotate_left
        · simp only [Act.put, List.setIfInBounds_toArray, List.set_cons_zero, List.set_cons_succ, i64_w, i32_w]
          rfl
        refine take_ (i := 2) (N := some 106) (v := ?_) (a' := ?_) #[true, true, true, false, false, false, false, false, false, false, false, false, false, false, false, false, false, true, false, false, false] rfl rfl (by kernel_rfl) (fun _ _ _ h => h) (Or.inl ⟨by rfl, ?_⟩) hHeld ?_ ?_
        rotate_left
        · rintro w' ⟨s0, s1, s2, s3, s4, s5, s6, s7, s8, s9, s10, s11, s12, s13, s14, s15, s16, s17⟩
          go_simp
          with_reducible rfl
        rotate_left
        · simp only [Act.put, List.setIfInBounds_toArray, List.set_cons_zero, List.set_cons_succ, i64_w, i32_w]
          rfl
        refine take_ (i := 3) (N := some 107) (v := ?_) (a' := ?_) #[true, true, true, true, false, false, false, false, false, false, false, false, false, false, false, false, false, true, false, false, false] rfl rfl (by kernel_rfl) (fun _ _ _ h => h) (Or.inl ⟨by rfl, ?_⟩) hHeld ?_ ?_
        rotate_left
        · rintro w' ⟨s0, s1, s2, s3, s4, s5, s6, s7, s8, s9, s10, s11, s12, s13, s14, s15, s16, s17⟩
          go_simp
          with_reducible rfl
        rotate_left
        · simp only [Act.put, List.setIfInBounds_toArray, List.set_cons_zero, List.set_cons_succ, i64_w, i32_w]
          rfl
        refine take_ (i := 4) (N := some 108) (v := ?_) (a' := ?_) #[true, true, true, true, true, false, false, false, false, false, false, false, false, false, false, false, false, true, false, false, false] rfl rfl (by kernel_rfl) (fun _ _ _ h => h) (Or.inl ⟨by rfl, ?_⟩) hHeld ?_ ?_
        rotate_left
        · rintro w' ⟨s0, s1, s2, s3, s4, s5, s6, s7, s8, s9, s10, s11, s12, s13, s14, s15, s16, s17⟩
          go_simp
          with_reducible rfl
        rotate_left
        · simp only [Act.put, List.setIfInBounds_toArray, List.set_cons_zero, List.set_cons_succ, i64_w, i32_w]
          rfl
        refine take_ (i := 5) (N := some 109) (v := ?_) (a' := ?_) #[true, true, true, true, true, true, false, false, false, false, false, false, false, false, false, false, false, true, false, false, false] rfl rfl (by kernel_rfl) (fun _ _ _ h => h) (Or.inl ⟨by rfl, ?_⟩) hHeld ?_ ?_
        rotate_left
        · rintro w' ⟨s0, s1, s2, s3, s4, s5, s6, s7, s8, s9, s10, s11, s12, s13, s14, s15, s16, s17⟩
          go_simp
          with_reducible rfl
        rotate_left
        · simp only [Act.put, List.setIfInBounds_toArray, List.set_cons_zero, List.set_cons_succ, i64_w, i32_w]
          rfl
        refine take_ (i := 6) (N := some 110) (v := ?_) (a' := ?_) #[true, true, true, true, true, true, true, false, false, false, false, false, false, false, false, false, false, true, false, false, false] rfl rfl (by kernel_rfl) (fun _ _ _ h => h) (Or.inl ⟨by rfl, ?_⟩) hHeld ?_ ?_
        rotate_left
        · rintro w' ⟨s0, s1, s2, s3, s4, s5, s6, s7, s8, s9, s10, s11, s12, s13, s14, s15, s16, s17⟩
          go_simp
          with_reducible rfl
        rotate_left
        · simp only [Act.put, List.setIfInBounds_toArray, List.set_cons_zero, List.set_cons_succ, i64_w, i32_w]
          rfl
        refine take_ (i := 7) (N := some 111) (v := ?_) (a' := ?_) #[true, true, true, true, true, true, true, true, false, false, false, false, false, false, false, false, false, true, false, false, false] rfl rfl (by kernel_rfl) (fun _ _ _ h => h) (Or.inl ⟨by rfl, ?_⟩) hHeld ?_ ?_
        rotate_left
        · rintro w' ⟨s0, s1, s2, s3, s4, s5, s6, s7, s8, s9, s10, s11, s12, s13, s14, s15, s16, s17⟩
          go_simp
          with_reducible rfl
        rotate_left
        · simp only [Act.put, List.setIfInBounds_toArray, List.set_cons_zero, List.set_cons_succ, i64_w, i32_w]
          rfl
        refine take_ (i := 8) (N := some 112) (v := ?_) (a' := ?_) #[true, true, true, true, true, true, true, true, true, false, false, false, false, false, false, false, false, true, false, false, false] rfl rfl (by kernel_rfl) (fun _ _ _ h => h) (Or.inl ⟨by rfl, ?_⟩) hHeld ?_ ?_
        rotate_left
        · rintro w' ⟨s0, s1, s2, s3, s4, s5, s6, s7, s8, s9, s10, s11, s12, s13, s14, s15, s16, s17⟩
          go_simp
          with_reducible rfl
        rotate_left
        · simp only [Act.put, List.setIfInBounds_toArray, List.set_cons_zero, List.set_cons_succ, i64_w, i32_w]
          rfl
        refine take_ (i := 9) (N := some 113) (v := ?_) (a' := ?_) #[true, true, true, true, true, true, true, true, true, true, false, false, false, false, false, false, false, true, false, false, false] rfl rfl (by kernel_rfl) (fun _ _ _ h => h) (Or.inl ⟨by rfl, ?_⟩) hHeld ?_ ?_
        rotate_left
        · rintro w' ⟨s0, s1, s2, s3, s4, s5, s6, s7, s8, s9, s10, s11, s12, s13, s14, s15, s16, s17⟩
          go_simp
          with_reducible rfl
        rotate_left
        · simp only [Act.put, List.setIfInBounds_toArray, List.set_cons_zero, List.set_cons_succ, i64_w, i32_w]
          rfl
        refine take_ (i := 10) (N := some 114) (v := ?_) (a' := ?_) #[true, true, true, true, true, true, true, true, true, true, true, false, false, false, false, false, false, true, false, false, false] rfl rfl (by kernel_rfl) (fun _ _ _ h => h) (Or.inl ⟨by rfl, ?_⟩) hHeld ?_ ?_
        rotate_left
        · rintro w' ⟨s0, s1, s2, s3, s4, s5, s6, s7, s8, s9, s10, s11, s12, s13, s14, s15, s16, s17⟩
          go_simp
          with_reducible rfl
        rotate_left
        · simp only [Act.put, List.setIfInBounds_toArray, List.set_cons_zero, List.set_cons_succ, i64_w, i32_w]
          rfl
        refine take_ (i := 11) (N := some 115) (v := ?_) (a' := ?_) #[true, true, true, true, true, true, true, true, true, true, true, true, false, false, false, false, false, true, false, false, false] rfl rfl (by kernel_rfl) (fun _ _ _ h => h) (Or.inl ⟨by rfl, ?_⟩) hHeld ?_ ?_
        rotate_left
        · rintro w' ⟨s0, s1, s2, s3, s4, s5, s6, s7, s8, s9, s10, s11, s12, s13, s14, s15, s16, s17⟩
          go_simp
          with_reducible rfl
        rotate_left
        · simp only [Act.put, List.setIfInBounds_toArray, List.set_cons_zero, List.set_cons_succ, i64_w, i32_w]
          rfl
        refine take_ (i := 12) (N := some 116) (v := ?_) (a' := ?_) #[true, true, true, true, true, true, true, true, true, true, true, true, true, false, false, false, false, true, false, false, false] rfl rfl (by kernel_rfl) (fun _ _ _ h => h) (Or.inl ⟨by rfl, ?_⟩) hHeld ?_ ?_
        rotate_left
        · rintro w' ⟨s0, s1, s2, s3, s4, s5, s6, s7, s8, s9, s10, s11, s12, s13, s14, s15, s16, s17⟩
          go_simp
          with_reducible rfl
        rotate_left
        · simp only [Act.put, List.setIfInBounds_toArray, List.set_cons_zero, List.set_cons_succ, i64_w, i32_w]
          rfl
        refine take_ (i := 13) (N := some 117) (v := ?_) (a' := ?_) #[true, true, true, true, true, true, true, true, true, true, true, true, true, true, false, false, false, true, false, false, false] rfl rfl (by kernel_rfl) (fun _ _ _ h => h) (Or.inl ⟨by rfl, ?_⟩) hHeld ?_ ?_
        rotate_left
        · rintro w' ⟨s0, s1, s2, s3, s4, s5, s6, s7, s8, s9, s10, s11, s12, s13, s14, s15, s16, s17⟩
          go_simp
          with_reducible rfl
        rotate_left
        · simp only [Act.put, List.setIfInBounds_toArray, List.set_cons_zero, List.set_cons_succ, i64_w, i32_w]
          rfl
        refine take_ (i := 14) (N := some 118) (v := undef) (a' := ?_) #[true, true, true, true, true, true, true, true, true, true, true, true, true, true, true, false, false, true, false, false, false] rfl rfl (by kernel_rfl) (fun _ _ _ h => h) (Or.inr ⟨by rfl, rfl⟩) hHeld ?_ ?_
        rotate_left
        · simp only [Act.put, List.setIfInBounds_toArray, List.set_cons_zero, List.set_cons_succ, i64_w, i32_w]
          rfl
        refine take_ (i := 15) (N := some 119) (v := undef) (a' := ?_) #[true, true, true, true, true, true, true, true, true, true, true, true, true, true, true, true, false, true, false, false, false] rfl rfl (by kernel_rfl) (fun _ _ _ h => h) (Or.inr ⟨by rfl, rfl⟩) hHeld ?_ ?_
        rotate_left
        · simp only [Act.put, List.setIfInBounds_toArray, List.set_cons_zero, List.set_cons_succ, i64_w, i32_w]
          rfl
        refine take_ (i := 16) (N := some 120) (v := ?_) (a' := ?_) #[true, true, true, true, true, true, true, true, true, true, true, true, true, true, true, true, true, true, false, false, false] rfl rfl (by kernel_rfl) (fun _ _ _ h => h) (Or.inl ⟨by rfl, ?_⟩) hHeld ?_ ?_
        rotate_left
        · rintro w' ⟨s0, s1, s2, s3, s4, s5, s6, s7, s8, s9, s10, s11, s12, s13, s14, s15, s16, s17⟩
          go_simp
          with_reducible rfl
        rotate_left
        · simp only [Act.put, List.setIfInBounds_toArray, List.set_cons_zero, List.set_cons_succ, i64_w, i32_w]
          rfl
        refine one_ (i := 18) (N := none) #[true, true, true, true, true, true, true, true, true, true, true, true, true, true, true, true, true, true, true, false, false] rfl rfl (by kernel_rfl) (by decide) (fun K hK => ?_)
        have r0 := (blk_cell BK2.out 0).trans (show _ = some (.int .i64 0) from rfl)
        have rf0 := blk_frozen BK2.out 0
        have r1 := (blk_cell BK2.out 1).trans (show _ = some (.int .i64 0) from rfl)
        have rf1 := blk_frozen BK2.out 1
        have r2 := (blk_cell BK2.out 2).trans (show _ = some (.int .i64 0) from rfl)
        have rf2 := blk_frozen BK2.out 2
        have r3 := (blk_cell BK2.out 3).trans (show _ = some (.int .i64 0) from rfl)
        have rf3 := blk_frozen BK2.out 3
        have r4 := (blk_cell BK2.out 4).trans (show _ = some (.int .i64 0) from rfl)
        have rf4 := blk_frozen BK2.out 4
        have r5 := (blk_cell BK2.out 5).trans (show _ = some (.int .i64 0) from rfl)
        have rf5 := blk_frozen BK2.out 5
        have r6 := (blk_cell BK2.out 6).trans (show _ = some (.int .i64 0) from rfl)
        have rf6 := blk_frozen BK2.out 6
        have r7 := (blk_cell BK2.out 7).trans (show _ = some (.int .i64 0) from rfl)
        have rf7 := blk_frozen BK2.out 7
        refine skip_ (w1 := put8 w17 g2 (.int .i64 v1) (.int .i64 v2) (.int .i64 v3) (.int .i64 v4) (.int .i64 v5) (.int .i64 v6) (.int .i64 na) (.int .i64 z)) (by rfl) rfl ?_ ?_
        · go_simp
          rfl
        have BK9 := Aside0.mk (put8_blk BK2.out (.int .i64 v1) (.int .i64 v2) (.int .i64 v3) (.int .i64 v4) (.int .i64 v5) (.int .i64 v6) (.int .i64 na) (.int .i64 z))
        have GW9 := Aside0.mk (put8_grown w17 g2 (.int .i64 v1) (.int .i64 v2) (.int .i64 v3) (.int .i64 v4) (.int .i64 v5) (.int .i64 v6) (.int .i64 na) (.int .i64 z))
        have FB9 := Aside0.mk (FB2.out.grown GW9.out (below_size FB2.out) (fun q hq => by cases hq; exact GR.out))
        clear r0 rf0 r1 rf1 r2 rf2 r3 rf3 r4 rf4 r5 rf5 r6 rf6 r7 rf7
        refine hK.out _ _ ⟨(World.grownBy.cell GW9.out (hHeld.1) NE6.out), (World.grownBy.cell GW9.out (hHeld.2.1) NE6.out), (World.grownBy.cell GW9.out (hHeld.2.2.1) NE6.out), (World.grownBy.cell GW9.out (hHeld.2.2.2.1) NE6.out), (World.grownBy.cell GW9.out (hHeld.2.2.2.2.1) NE6.out), (World.grownBy.cell GW9.out (hHeld.2.2.2.2.2.1) NE6.out), (World.grownBy.cell GW9.out (hHeld.2.2.2.2.2.2.1) NE6.out), (World.grownBy.cell GW9.out (hHeld.2.2.2.2.2.2.2.1) NE6.out), (World.grownBy.cell GW9.out (hHeld.2.2.2.2.2.2.2.2.1) NE9.out), (World.grownBy.cell GW9.out (hHeld.2.2.2.2.2.2.2.2.2.1) NE9.out), (World.grownBy.cell GW9.out (hHeld.2.2.2.2.2.2.2.2.2.2.1) NE9.out), (World.grownBy.cell GW9.out (hHeld.2.2.2.2.2.2.2.2.2.2.2.1) NE9.out), (World.grownBy.cell GW9.out (hHeld.2.2.2.2.2.2.2.2.2.2.2.2.1) NE9.out), (World.grownBy.cell GW9.out (hHeld.2.2.2.2.2.2.2.2.2.2.2.2.2.1) NE9.out), (World.grownBy.cell GW9.out (hHeld.2.2.2.2.2.2.2.2.2.2.2.2.2.2.1) NE9.out), (World.grownBy.cell GW9.out (hHeld.2.2.2.2.2.2.2.2.2.2.2.2.2.2.2.1) NE9.out), (World.grownBy.cell GW9.out (hHeld.2.2.2.2.2.2.2.2.2.2.2.2.2.2.2.2.1) NE12.out), (World.grownBy.cell GW9.out (hHeld.2.2.2.2.2.2.2.2.2.2.2.2.2.2.2.2.2) NE12.out)⟩ (fun hHeld => ?_)
        clear hK K
        generalize put8 w17 g2 (.int .i64 v1) (.int .i64 v2) (.int .i64 v3) (.int .i64 v4) (.int .i64 v5) (.int .i64 v6) (.int .i64 na) (.int .i64 z) = w19 at BK9 FB9 hHeld ⊢
        refine take_ (i := 19) (N := some 3) (v := ?_) (a' := ?_) #[true, true, true, true, true, true, true, true, true, true, true, true, true, true, true, true, true, true, true, true, false] rfl rfl (by kernel_rfl) (fun _ _ _ h => h) (Or.inl ⟨by rfl, ?_⟩) hHeld ?_ ?_
        rotate_left
        · rintro w' ⟨s0, s1, s2, s3, s4, s5, s6, s7, s8, s9, s10, s11, s12, s13, s14, s15, s16, s17⟩
          go_simp
          with_reducible rfl
        rotate_left
        · simp only [Act.put, List.setIfInBounds_toArray, List.set_cons_zero, List.set_cons_succ, i64_w, i32_w]
          rfl
        refine take_ (i := 20) (N := some 4) (v := ?_) (a' := ?_) #[true, true, true, true, true, true, true, true, true, true, true, true, true, true, true, true, true, true, true, true, true] rfl rfl (by kernel_rfl) (fun _ _ _ h => h) (Or.inl ⟨by rfl, ?_⟩) hHeld ?_ ?_
        rotate_left
        · rintro w' ⟨s0, s1, s2, s3, s4, s5, s6, s7, s8, s9, s10, s11, s12, s13, s14, s15, s16, s17⟩
          go_simp
          with_reducible rfl
        rotate_left
        · simp only [Act.put, List.setIfInBounds_toArray, List.set_cons_zero, List.set_cons_succ, i64_w, i32_w]
          rfl
        refine done_ (by kernel_rfl) ?_
        try go_wp2
        refine bodyPost_ret (results_ctt rfl _ _ g2 44 #[.int .i64 v1, .int .i64 v2, .int .i64 v3, .int .i64 v4, .int .i64 v5, .int .i64 v6, .int .i64 na, .int .i64 z] (0, 0) _ rfl BK9.out Try.underlying44 rfl (by kernel_rfl)) rfl ?_
        exact ⟨by first | rfl | (simp [HLE.out]; done) | (simp [HLE.out]; rfl), FB9.out⟩
def x1L (l : List Int) : List Int := figL 4 l
def x2L (l : List Int) : List Int := figL 2 (x1L l)
def x3L (l : List Int) : List Int := figL 2 (x2L l)
def x4L (l : List Int) : List Int := figL 2 (x3L l)
def x5L (l : List Int) : List Int := figL 2 (x4L l)
def x6L (l : List Int) : List Int := figL 2 (x5L l)
def x6O (l : List Int) : Bool := (((((true && figO 4 l) && figO 2 (x1L l)) && figO 2 (x2L l)) && figO 2 (x3L l)) && figO 2 (x4L l)) && figO 2 (x5L l)
def xN (l : List Int) : Nat := gN 10 ((x6L l).drop 1)
def x8L (l : List Int) : List Int := if nextB 46 (x6L l) = true then ((x6L l).drop 1).drop (xN l) else x6L l
def x8O (l : List Int) : Bool := if nextB 46 (x6L l) = true then (x6O l && decide (0 < xN l) && decide (xN l < 10) && decide (0 < lastI ((x6L l).drop 1) (xN l))) else x6O l
def naI (l : List Int) : Int := if nextB 46 (x6L l) = true then figV (((x6L l).drop 1).take (xN l)) * 10 ^ (9 - xN l) else 0
def genOk (l : List Int) : Bool := zoneO (x8O l) (x8L l) && (zoneL (x8L l)).isEmpty && rightB (figN 4 l) (figN 2 (x1L l)) (figN 2 (x2L l)) (figN 2 (x3L l)) (figN 2 (x4L l)) (figN 2 (x5L l)) (naI l) 0
theorem Generalized_any (A0 : Option Addr) (c0 : Nat) (l : List Int) (w : World) (hr0 : Kd.C (Kd.int .u8) w A0 l.length l) (hc0 : l.length ≤ c0) (hby : bytesIn l) :
    Calls Try.prog 28 #[.slice A0 l.length c0] w (UtcTo w (figN 4 l) (figN 2 (x1L l)) (figN 2 (x2L l)) (figN 2 (x3L l)) (figN 2 (x4L l)) (figN 2 (x5L l)) (naI l) (zoneV (x8L l)) (genOk l) (zoneT (x8L l))) :=
  Gen_core A0 c0 l (x1L l) (x2L l) (x3L l) (x4L l) (x5L l) (x6L l) ((x6L l).drop 1) (x8L l) _ _ _ _ _ _ (x6O l) (x8O l) _ _ _ _ _ _ _ _ (naI l) _ (xN l) w hr0 hc0 hby rfl rfl rfl rfl rfl rfl rfl rfl rfl rfl rfl rfl rfl rfl rfl rfl rfl rfl (fun h => ⟨rfl, rfl, if_pos h, if_pos h, if_pos h⟩) (fun h => ⟨if_neg (by rw [h]; decide), if_neg (by rw [h]; decide), if_neg (by rw [h]; decide)⟩) rfl rfl rfl rfl
end

def spec_Generalized.f (l0 : List Int) : Option (Int × Int × Int × Int × Int × Int × Int × Int × Bool × Bool) := if (∀ x, x ∈ l0 → 0 ≤ x ∧ x ≤ 255) then some (figN 4 l0, figN 2 (x1L l0), figN 2 (x2L l0), figN 2 (x3L l0), figN 2 (x4L l0), figN 2 (x5L l0), naI l0, zoneV (x8L l0), genOk l0, zoneT (x8L l0)) else none
theorem spec_Generalized.calls (A0 : Option Addr) (c0 : Nat) (l0 : List Int) (r1 : Int) (r2 : Int) (r3 : Int) (r4 : Int) (r5 : Int) (r6 : Int) (r7 : Int) (r8 : Int) (r9 : Bool) (r10 : Bool) (w : World) (hr0 : Kd.C (Kd.int .u8) w A0 l0.length l0) (hc0 : l0.length ≤ c0) (h : spec_Generalized.f l0 = some (r1, r2, r3, r4, r5, r6, r7, r8, r9, r10)) :
    Calls Try.prog 28 #[.slice A0 l0.length c0] w fun e w' => e = .returned (.tuple #[.agg #[.int .i64 r1, .int .i64 r2, .int .i64 r3, .int .i64 r4, .int .i64 r5, .int .i64 r6, .int .i64 r7, .int .i64 r8], .bool r9, .bool r10]) ∧ Below w.heap.size w w' := by
  unfold spec_Generalized.f at h
  by_cases hb : (∀ x, x ∈ l0 → 0 ≤ x ∧ x ≤ 255)
  · rw [if_pos hb] at h
    simp only [Option.some.injEq, Prod.mk.injEq] at h
    obtain ⟨rfl, rfl, rfl, rfl, rfl, rfl, rfl, rfl, rfl, rfl⟩ := h
    exact Generalized_any A0 c0 l0 w hr0 hc0 hb
  · rw [if_neg hb] at h
    cases h

end Go.Proofs.Ytmiemfgcggkbnaa.QG
