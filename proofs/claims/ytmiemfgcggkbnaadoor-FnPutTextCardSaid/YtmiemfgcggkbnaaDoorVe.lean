/- The error values, and parseBMPString, walked. -/
import Derived.Test.YtmiemfgcggkbnaaDoorVa
import Derived.Laws.MakeOwn
import Derived.Laws.Cover4
import Derived.Lib.ValidAsc
import Derived.Lib.ValidLaws
import Derived.Lib.EndianBits
import Derived.Shelf.Unicode.DecodeSlow
import Derived.Laws.BitsAllLaws
namespace Go.Proofs.YtmiemfgcggkbnaaDoor.QT
open Go.BigFrame
open Go.RowKit Go.Proofs.YtmiemfgcggkbnaaDoorW.PrintWords Go.Proofs.YtmiemfgcggkbnaaDoorW.PrintLast Go.Proofs.YtmiemfgcggkbnaaDoorW.PrintMore
set_option linter.unusedVariables false
set_option linter.unusedSimpArgs false
theorem rd_mem {l : List Int} {k : Nat} (h : k < l.length) : rd l (k : Int) ∈ l := by
  unfold rd
  rw [Int.toNat_natCast, List.getD_eq_getElem?_getD, List.getElem?_eq_getElem h]
  exact List.getElem_mem h
theorem rd_take' (l : List Int) (k : Nat) (hk : k < l.length) : l.take (k + 1) = l.take k ++ [rd l (k : Int)] := by
  rw [List.take_succ_eq_append_getElem hk]
  unfold rd
  rw [Int.toNat_natCast, List.getD_eq_getElem?_getD, List.getElem?_eq_getElem hk]
  rfl
def NewErr (w : World) (e : Ending) (w' : World) : Prop := ∃ T x, e = .returned (.iface T x) ∧ Below w.heap.size w w'
set_option maxHeartbeats 1000000 in
theorem errors_New_any (s : ByteArray) (w : World) : Calls Tryd.prog 20 #[.string s] w (NewErr w) := by
  have hu := Tryd.underlying61
  go_enter Tryd.func20, Tryd.ntmps20
  go_wp2
  go_ret
  exact ⟨_, _, rfl, (Below.refl _ _).alloc (Nat.le_refl _) _⟩
def TxBad (w : World) (e : Ending) (w' : World) : Prop := ∃ T x, e = .returned (.tuple #[.string (⟨#[]⟩ : ByteArray), .iface T x]) ∧ Below w.heap.size w w'
def TxGood (w : World) (s : ByteArray) (e : Ending) (w' : World) : Prop := e = .returned (.tuple #[.string s, .nilIface]) ∧ Below w.heap.size w w'
/-- The numbers of two bytes each. -/
def pts : List Int → List Int
  | a :: b :: r => (a * 256 + b) :: pts r
  | _ => []
def okP (p : Int) : Bool := !(decide (p = 65534) || decide (p = 65535) || decide (64976 ≤ p ∧ p ≤ 65007) || decide (55296 ≤ p ∧ p ≤ 57343))
def cutZ (l : List Int) : List Int := if 2 ≤ l.length ∧ rd l ((l.length : Int) - 1) = 0 ∧ rd l ((l.length : Int) - 2) = 0 then l.take (l.length - 2) else l
theorem info21 : (Tryd.prog.info? 21).map (fun i => (i.zero, i.size, i.bytes)) = some (some (.int .i32 0), 1, 4) := by kernel_rfl
theorem pts_len : ∀ l : List Int, 2 * (pts l).length ≤ l.length
  | [] => by simp [pts]
  | [a] => by simp [pts]
  | a :: b :: r => by
    have := pts_len r
    simp only [pts, List.length_cons]
    omega
theorem pts_snoc : ∀ (l : List Int) (k : Nat), 2 * k + 2 ≤ l.length → pts (l.take (2 * k + 2)) = pts (l.take (2 * k)) ++ [rd l ((2 * k : Nat) : Int) * 256 + rd l ((2 * k + 1 : Nat) : Int)]
  | l, 0, h => by
    match l, h with
    | a :: b :: r, _ => rfl
  | l, k + 1, h => by
    match l, h with
    | a :: b :: r, h =>
      have hr : 2 * k + 2 ≤ r.length := by simp at h; omega
      have ih := pts_snoc r k hr
      have e1 : (a :: b :: r).take (2 * (k + 1) + 2) = a :: b :: r.take (2 * k + 2) := by rw [show 2 * (k + 1) + 2 = (2 * k + 2) + 1 + 1 by omega]; rfl
      have e2 : (a :: b :: r).take (2 * (k + 1)) = a :: b :: r.take (2 * k) := by rw [show 2 * (k + 1) = (2 * k) + 1 + 1 by omega]; rfl
      rw [e1, e2]
      simp only [pts]
      rw [ih]
      have r0 : rd (a :: b :: r) ((2 * (k + 1) : Nat) : Int) = rd r ((2 * k : Nat) : Int) := by
        unfold rd
        rw [Int.toNat_natCast, Int.toNat_natCast, show 2 * (k + 1) = (2 * k) + 1 + 1 by omega]
        rfl
      have r1 : rd (a :: b :: r) ((2 * (k + 1) + 1 : Nat) : Int) = rd r ((2 * k + 1 : Nat) : Int) := by
        unfold rd
        rw [Int.toNat_natCast, Int.toNat_natCast, show 2 * (k + 1) + 1 = (2 * k + 1) + 1 + 1 by omega]
        rfl
      rw [r0, r1]
      rfl
theorem rd_dropN (l : List Int) (n j : Nat) : rd (l.drop n) (j : Int) = rd l ((n + j : Nat) : Int) := by
  unfold rd
  rw [Int.toNat_natCast, Int.toNat_natCast, List.getD_eq_getElem?_getD, List.getD_eq_getElem?_getD, List.getElem?_drop]
theorem rune_room (W : World) (base n : Nat) (hn : n ≤ 100000) (hb : base ≤ W.heap.size) : ∃ w1, (Instr.makeSlice 66 (.int .i64 0) (.int .i64 (n : Int))).run Tryd.prog W = .ok (.slice (some ⟨W.heap.size, 0, none⟩) 0 n) w1 ∧ Kd.R (Kd.int .i32) 21 w1 base (fun _ => True) (.slice (some ⟨W.heap.size, 0, none⟩) 0 n) [] ∧ W.grownBy w1 none := by
  obtain ⟨i0, hi0, hz, hsz, hby⟩ := info_parts info21
  obtain ⟨w1, h1, h2, h3⟩ := run_make_own (P := Tryd.prog) W base 66 21 i0 _ 1 Tryd.underlying66 hi0 hz hsz .i64 .i64 n (by rw [hby]; omega) (by unfold maxLen; omega) hb
  exact ⟨w1, h1, ⟨fun _ _ => trivial, [], h2, Reps.none _ _⟩, h3⟩
theorem runes_conv {W : World} {A : Option Addr} {c : Nat} {O : List Int} (h : Kd.C (Kd.int .i32) W A O.length O) : (convert 66 9 (.slice A O.length c)).run Tryd.prog W = .ok (.string (runesBytes O)) W := by
  cases A with
  | none =>
    have h0 : O = [] := by
      cases O with
      | nil => rfl
      | cons x r =>
        obtain ⟨ad, he, _⟩ := Kd.at_int h 0 (by omega) (by simp)
        cases he
    subst h0
    rw [run_convert_runes_nil W 66 9 21 _ c Tryd.underlying66 Tryd.underlying21 Tryd.underlying9]
    rfl
  | some a =>
    have hr := run_convert_runes (P := Tryd.prog) W 66 9 21 a O.length c O (Nat.le_refl _) Tryd.underlying66 Tryd.underlying21 Tryd.underlying9 (fun j hj => by
      obtain ⟨ad, he, hc⟩ := Kd.at_int h (j : Int) (by omega) (by omega)
      cases he
      rw [Int.toNat_natCast] at hc
      rw [hc]
      unfold rd
      rw [Int.toNat_natCast])
    rw [List.take_length] at hr
    exact hr
theorem cut_h24 (A : Option Addr) (n c : Nat) (j : Nat) (hm : j ≤ n) (hc : n ≤ c) : ∀ W : World, (Instr.slice 24 (.slice A n c) none (some (.int .i64 (j : Int))) none).run Tryd.prog W = .ok (.slice A j c) W := by
  intro W
  obtain ⟨i0, hi0, _, hsz, _⟩ := info_parts info5
  have h := cut_to 24 5 .i64 Tryd.underlying24 hi0 A n c (j : Int) (by omega) (by omega) hc W
  simpa using h
theorem pts_mem : ∀ (l : List Int) (n : Nat) (p : Int), p ∈ pts (l.take n) → p ∈ pts l
  | _, 0, p, h => by simp [pts] at h
  | [], n + 1, p, h => by simp [pts] at h
  | [a], n + 1, p, h => by
    have : (List.take (n + 1) [a]) = [a] := by simp
    rw [this] at h
    exact h
  | a :: b :: r, 1, p, h => by simp [pts] at h
  | a :: b :: r, n + 2, p, h => by
    have e : (a :: b :: r).take (n + 2) = a :: b :: r.take n := rfl
    rw [e] at h
    simp only [pts, List.mem_cons] at h ⊢
    rcases h with h | h
    · exact .inl h
    · exact .inr (pts_mem r n p h)
theorem bmp_yes {w w' : World} {m : List Int} {e : Ending} (h : (pts m).all okP = true) (g : TxGood w (runesBytes (pts m)) e w') : if (pts m).all okP = true then TxGood w (runesBytes (pts m)) e w' else TxBad w e w' := by
  rw [if_pos h]
  exact g
theorem bmp_no {w w' : World} {m : List Int} {e : Ending} (h : ¬ (pts m).all okP = true) (g : TxBad w e w') : if (pts m).all okP = true then TxGood w (runesBytes (pts m)) e w' else TxBad w e w' := by
  rw [if_neg h]
  exact g
set_option maxHeartbeats 4000000 in
set_option maxRecDepth 100000 in
theorem BMP_odd (A0 : Option Addr) (c0 : Nat) (l : List Int) (w : World) (ho : l.length % 2 = 1) (hl : l.length ≤ 10000) : Calls Tryd.prog 27 #[.slice A0 l.length c0] w (TxBad w) := by
  have HB0 := Aside0.mk (Below.refl w.heap.size w)
  obtain ⟨n, hn⟩ : ∃ n, n = l.length := ⟨_, rfl⟩
  rw [← hn] at ho hl ⊢
  have t1 : (((n : Int) % 2) != 0) = true := bne_iff_ne.mpr (by omega)
  have t1n : ((n % 2) != 0) = true := bne_iff_ne.mpr (by omega)
  have t1t : (((n : Int).tmod 2) != 0) = true := bne_iff_ne.mpr (by rw [Int.tmod_eq_emod_of_nonneg (by omega)]; omega)
  clear hn ho
  go_enter Tryd.func27, Tryd.ntmps27
  go_wp2_with (go_at_call 20; (with_reducible refine (errors_New_any _ _).mono ?_); rintro e w2 ⟨T, x, rfl, hb⟩; have HB2 := Aside0.mk hb; clear hb)
  go_ret2
  exact ⟨T, x, rfl, HB2.out⟩
set_option maxHeartbeats 16000000 in
set_option maxRecDepth 100000 in
theorem BMP_even (A0 : Option Addr) (c0 : Nat) (l m : List Int) (w : World) (hr0 : Kd.C (Kd.int .u8) w A0 l.length l) (hc0 : l.length ≤ c0) (hby : bytesIn l) (he : l.length % 2 = 0) (hl : l.length ≤ 10000) (hm : m = cutZ l) :
    Calls Tryd.prog 27 #[.slice A0 l.length c0] w (fun e w' => if (pts m).all okP = true then TxGood w (runesBytes (pts m)) e w' else TxBad w e w') := by
  have HB0 := Aside0.mk (Below.refl w.heap.size w)
  have HR := Aside0.mk hr0
  have HC := Aside0.mk hc0
  have HY := Aside0.mk hby
  have HM := Aside0.mk hm
  have HE := Aside0.mk he
  obtain ⟨n, hn⟩ : ∃ n, n = l.length := ⟨_, rfl⟩
  have HN := Aside0.mk hn
  rw [← hn] at he hl hc0 ⊢
  have t1 : (((n : Int) % 2) != 0) = false := bne_eq_false_iff_eq.mpr (by omega)
  have t1n : ((n % 2) != 0) = false := bne_eq_false_iff_eq.mpr (by omega)
  have t1t : (((n : Int).tmod 2) != 0) = false := bne_eq_false_iff_eq.mpr (by rw [Int.tmod_eq_emod_of_nonneg (by omega)]; omega)
  have HML := Aside0.mk (show m.length % 2 = 0 ∧ m.length ≤ 10000 from by
    rw [hm]
    unfold cutZ
    split
    · rw [List.length_take]; omega
    · omega)
  have HYM := Aside0.mk (show bytesIn m from by
    rw [hm]
    unfold cutZ
    split
    · exact fun x hx => hby x (List.mem_of_mem_take hx)
    · exact hby)
  clear hr0 hby hm hn
  go_enter Tryd.func27, Tryd.ntmps27
  obtain ⟨zz, hzz⟩ : ∃ zz : Bool, zz = decide (2 ≤ l.length ∧ rd l ((l.length : Int) - 1) = 0 ∧ rd l ((l.length : Int) - 2) = 0) := ⟨_, rfl⟩
  have EZ := Aside0.mk hzz
  clear hzz
  go_upto_region 4 with (fail)
  (try simp only [Act.put, List.setIfInBounds_toArray, List.set_cons_zero, List.set_cons_succ])
  go_cut [31] (fun v31 wc => v31 = .bool zz ∧ w = wc)
  case first =>
    by_cases h2 : 2 ≤ n
    · have t2 : decide (2 ≤ (n : Int)) = true := decide_eq_true (by omega)
      have t2n : decide (2 ≤ n) = true := decide_eq_true h2
      obtain ⟨ad, hA, hx1⟩ := Kd.at_int HR.out ((n - 1 : Nat) : Int) (by omega) (by rw [← HN.out]; omega)
      obtain ⟨ad', hA', hx2⟩ := Kd.at_int HR.out ((n - 2 : Nat) : Int) (by omega) (by rw [← HN.out]; omega)
      rw [hA] at hA'
      cases hA'
      rw [Int.toNat_natCast] at hx1 hx2
      obtain ⟨x1, hX1⟩ : ∃ x, x = rd l ((n - 1 : Nat) : Int) := ⟨_, rfl⟩
      obtain ⟨x2, hX2⟩ : ∃ x, x = rd l ((n - 2 : Nat) : Int) := ⟨_, rfl⟩
      rw [← hX1] at hx1
      rw [← hX2] at hx2
      have EX1 := Aside0.mk (show x1 = rd l ((l.length : Int) - 1) from by rw [← HN.out, hX1]; congr 1; omega)
      have EX2 := Aside0.mk (show x2 = rd l ((l.length : Int) - 2) from by rw [← HN.out, hX2]; congr 1; omega)
      have HN2 := Aside0.mk (show 2 ≤ l.length from by rw [← HN.out]; exact h2)
      have p1 : (n - 1 < n) = True := eq_true (by omega)
      have p2 : (n - 2 < n) = True := eq_true (by omega)
      have p3 : ((n : Int) - 1 < (n : Int)) = True := eq_true (by omega)
      have p4 : ((n : Int) - 2 < (n : Int)) = True := eq_true (by omega)
      have p5 : ((0 : Int) ≤ (n : Int) - 1) = True := eq_true (by omega)
      have p6 : ((0 : Int) ≤ (n : Int) - 2) = True := eq_true (by omega)
      clear hX1 hX2
      subst hA
      by_cases z1 : x1 = 0
      · by_cases z2 : x2 = 0
        · have q1 : (x1 == 0) = true := beq_iff_eq.mpr z1
          have q2 : (x2 == 0) = true := beq_iff_eq.mpr z2
          have HT := Aside0.mk (show zz = true from by rw [EZ.out]; exact decide_eq_true ⟨HN2.out, by rw [← EX1.out]; exact z1, by rw [← EX2.out]; exact z2⟩)
          clear z1 z2
          go_wp2
          go_meet
          case rel => exact ⟨by rw [HT.out], rfl⟩
        · have q1 : (x1 == 0) = true := beq_iff_eq.mpr z1
          have q2 : (x2 == 0) = false := beq_eq_false_iff_ne.mpr z2
          have HT := Aside0.mk (show zz = false from by rw [EZ.out]; exact decide_eq_false (fun h => z2 (by rw [EX2.out]; exact h.2.2)))
          clear z1 z2
          go_wp2
          go_meet
          case rel => exact ⟨by rw [HT.out], rfl⟩
      · have q1 : (x1 == 0) = false := beq_eq_false_iff_ne.mpr z1
        have HT := Aside0.mk (show zz = false from by rw [EZ.out]; exact decide_eq_false (fun h => z1 (by rw [EX1.out]; exact h.2.1)))
        clear z1
        go_wp2
        go_meet
        case rel => exact ⟨by rw [HT.out], rfl⟩
    · have t2 : decide (2 ≤ (n : Int)) = false := decide_eq_false (by omega)
      have t2n : decide (2 ≤ n) = false := decide_eq_false h2
      have HT := Aside0.mk (show zz = false from by rw [EZ.out]; exact decide_eq_false (fun h => h2 (by rw [HN.out]; exact h.1)))
      clear h2
      go_wp2
      go_meet
      case rel => exact ⟨by rw [HT.out], rfl⟩
  case rest =>
  obtain ⟨rfl, rfl⟩ := hcut
  go_upto_if 31 with (fail)
  (try simp only [Act.put, List.setIfInBounds_toArray, List.set_cons_zero, List.set_cons_succ])
  go_cut [0] (fun v0 wc => ∃ (A : Option Addr) (c : Nat), v0 = .slice A m.length c ∧ Aside0 (m.length ≤ c ∧ Kd.C (Kd.int .u8) w A m.length m) ∧ w = wc)
  case first =>
    cases zz with
    | true =>
      have HZ := Aside0.mk (of_decide_eq_true EZ.out.symm)
      have h2 : 2 ≤ n := by rw [HN.out]; exact HZ.out.1
      have e2 : ((n : Int) - 2) = ((n - 2 : Nat) : Int) := by omega
      have hcut := cut_h24 A0 n c0 (n - 2) (by omega) hc0
      have hcut' : ∀ W : World, (Instr.slice 24 (.slice A0 n c0) none (some (.int .i64 ((n : Int) - 2))) none).run Tryd.prog W = .ok (.slice A0 (n - 2) c0) W := by rw [e2]; exact hcut
      have HT := Aside0.mk (show m = l.take (n - 2) from by
        rw [HM.out]
        unfold cutZ
        rw [if_pos HZ.out, HN.out])
      have HLN := Aside0.mk (show m.length = n - 2 from by rw [HT.out, List.length_take, ← HN.out]; omega)
      clear hcut e2
      go_wp2
      go_meet
      case rel => exact ⟨A0, c0, by rw [HLN.out], ⟨by rw [HLN.out]; omega, by have h9 := Kd.C_take (m := n - 2) HR.out (by rw [← HN.out]; omega); rw [← HT.out] at h9; exact h9⟩, rfl⟩
    | false =>
      have HT := Aside0.mk (show m = l from by
        rw [HM.out]
        unfold cutZ
        rw [if_neg (of_decide_eq_false EZ.out.symm)])
      go_wp2
      go_meet
      case rel => exact ⟨A0, c0, by rw [HT.out, ← HN.out], ⟨by rw [HT.out, ← HN.out]; exact hc0, by rw [HT.out]; exact HR.out⟩, rfl⟩
  case rest =>
    obtain ⟨A, c, rfl, HH, rfl⟩ := hcut
    clear t1 t1n t1t HR HC HY HM HE HN
    obtain ⟨k0, hk0⟩ : ∃ k0, m.length = 2 * k0 := ⟨m.length / 2, by have := HML.out.1; omega⟩
    have hml : k0 ≤ 5000 := by have := HML.out.2; omega
    have hq : (2 * (k0 : Int)).tdiv 2 = (k0 : Int) := Int.mul_tdiv_cancel_left _ (by decide)
    have hq2 : (2 * (k0 : Int)) / 2 = (k0 : Int) := by omega
    have hq3 : (((2 * k0 : Nat) : Int)) / 2 = (k0 : Int) := by omega
    have hq4 : (((2 * k0 : Nat) : Int)).tdiv 2 = (k0 : Int) := by rw [show ((2 * k0 : Nat) : Int) = 2 * (k0 : Int) by omega]; exact hq
    have hq5 : 2 * k0 / 2 = k0 := by omega
    have HK0 := Aside0.mk hk0
    rw [hk0] at HH ⊢
    obtain ⟨w1, hmk, ho, hgr⟩ := rune_room w w.heap.size k0 (by omega) (Nat.le_refl _)
    have HB1 := Aside0.mk (show Below w.heap.size w w1 from (Below.refl w.heap.size w).grown hgr (Nat.le_refl _) (fun q hq => by cases hq))
    have HO1 := Aside0.mk ho
    clear ho hgr
    go_upto_block 0 with (fail)
    (try simp only [Act.put, List.setIfInBounds_toArray, List.set_cons_zero, List.set_cons_succ])
    go_wp2
    go_loopg [0, 5] (2 * k0 + 1) (fun gk v0 v5 wr => ∃ (k : Nat) (A : Option Addr) (n c : Nat), v0 = .slice A n c ∧ n + 2 * k = 2 * k0 ∧ n < gk ∧ Aside0 (n ≤ c ∧ Kd.C (Kd.int .u8) w A n (m.drop (2 * k))) ∧ Aside0 (Kd.R (Kd.int .i32) 21 wr w.heap.size (fun _ => True) v5 (pts (m.take (2 * k)))) ∧ Aside0 ((pts (m.take (2 * k))).all okP = true) ∧ Aside0 (Below w.heap.size w wr))
    case atStart => exact ⟨0, A, 2 * k0, c, rfl, by omega, by omega, ⟨HH.out.1, by have := HH.out.2; simpa using this⟩, ⟨HO1.out⟩, ⟨rfl⟩, HB1⟩
    case round =>
      clear hmk HO1 HB1 hq hq2 hq3 hq4 hq5 HH
      obtain ⟨k, A1, n1, c1, rfl, hn1, hg, HH, HO, HA, HB⟩ := hrel
      generalize wr = wd at HO HB ⊢
      rename_i v5_
      by_cases h0 : n1 = 0
      · have HP := Aside0.mk (show m.take (2 * k) = m from by rw [show 2 * k = m.length by rw [HK0.out]; omega]; exact List.take_length)
        have t0 : decide (0 < (n1 : Int)) = false := decide_eq_false (by omega)
        have t0n : decide (0 < n1) = false := decide_eq_false (by omega)
        have HALL := Aside0.mk (show (pts m).all okP = true from by rw [← HP.out]; exact HA.out)
        obtain ⟨O, hO⟩ : ∃ O : List Int, O = pts m := ⟨_, rfl⟩
        obtain ⟨A5, c5, e5, hc5, hr5⟩ := Kd.R_reads (show Kd.R (Kd.int .i32) 21 wd w.heap.size (fun _ => True) _ O from by rw [hO, ← HP.out]; exact HO.out)
        have hcv := runes_conv (c := c5) hr5
        have EO := Aside0.mk hO
        clear hr5 hc5 HO HA hO h0
        subst e5
        go_wp2
        go_ret2
        have fin_ : Ending.returned (.tuple #[.string (runesBytes O), .nilIface]) = Ending.returned (.tuple #[.string (runesBytes (pts m)), .nilIface]) := by rw [EO.out]
        all_goals first
        | exact ⟨fin_, HB.out⟩
        | exact absurd HALL.out (by assumption)
        | exact bmp_yes HALL.out ⟨fin_, HB.out⟩
      obtain ⟨g', rfl⟩ : ∃ g', gk = g' + 1 := ⟨gk - 1, by omega⟩
      have hn2 : 2 ≤ n1 := by omega
      have t0 : decide (0 < (n1 : Int)) = true := decide_eq_true (by omega)
      have t0n : decide (0 < n1) = true := decide_eq_true (by omega)
      have z0 : (0 : Int) < (n1 : Int) := by omega
      have z1 : (1 : Int) < (n1 : Int) := by omega
      obtain ⟨ad, hA, hx0⟩ := Kd.at_int (Kd.C_below HH.out.2 HB.out) 0 (by omega) (by omega)
      obtain ⟨ad', hA', hx1⟩ := Kd.at_int (Kd.C_below HH.out.2 HB.out) 1 (by omega) (by omega)
      rw [hA] at hA'
      cases hA'
      subst hA
      have hx0 : wd.cell? ad = some (.int .u8 (rd m ((2 * k : Nat) : Int))) := by
        have e : rd (m.drop (2 * k)) 0 = rd m ((2 * k : Nat) : Int) := rd_dropN m (2 * k) 0
        rw [← e]
        exact hx0
      have hx1 : wd.cell? ⟨ad.block, ad.off + 1, none⟩ = some (.int .u8 (rd m ((2 * k + 1 : Nat) : Int))) := by
        have e : rd (m.drop (2 * k)) 1 = rd m ((2 * k + 1 : Nat) : Int) := rd_dropN m (2 * k) 1
        rw [← e]
        exact hx1
      have b0 := HYM.out _ (rd_mem (l := m) (k := 2 * k) (by rw [HK0.out]; omega))
      have b1 := HYM.out _ (rd_mem (l := m) (k := 2 * k + 1) (by rw [HK0.out]; omega))
      have HS := Aside0.mk (pts_snoc m k (by rw [HK0.out]; omega))
      obtain ⟨x0, hX0⟩ : ∃ x, x = rd m ((2 * k : Nat) : Int) := ⟨_, rfl⟩
      obtain ⟨x1, hX1⟩ : ∃ x, x = rd m ((2 * k + 1 : Nat) : Int) := ⟨_, rfl⟩
      rw [← hX0] at hx0 b0 HS
      rw [← hX1] at hx1 b1 HS
      clear hX0 hX1
      obtain ⟨p, hp⟩ : ∃ p, p = x0 * 256 + x1 := ⟨_, rfl⟩
      rw [← hp] at HS
      have bp : 0 ≤ p ∧ p ≤ 65535 := by omega
      have EP := Aside0.mk hp
      clear hp
      go_upto_region 8 with (fail)
      (try simp only [Act.put, List.setIfInBounds_toArray, List.set_cons_zero, List.set_cons_succ])
      go_cut [6] (fun v6 wc => v6 = .int .u16 p ∧ ∃ q, wc = wd.drewN q)
      case first =>
        repeat (go_quiet (fail); try go_wp2)
        go_meet
        case rel => exact ⟨congrArg (Value.int .u16) (by rw [EP.out]; first | done | rfl | omega | (simp [IntKind.wrap]; omega)), _, rfl⟩
      case rest =>
        obtain ⟨rfl, nq, rfl⟩ := hcut
        have HB2 := Aside0.mk (pw_below_drewN HB.out nq)
        have HO2 := Aside0.mk (Kd.R_below HO.out (pw_below_drewN (Below.refl _ _) nq))
        generalize wd.drewN nq = w2 at HB2 HO2 ⊢
        clear HB HO hx0 hx1
        go_upto_region 9 with (fail)
        (try simp only [Act.put, List.setIfInBounds_toArray, List.set_cons_zero, List.set_cons_succ])
        go_cut [74] (fun v74 wc => v74 = .bool (!okP p) ∧ w2 = wc)
        case first =>
          by_cases k0 : p ≤ 55295
          case pos =>
            have lo_ : 0 ≤ p := by omega
            have q65534 : (p == 65534) = false := beq_eq_false_iff_ne.mpr (by omega)
            have q65535 : (p == 65535) = false := beq_eq_false_iff_ne.mpr (by omega)
            have q64976 : decide (64976 ≤ p) = false := decide_eq_false (by omega)
            have q55296 : decide (55296 ≤ p) = false := decide_eq_false (by omega)
            have q65007 : decide (p ≤ 65007) = true := decide_eq_true (by omega)
            have q57343 : decide (p ≤ 57343) = true := decide_eq_true (by omega)
            have HP := Aside0.mk (show okP p = true from by unfold okP; simp; omega)
            clear lo_ k0
            go_wp2
            go_meet
            case rel => exact ⟨by rw [HP.out]; rfl, rfl⟩
          by_cases k1 : p ≤ 57343
          case pos =>
            have lo_ : 55296 ≤ p := by omega
            have q65534 : (p == 65534) = false := beq_eq_false_iff_ne.mpr (by omega)
            have q65535 : (p == 65535) = false := beq_eq_false_iff_ne.mpr (by omega)
            have q64976 : decide (64976 ≤ p) = false := decide_eq_false (by omega)
            have q55296 : decide (55296 ≤ p) = true := decide_eq_true (by omega)
            have q65007 : decide (p ≤ 65007) = true := decide_eq_true (by omega)
            have q57343 : decide (p ≤ 57343) = true := decide_eq_true (by omega)
            have HP := Aside0.mk (show okP p = false from by unfold okP; simp; omega)
            clear lo_ k1
            go_wp2
            go_meet
            case rel => exact ⟨by rw [HP.out]; rfl, rfl⟩
          by_cases k2 : p ≤ 64975
          case pos =>
            have lo_ : 57344 ≤ p := by omega
            have q65534 : (p == 65534) = false := beq_eq_false_iff_ne.mpr (by omega)
            have q65535 : (p == 65535) = false := beq_eq_false_iff_ne.mpr (by omega)
            have q64976 : decide (64976 ≤ p) = false := decide_eq_false (by omega)
            have q55296 : decide (55296 ≤ p) = true := decide_eq_true (by omega)
            have q65007 : decide (p ≤ 65007) = true := decide_eq_true (by omega)
            have q57343 : decide (p ≤ 57343) = false := decide_eq_false (by omega)
            have HP := Aside0.mk (show okP p = true from by unfold okP; simp; omega)
            clear lo_ k2
            go_wp2
            go_meet
            case rel => exact ⟨by rw [HP.out]; rfl, rfl⟩
          by_cases k3 : p ≤ 65007
          case pos =>
            have lo_ : 64976 ≤ p := by omega
            have q65534 : (p == 65534) = false := beq_eq_false_iff_ne.mpr (by omega)
            have q65535 : (p == 65535) = false := beq_eq_false_iff_ne.mpr (by omega)
            have q64976 : decide (64976 ≤ p) = true := decide_eq_true (by omega)
            have q55296 : decide (55296 ≤ p) = true := decide_eq_true (by omega)
            have q65007 : decide (p ≤ 65007) = true := decide_eq_true (by omega)
            have q57343 : decide (p ≤ 57343) = false := decide_eq_false (by omega)
            have HP := Aside0.mk (show okP p = false from by unfold okP; simp; omega)
            clear lo_ k3
            go_wp2
            go_meet
            case rel => exact ⟨by rw [HP.out]; rfl, rfl⟩
          by_cases k4 : p ≤ 65533
          case pos =>
            have lo_ : 65008 ≤ p := by omega
            have q65534 : (p == 65534) = false := beq_eq_false_iff_ne.mpr (by omega)
            have q65535 : (p == 65535) = false := beq_eq_false_iff_ne.mpr (by omega)
            have q64976 : decide (64976 ≤ p) = true := decide_eq_true (by omega)
            have q55296 : decide (55296 ≤ p) = true := decide_eq_true (by omega)
            have q65007 : decide (p ≤ 65007) = false := decide_eq_false (by omega)
            have q57343 : decide (p ≤ 57343) = false := decide_eq_false (by omega)
            have HP := Aside0.mk (show okP p = true from by unfold okP; simp; omega)
            clear lo_ k4
            go_wp2
            go_meet
            case rel => exact ⟨by rw [HP.out]; rfl, rfl⟩
          by_cases k5 : p ≤ 65534
          case pos =>
            have lo_ : 65534 ≤ p := by omega
            have q65534 : (p == 65534) = true := beq_iff_eq.mpr (by omega)
            have q65535 : (p == 65535) = false := beq_eq_false_iff_ne.mpr (by omega)
            have q64976 : decide (64976 ≤ p) = true := decide_eq_true (by omega)
            have q55296 : decide (55296 ≤ p) = true := decide_eq_true (by omega)
            have q65007 : decide (p ≤ 65007) = false := decide_eq_false (by omega)
            have q57343 : decide (p ≤ 57343) = false := decide_eq_false (by omega)
            have HP := Aside0.mk (show okP p = false from by unfold okP; simp; omega)
            clear lo_ k5
            go_wp2
            go_meet
            case rel => exact ⟨by rw [HP.out]; rfl, rfl⟩
          by_cases k6 : p ≤ 65535
          case pos =>
            have lo_ : 65535 ≤ p := by omega
            have q65534 : (p == 65534) = false := beq_eq_false_iff_ne.mpr (by omega)
            have q65535 : (p == 65535) = true := beq_iff_eq.mpr (by omega)
            have q64976 : decide (64976 ≤ p) = true := decide_eq_true (by omega)
            have q55296 : decide (55296 ≤ p) = true := decide_eq_true (by omega)
            have q65007 : decide (p ≤ 65007) = false := decide_eq_false (by omega)
            have q57343 : decide (p ≤ 57343) = false := decide_eq_false (by omega)
            have HP := Aside0.mk (show okP p = false from by unfold okP; simp; omega)
            clear lo_ k6
            go_wp2
            go_meet
            case rel => exact ⟨by rw [HP.out]; rfl, rfl⟩
          omega
        case rest =>
          obtain ⟨rfl, rfl⟩ := hcut
          cases hk : okP p with
          | false =>
            have HF := Aside0.mk (show ¬ (pts m).all okP = true from by
              intro h
              have h9 : okP p = true := List.all_eq_true.1 h p (by
                have e : pts (m.take (2 * k + 2)) = pts (m.take (2 * k)) ++ [p] := HS.out
                exact pts_mem m (2 * k + 2) p (by rw [e]; simp))
              rw [hk] at h9
              cases h9)
            clear hk
            go_wp2_with (go_at_call 20; (with_reducible refine (errors_New_any _ _).mono ?_); rintro e w3 ⟨T, x, rfl, hb⟩; have HB3 := Aside0.mk (below_step HB2.out hb); clear hb)
            all_goals
              first
              | exact absurd (by assumption) HF.out
              | (go_ret2; exact ⟨T, x, rfl, HB3.out⟩)
          | true =>
            have HOK := Aside0.mk (show (pts (m.take (2 * (k + 1)))).all okP = true from by rw [show 2 * (k + 1) = 2 * k + 2 by omega, HS.out, List.all_append, HA.out]; simp [hk])
            have LP := Aside0.mk (show (pts (m.take (2 * k))).length ≤ 5000 from by have := pts_len (m.take (2 * k)); have := List.length_take_le (2 * k) m; omega)
            clear hk HA
            have hcut1 := cut_l24 (some ad) n1 c1 2 hn2
            obtain ⟨A2, hA2, hcut2⟩ : ∃ A2, A2 = (if c1 = 2 then some ad else (some ad).map (·.add (2 * (Kd.int .u8).sz))) ∧ ∀ W : World, (Instr.slice 24 (.slice (some ad) n1 c1) (some (.int .i64 2)) none none).run Tryd.prog W = .ok (.slice A2 (n1 - 2) (c1 - 2)) W := ⟨_, rfl, hcut1⟩
            have HA2 := Aside0.mk hA2
            clear hcut1 hA2
            go_wp2_with (first | ((with_reducible refine gate_builtin (b := .append) (xs := #[.tmp 76, .tmp 79]) rfl ?_); at_builtin; refine Kd.R_append (Kd.int .i32) (w0 := w) w.heap.size rfl (.tmp 76) (.tmp 79) 66 21 (.int .i32 0) 4 rfl Tryd.underlying66 info21 rfl (by decide) (by omega) _ (pts (m.take (2 * k))) p [.int .i32 p] (fun _ => True) (fun _ => False) rfl rfl ?aP (fun _ hk => hk.elim) (fun _ _ => trivial) HO2.out HB2.out (below_size HB2.out) ?aL ?_; (case aP => exact rfl); (case aL => have := LP.out; omega); intro v80 w3 ho hb hg hat; have HO3 := Aside0.mk ho; have HB3 := Aside0.mk hb; clear ho hb hg hat))
            go_roundg g'
            case measure => omega
            case rel =>
              refine ⟨k + 1, A2, n1 - 2, c1 - 2, rfl, by omega, by omega, ⟨by have := HH.out.1; omega, ?_⟩, ⟨by rw [show 2 * (k + 1) = 2 * k + 2 by omega, HS.out]; exact HO3.out⟩, HOK, HB3⟩
              have hd : (m.drop (2 * k)).length = n1 := by rw [List.length_drop, HK0.out]; omega
              have h9 := Kd.C_drop (k := Kd.int .u8) (m := 2) (c := c1) (by rw [hd]; exact HH.out.2) (by rw [hd]; exact hn2) (by rw [hd]; exact HH.out.1)
              rw [List.length_drop, hd, List.drop_drop, ← HA2.out] at h9
              rw [show 2 * (k + 1) = 2 * k + 2 by omega]
              exact h9
end Go.Proofs.YtmiemfgcggkbnaaDoor.QT
