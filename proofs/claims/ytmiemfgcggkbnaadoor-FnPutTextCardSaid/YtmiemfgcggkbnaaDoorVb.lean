/- utf8.Valid, walked: it answers what the plain decoder's law says. -/
import Derived.Test.YtmiemfgcggkbnaaDoorVa
import Derived.Lib.ValidAsc
import Derived.Lib.ValidLaws
import Derived.Lib.EndianBits
import Derived.Shelf.Unicode.DecodeSlow
import Derived.Laws.BitsAllLaws
namespace Go.Proofs.YtmiemfgcggkbnaaDoor.QT
open Go.BigFrame
open Go.RowKit Go.Proofs.YtmiemfgcggkbnaaDoorW.PrintWords Go.Proofs.YtmiemfgcggkbnaaDoorW.PrintLast Go.Proofs.YtmiemfgcggkbnaaDoorW.PrintMore
set_option linter.unusedVariables false
set_option linter.unusedSimpArgs false
theorem cut_all (A : Option Addr) (n c : Nat) (hc : n ≤ c) : ∀ W : World, (Instr.slice 24 (.slice A n c) none (some (.int .i64 (n : Int))) (some (.int .i64 (n : Int)))).run Tryd.prog W = .ok (.slice A n n) W := by
  intro W
  have hel : Tryd.prog.elem 24 = 5 := by simp [Program.elem, Tryd.underlying24]
  have hu : Tryd.prog.underlying 24 = some (.slice (Tryd.prog.elem 24)) := by rw [hel]; exact Tryd.underlying24
  have h := run_slice_hm W 24 A n c hu .i64 .i64 (n : Int) (n : Int) (by omega) (by omega) (by omega)
  obtain ⟨i0, hi0, _, hsz, _⟩ := info_parts info5
  rw [h, hel]
  cases A with
  | none => simp [sizeOf, typeInfo, hi0, hsz, sliced, Result.andThen]
  | some a =>
    have h0 : a.add 0 = a := add_zero_ a
    simp [sizeOf, typeInfo, hi0, hsz, sliced, Result.andThen, h0]
    try omega
theorem BS_all {w : World} {A : Option Addr} {n c : Nat} {t : ByteArray} (h : BS w A n c t) : BS w A n n t := by
  obtain ⟨m, e1, e2, e3, e4, e5⟩ := h
  exact ⟨m, e1, e2, Nat.le_refl _, e4, e5⟩
theorem BS.wordQ {w : World} {A : Option Addr} {n c : Nat} {t : ByteArray} (h : BS w A n c t) (h8 : 8 ≤ n) {M : Nat} (e : Lib.leNat [t.get! 0, t.get! 1, t.get! 2, t.get! 3, t.get! 4, t.get! 5, t.get! 6, t.get! 7] = M) (q : Nat) : Calls Tryd.prog 33 #[.slice A n c] (w.drewN q) fun e' w' => e' = .returned (.int .u64 (M : Int)) ∧ ∃ m, w' = (w.drewN q).drewN m := by
  rw [← e]
  exact h.word (pw_below_drewN (Below.refl _ _) q) h8
theorem valid_nil {t : ByteArray} (h : (0 : Nat) = t.size) : Lib.validD t.data.toList = true := by
  have : t.data.toList = [] := List.eq_nil_of_length_eq_zero (by rw [← Lib.size_eq]; exact h.symm)
  rw [this]
  rfl
set_option maxHeartbeats 16000000 in
set_option maxRecDepth 1000000 in
theorem Valid_any (A0 : Option Addr) (n0 c0 : Nat) (s : ByteArray) (w : World) (hbs : BS w A0 n0 c0 s) (hn0 : n0 ≤ 1000000) (hT : Lib.Utf8Tabs 0 1 w) :
    Calls Tryd.prog 31 #[.slice A0 n0 c0] w fun e w' => e = .returned (.bool (Lib.validD s.data.toList)) ∧ Below w.heap.size w w' := by
  obtain ⟨ANS, hANS⟩ : ∃ ANS, Lib.validD s.data.toList = ANS := ⟨_, rfl⟩
  rw [hANS]
  have HBS := Aside0.mk hbs
  have HT := Aside0.mk hT
  have HN0 := Aside0.mk hANS
  have hle : n0 ≤ c0 := by obtain ⟨m, -, -, h, -, -⟩ := hbs; exact h
  have hcut3 := cut_all A0 n0 c0 hle
  clear hbs hT hANS
  go_enter Tryd.func31, Tryd.ntmps31
  go_wp2
  go_loopg [0] (n0 + 1) (fun gk v0 wx => Below w.heap.size w wx ∧ ∃ (A : Option Addr) (n c : Nat) (t : ByteArray), v0 = .slice A n c ∧ Aside0 (BS wx A n c t) ∧ Aside0 (Lib.validD t.data.toList = ANS) ∧ n < gk ∧ n ≤ 1000000)
  case atStart => exact ⟨Below.refl _ _, A0, n0, n0, s, rfl, ⟨BS_all HBS.out⟩, HN0, by omega, by omega⟩
  case round =>
    as_aux_lemma =>
      clear hcut3 hle HBS HN0
      obtain ⟨hbw, A, n, c, t, rfl, HB, HV, hg, hts⟩ := hrel
      generalize wr = wd at HB hbw ⊢
      have HBW := Aside0.mk hbw
      clear hbw
      by_cases h0 : 0 < n
      case neg =>
        as_aux_lemma =>
          obtain rfl : n = 0 := by omega
          have HE := Aside0.mk (show ANS = true from by rw [← HV.out]; exact valid_nil (by rw [← HB.out.size]))
          clear HV HB
          go_wp2
          go_ret
          exact ⟨by rw [HE.out]; rfl, HBW.out⟩
      obtain ⟨g', rfl⟩ : ∃ g', gk = g' + 1 := ⟨gk - 1, by omega⟩
      have h0z : (0 : Int) < (n : Int) := by omega
      obtain ⟨x0, hx0⟩ : ∃ x0, t.get! 0 = x0 := ⟨_, rfl⟩
      obtain ⟨ad, hA, hs0⟩ := HB.out.at (Below.refl _ _) 0 h0
      subst hA
      rw [hx0, add_zero_] at hs0
      have hx0lt : x0.toNat < 256 := x0.toNat_lt
      by_cases hasc : x0.toNat < 128
      · have hascz : decide ((x0.toNat : Int) < 128) = true := decide_eq_true (by omega)
        have HA1 := Aside0.mk (Lib.asc_one t (by rw [← HB.out.size]; exact h0) (by rw [hx0]; exact hasc))
        clear hasc hx0lt
        obtain ⟨A1, n1, c1, z1, hb1, hcut1⟩ := HB.out.cut 1 (by omega)
        obtain ⟨t1, ht1⟩ : ∃ s_, t.extract 1 t.size = s_ := ⟨_, rfl⟩
        rw [ht1] at hb1
        have HB1 := Aside0.mk hb1
        have HV1 := Aside0.mk (show Lib.validD t1.data.toList = ANS from by rw [← ht1, Lib.valid_skip t 1 HA1.out]; exact HV.out)
        clear hb1 HA1 HV
        have hcut1' : ∀ W : World, (Instr.slice 24 (.slice (some ad) n c) (some (.int .i64 1)) none none).run Tryd.prog W = .ok (.slice A1 n1 c1) W := hcut1
        clear hcut1
        by_cases c8 : 8 < n1
        case neg =>
          as_aux_lemma =>
            have c8z : decide ((8 : Int) < (n1 : Int)) = false := decide_eq_false (by omega)
            have c8n : decide (8 < n1) = false := decide_eq_false c8
            go_wp2
            go_roundg g'
            case measure => omega
            case rel => exact ⟨HBW.out, A1, n1, c1, t1, rfl, HB1, HV1, by omega, by omega⟩
        have c8z : decide ((8 : Int) < (n1 : Int)) = true := decide_eq_true (by omega)
        have c8n : decide (8 < n1) = true := decide_eq_true c8
        obtain ⟨N1, hN1⟩ : ∃ s_, Lib.leNat [t1.get! 0, t1.get! 1, t1.get! 2, t1.get! 3, t1.get! 4, t1.get! 5, t1.get! 6, t1.get! 7] = s_ := ⟨_, rfl⟩
        have lN1 : N1 < 18446744073709551616 := hN1 ▸ Lib.word_lt t1
        have kN1 := Lib.word_asc t1 (by rw [← HB1.out.size]; omega)
        rw [hN1] at kN1
        have hand1 : bits .and .u64 (N1 : Int) 9259542123273814144 = ((N1 &&& 9259542123273814144 : Nat) : Int) := u64_and_nat N1 9259542123273814144 lN1 (by omega)
        obtain ⟨Z1, hZ1⟩ : ∃ Z1, N1 &&& 9259542123273814144 = Z1 := ⟨_, rfl⟩
        rw [hZ1] at hand1 kN1
        have KN1 := Aside0.mk kN1
        have EN1 := Aside0.mk hN1
        clear kN1 hN1 hZ1
        by_cases hz1 : Z1 = 0
        case neg =>
          as_aux_lemma =>
            have hz1b : ((Z1 : Int) == 0) = false := beq_eq_false_iff_ne.mpr (by omega)
            go_wp2_with ((go_at_call 33; (with_reducible refine (HB1.out.word (Below.refl _ _) (by omega)).mono ?_); rw [EN1.out]; rintro e W1 ⟨rfl, ⟨q1, rfl⟩⟩))
            go_roundg g'
            case measure => omega
            case rel => exact ⟨pw_below_drewN HBW.out q1, A1, n1, c1, t1, rfl, ⟨HB1.out.below (pw_below_drewN (Below.refl _ _) q1)⟩, HV1, by omega, by omega⟩
        have hz1b : ((Z1 : Int) == 0) = true := beq_iff_eq.mpr (by omega)
        have HA8 := Aside0.mk (KN1.out.1 hz1)
        clear KN1 hz1
        obtain ⟨A2, n2, c2, z2, hb2, hcut2⟩ := HB1.out.cut 8 (by omega)
        obtain ⟨t2, ht2⟩ : ∃ s_, t1.extract 8 t1.size = s_ := ⟨_, rfl⟩
        rw [ht2] at hb2
        have HV2 := Aside0.mk (show Lib.validD t2.data.toList = ANS from by rw [← ht2, Lib.valid_skip t1 8 HA8.out]; exact HV1.out)
        have hcut2' : ∀ W : World, (Instr.slice 24 (.slice A1 n1 c1) (some (.int .i64 8)) none none).run Tryd.prog W = .ok (.slice A2 n2 c2) W := hcut2
        clear hcut2 HA8 HV1
        go_upto_region 8 with ((go_at_call 33; (with_reducible refine (HB1.out.word (Below.refl _ _) (by omega)).mono ?_); rw [EN1.out]; rintro e W1 ⟨rfl, ⟨q1, rfl⟩⟩))
        (try simp only [Act.put, List.setIfInBounds_toArray, List.set_cons_zero, List.set_cons_succ])
        have HBW2 := Aside0.mk (pw_below_drewN HBW.out q1)
        have HB2 := Aside0.mk (hb2.below (pw_below_drewN (Below.refl _ _) q1))
        generalize wd.drewN q1 = wq at HBW2 HB2 ⊢
        clear hb2 HB1 EN1 hand1 hz1b hcut1' hcut2' c8z c8n hs0 hascz h0z lN1 HBW
        by_cases c16 : 16 < n2
        case neg =>
          as_aux_lemma =>
            have c16z : decide ((16 : Int) < (n2 : Int)) = false := decide_eq_false (by omega)
            have c16n : decide (16 < n2) = false := decide_eq_false c16
            repeat (go_quiet (fail); try go_wp2)
            go_roundg g'
            case measure => omega
            case rel => exact ⟨pw_below_drewN HBW2.out _, A2, n2, c2, t2, rfl, ⟨HB2.out.below (pw_below_drewN (Below.refl _ _) _)⟩, HV2, by omega, by omega⟩
        have c16z : decide ((16 : Int) < (n2 : Int)) = true := decide_eq_true (by omega)
        have c16n : decide (16 < n2) = true := decide_eq_true c16
        obtain ⟨a0, ha0⟩ : ∃ s_, Lib.leNat [t2.get! 0, t2.get! 1, t2.get! 2, t2.get! 3, t2.get! 4, t2.get! 5, t2.get! 6, t2.get! 7] = s_ := ⟨_, rfl⟩
        have la0 : a0 < 18446744073709551616 := ha0 ▸ Lib.word_lt t2
        have ka0 := Lib.word_asc t2 (by rw [← HB2.out.size]; omega)
        rw [ha0] at ka0
        have Ea0 := Aside0.mk ha0
        clear ha0
        obtain ⟨aA8, an8, ac8, az8, ahb8, acu8⟩ := HB2.out.cut 8 (by omega)
        obtain ⟨at8, hat8⟩ : ∃ s_, t2.extract 8 t2.size = s_ := ⟨_, rfl⟩
        rw [hat8] at ahb8
        have aH8 := Aside0.mk ahb8
        have acu8' : ∀ W : World, (Instr.slice 24 (.slice A2 n2 c2) (some (.int .i64 8)) none none).run Tryd.prog W = .ok (.slice aA8 an8 ac8) W := acu8
        clear acu8 ahb8
        obtain ⟨a8, ha8⟩ : ∃ s_, Lib.leNat [at8.get! 0, at8.get! 1, at8.get! 2, at8.get! 3, at8.get! 4, at8.get! 5, at8.get! 6, at8.get! 7] = s_ := ⟨_, rfl⟩
        have la8 : a8 < 18446744073709551616 := ha8 ▸ Lib.word_lt at8
        have ka8 := Lib.word_asc at8 (by rw [← aH8.out.size]; omega)
        rw [ha8] at ka8
        have Ea8 := Aside0.mk ha8
        clear ha8
        have hor2 : bits .or .u64 (a0 : Int) (a8 : Int) = ((a0 ||| a8 : Nat) : Int) := u64_or_nat a0 a8 la0 la8
        have lor2 : a0 ||| a8 < 18446744073709551616 := Nat.or_lt_two_pow (n := 64) la0 la8
        have hand2 : bits .and .u64 ((a0 ||| a8 : Nat) : Int) 9259542123273814144 = (((a0 ||| a8) &&& 9259542123273814144 : Nat) : Int) := u64_and_nat _ 9259542123273814144 lor2 (by omega)
        have k2 : (a0 ||| a8) &&& 9259542123273814144 = 0 → Lib.Asc t2 16 := fun h0' => by
          obtain ⟨e1, e2⟩ := (Lib.or_mask a0 a8 _).1 h0'
          exact Lib.asc_add t2 8 8 (ka0.1 e1) (by rw [hat8]; exact ka8.1 e2)
        obtain ⟨O2, hO2⟩ : ∃ O2, a0 ||| a8 = O2 := ⟨_, rfl⟩
        rw [hO2] at hor2 hand2 k2
        obtain ⟨Z2, hZ2⟩ : ∃ Z2, O2 &&& 9259542123273814144 = Z2 := ⟨_, rfl⟩
        rw [hZ2] at hand2 k2
        have K2 := Aside0.mk k2
        clear ka0 ka8 lor2 hO2 hZ2 k2
        by_cases hz2 : Z2 = 0
        case neg =>
          as_aux_lemma =>
            have hz2b : ((Z2 : Int) == 0) = false := beq_eq_false_iff_ne.mpr (by omega)
            repeat (go_quiet (first | (go_at_call 33; (with_reducible exact Calls.quiet_of (HB2.out.wordQ (by omega) Ea0.out _))) | (go_at_call 33; (with_reducible exact Calls.quiet_of (aH8.out.wordQ (by omega) Ea8.out _)))); try go_wp2)
            go_roundg g'
            case measure => omega
            case rel => exact ⟨pw_below_drewN HBW2.out _, A2, n2, c2, t2, rfl, ⟨HB2.out.below (pw_below_drewN (Below.refl _ _) _)⟩, HV2, by omega, by omega⟩
        have hz2b : ((Z2 : Int) == 0) = true := beq_iff_eq.mpr (by omega)
        have HA16 := Aside0.mk (K2.out hz2)
        clear K2 hz2
        obtain ⟨A3, n3, c3, z3, hb3, hcut3⟩ := HB2.out.cut 16 (by omega)
        obtain ⟨t3, ht3⟩ : ∃ s_, t2.extract 16 t2.size = s_ := ⟨_, rfl⟩
        rw [ht3] at hb3
        have HV3 := Aside0.mk (show Lib.validD t3.data.toList = ANS from by rw [← ht3, Lib.valid_skip t2 16 HA16.out]; exact HV2.out)
        have hcut3' : ∀ W : World, (Instr.slice 24 (.slice A2 n2 c2) (some (.int .i64 16)) none none).run Tryd.prog W = .ok (.slice A3 n3 c3) W := hcut3
        have HB3 := Aside0.mk hb3
        clear hcut3 HA16 HV2 hb3
        go_quiet (first | (go_at_call 33; (with_reducible exact Calls.quiet_of (HB2.out.wordQ (by omega) Ea0.out _))) | (go_at_call 33; (with_reducible exact Calls.quiet_of (aH8.out.wordQ (by omega) Ea8.out _))))
        go_wp2
        go_loopg [0] (n3 + 1) (fun g2 v0 wx => Below w.heap.size w wx ∧ ∃ (A : Option Addr) (n c : Nat) (t : ByteArray), v0 = .slice A n c ∧ Aside0 (BS wx A n c t) ∧ Aside0 (Lib.validD t.data.toList = ANS) ∧ n < g2 ∧ n ≤ n3)
        case atStart => exact ⟨pw_below_drewN HBW2.out _, A3, n3, c3, t3, rfl, ⟨HB3.out.below (pw_below_drewN (Below.refl _ _) _)⟩, HV3, by omega, by omega⟩
        case round =>
          as_aux_lemma =>
            clear hcut3' hz2b hand2 hor2 c16z c16n HB3 HV3 HB2 HBW2 acu8' la0 la8 Ea0 Ea8 aH8
            obtain ⟨hbu, A4, n4, c4, t4, rfl, HB4, HV4, hgu, hut⟩ := hrel
            obtain ⟨g3, rfl⟩ : ∃ g3, gk = g3 + 1 := ⟨gk - 1, by omega⟩
            generalize wr = wu at HB4 hbu ⊢
            have HBU := Aside0.mk hbu
            clear hbu
            by_cases c32 : 32 < n4
            case neg =>
              as_aux_lemma =>
                have c32z : decide ((32 : Int) < (n4 : Int)) = false := decide_eq_false (by omega)
                have c32n : decide (32 < n4) = false := decide_eq_false c32
                go_wp2_with (fail)
                repeat (go_quiet (fail); try go_wp2)
                go_roundg g'
                case measure => omega
                case rel => exact ⟨pw_below_drewN HBU.out _, A4, n4, c4, t4, rfl, ⟨HB4.out.below (pw_below_drewN (Below.refl _ _) _)⟩, HV4, by omega, by omega⟩
            have c32z : decide ((32 : Int) < (n4 : Int)) = true := decide_eq_true (by omega)
            have c32n : decide (32 < n4) = true := decide_eq_true c32
            obtain ⟨b0, hb0⟩ : ∃ s_, Lib.leNat [t4.get! 0, t4.get! 1, t4.get! 2, t4.get! 3, t4.get! 4, t4.get! 5, t4.get! 6, t4.get! 7] = s_ := ⟨_, rfl⟩
            have lb0 : b0 < 18446744073709551616 := hb0 ▸ Lib.word_lt t4
            have kb0 := Lib.word_asc t4 (by rw [← HB4.out.size]; omega)
            rw [hb0] at kb0
            have Eb0 := Aside0.mk hb0
            clear hb0
            obtain ⟨bA8, bn8, bc8, bz8, bhb8, bcu8⟩ := HB4.out.cut 8 (by omega)
            obtain ⟨bt8, hbt8⟩ : ∃ s_, t4.extract 8 t4.size = s_ := ⟨_, rfl⟩
            rw [hbt8] at bhb8
            have bH8 := Aside0.mk bhb8
            have bcu8' : ∀ W : World, (Instr.slice 24 (.slice A4 n4 c4) (some (.int .i64 8)) none none).run Tryd.prog W = .ok (.slice bA8 bn8 bc8) W := bcu8
            clear bcu8 bhb8
            obtain ⟨b8, hb8⟩ : ∃ s_, Lib.leNat [bt8.get! 0, bt8.get! 1, bt8.get! 2, bt8.get! 3, bt8.get! 4, bt8.get! 5, bt8.get! 6, bt8.get! 7] = s_ := ⟨_, rfl⟩
            have lb8 : b8 < 18446744073709551616 := hb8 ▸ Lib.word_lt bt8
            have kb8 := Lib.word_asc bt8 (by rw [← bH8.out.size]; omega)
            rw [hb8] at kb8
            have Eb8 := Aside0.mk hb8
            clear hb8
            obtain ⟨bA16, bn16, bc16, bz16, bhb16, bcu16⟩ := HB4.out.cut 16 (by omega)
            obtain ⟨bt16, hbt16⟩ : ∃ s_, t4.extract 16 t4.size = s_ := ⟨_, rfl⟩
            rw [hbt16] at bhb16
            have bH16 := Aside0.mk bhb16
            have bcu16' : ∀ W : World, (Instr.slice 24 (.slice A4 n4 c4) (some (.int .i64 16)) none none).run Tryd.prog W = .ok (.slice bA16 bn16 bc16) W := bcu16
            clear bcu16 bhb16
            obtain ⟨b16, hb16⟩ : ∃ s_, Lib.leNat [bt16.get! 0, bt16.get! 1, bt16.get! 2, bt16.get! 3, bt16.get! 4, bt16.get! 5, bt16.get! 6, bt16.get! 7] = s_ := ⟨_, rfl⟩
            have lb16 : b16 < 18446744073709551616 := hb16 ▸ Lib.word_lt bt16
            have kb16 := Lib.word_asc bt16 (by rw [← bH16.out.size]; omega)
            rw [hb16] at kb16
            have Eb16 := Aside0.mk hb16
            clear hb16
            obtain ⟨bA24, bn24, bc24, bz24, bhb24, bcu24⟩ := HB4.out.cut 24 (by omega)
            obtain ⟨bt24, hbt24⟩ : ∃ s_, t4.extract 24 t4.size = s_ := ⟨_, rfl⟩
            rw [hbt24] at bhb24
            have bH24 := Aside0.mk bhb24
            have bcu24' : ∀ W : World, (Instr.slice 24 (.slice A4 n4 c4) (some (.int .i64 24)) none none).run Tryd.prog W = .ok (.slice bA24 bn24 bc24) W := bcu24
            clear bcu24 bhb24
            obtain ⟨b24, hb24⟩ : ∃ s_, Lib.leNat [bt24.get! 0, bt24.get! 1, bt24.get! 2, bt24.get! 3, bt24.get! 4, bt24.get! 5, bt24.get! 6, bt24.get! 7] = s_ := ⟨_, rfl⟩
            have lb24 : b24 < 18446744073709551616 := hb24 ▸ Lib.word_lt bt24
            have kb24 := Lib.word_asc bt24 (by rw [← bH24.out.size]; omega)
            rw [hb24] at kb24
            have Eb24 := Aside0.mk hb24
            clear hb24
            have ho1 : bits .or .u64 (b0 : Int) (b8 : Int) = ((b0 ||| b8 : Nat) : Int) := u64_or_nat b0 b8 lb0 lb8
            have ho2 : bits .or .u64 (b16 : Int) (b24 : Int) = ((b16 ||| b24 : Nat) : Int) := u64_or_nat b16 b24 lb16 lb24
            have lo1 : b0 ||| b8 < 18446744073709551616 := Nat.or_lt_two_pow (n := 64) lb0 lb8
            have lo2 : b16 ||| b24 < 18446744073709551616 := Nat.or_lt_two_pow (n := 64) lb16 lb24
            have ho3 : bits .or .u64 ((b0 ||| b8 : Nat) : Int) ((b16 ||| b24 : Nat) : Int) = (((b0 ||| b8) ||| (b16 ||| b24) : Nat) : Int) := u64_or_nat _ _ lo1 lo2
            have lo3 : (b0 ||| b8) ||| (b16 ||| b24) < 18446744073709551616 := Nat.or_lt_two_pow (n := 64) lo1 lo2
            have hand3 : bits .and .u64 (((b0 ||| b8) ||| (b16 ||| b24) : Nat) : Int) 9259542123273814144 = ((((b0 ||| b8) ||| (b16 ||| b24)) &&& 9259542123273814144 : Nat) : Int) := u64_and_nat _ 9259542123273814144 lo3 (by omega)
            have k3 : ((b0 ||| b8) ||| (b16 ||| b24)) &&& 9259542123273814144 = 0 → Lib.Asc t4 32 := fun h0' => by
              obtain ⟨e01, e23⟩ := (Lib.or_mask _ _ _).1 h0'
              obtain ⟨e0, e1⟩ := (Lib.or_mask _ _ _).1 e01
              obtain ⟨e2, e3⟩ := (Lib.or_mask _ _ _).1 e23
              have s16 : Lib.Asc t4 16 := Lib.asc_add t4 8 8 (kb0.1 e0) (by rw [hbt8]; exact kb8.1 e1)
              have s24 : Lib.Asc t4 24 := Lib.asc_add t4 16 8 s16 (by rw [hbt16]; exact kb16.1 e2)
              exact Lib.asc_add t4 24 8 s24 (by rw [hbt24]; exact kb24.1 e3)
            obtain ⟨P1, hP1⟩ : ∃ P1, b0 ||| b8 = P1 := ⟨_, rfl⟩
            obtain ⟨P2, hP2⟩ : ∃ P2, b16 ||| b24 = P2 := ⟨_, rfl⟩
            rw [hP1, hP2] at ho3 hand3 k3
            rw [hP1] at ho1
            rw [hP2] at ho2
            obtain ⟨P3, hP3⟩ : ∃ P3, P1 ||| P2 = P3 := ⟨_, rfl⟩
            rw [hP3] at ho3 hand3 k3
            obtain ⟨Z3, hZ3⟩ : ∃ Z3, P3 &&& 9259542123273814144 = Z3 := ⟨_, rfl⟩
            rw [hZ3] at hand3 k3
            have K3 := Aside0.mk k3
            clear kb0 kb8 kb16 kb24 lo1 lo2 lo3 hP1 hP2 hP3 hZ3 k3
            by_cases hz3 : Z3 = 0
            case neg =>
              as_aux_lemma =>
                have hz3b : ((Z3 : Int) == 0) = false := beq_eq_false_iff_ne.mpr (by omega)
                go_wp2_with (fail)
                repeat (go_quiet (first | (go_at_call 33; (with_reducible exact Calls.quiet_of (HB4.out.wordQ (by omega) Eb0.out _))) | (go_at_call 33; (with_reducible exact Calls.quiet_of (bH8.out.wordQ (by omega) Eb8.out _))) | (go_at_call 33; (with_reducible exact Calls.quiet_of (bH16.out.wordQ (by omega) Eb16.out _))) | (go_at_call 33; (with_reducible exact Calls.quiet_of (bH24.out.wordQ (by omega) Eb24.out _)))); try go_wp2)
                go_roundg g'
                case measure => omega
                case rel => exact ⟨pw_below_drewN HBU.out _, A4, n4, c4, t4, rfl, ⟨HB4.out.below (pw_below_drewN (Below.refl _ _) _)⟩, HV4, by omega, by omega⟩
            have hz3b : ((Z3 : Int) == 0) = true := beq_iff_eq.mpr (by omega)
            have HA32 := Aside0.mk (K3.out hz3)
            clear K3 hz3
            obtain ⟨A5, n5, c5, z5, hb5, hcut5⟩ := HB4.out.cut 32 (by omega)
            obtain ⟨t5, ht5⟩ : ∃ s_, t4.extract 32 t4.size = s_ := ⟨_, rfl⟩
            rw [ht5] at hb5
            have HV5 := Aside0.mk (show Lib.validD t5.data.toList = ANS from by rw [← ht5, Lib.valid_skip t4 32 HA32.out]; exact HV4.out)
            have hcut5' : ∀ W : World, (Instr.slice 24 (.slice A4 n4 c4) (some (.int .i64 32)) none none).run Tryd.prog W = .ok (.slice A5 n5 c5) W := hcut5
            have HB5 := Aside0.mk hb5
            clear hcut5 HA32 hb5
            go_wp2_with (fail)
            go_quiet (first | (go_at_call 33; (with_reducible exact Calls.quiet_of (HB4.out.wordQ (by omega) Eb0.out _))) | (go_at_call 33; (with_reducible exact Calls.quiet_of (bH8.out.wordQ (by omega) Eb8.out _))) | (go_at_call 33; (with_reducible exact Calls.quiet_of (bH16.out.wordQ (by omega) Eb16.out _))) | (go_at_call 33; (with_reducible exact Calls.quiet_of (bH24.out.wordQ (by omega) Eb24.out _))))
            go_wp2
            go_roundg g3
            case measure => omega
            case rel => exact ⟨pw_below_drewN HBU.out _, A5, n5, c5, t5, rfl, ⟨HB5.out.below (pw_below_drewN (Below.refl _ _) _)⟩, HV5, by omega, by omega⟩
      · have hascz : decide ((x0.toNat : Int) < 128) = false := decide_eq_false (by omega)
        obtain ⟨x1, hx1⟩ : ∃ x1, t.get! 1 = x1 := ⟨_, rfl⟩
        obtain ⟨x2, hx2⟩ : ∃ x2, t.get! 2 = x2 := ⟨_, rfl⟩
        obtain ⟨x3, hx3⟩ : ∃ x3, t.get! 3 = x3 := ⟨_, rfl⟩
        have l1 := x1.toNat_lt; have l2 := x2.toNat_lt; have l3 := x3.toNat_lt
        have hne : t.data.toList ≠ [] := fun h => by have h9 := HB.out.size; rw [Lib.size_eq, h] at h9; simp at h9; omega
        have hlead := Lib.validD_lead t.data.toList hne (by rw [Lib.getD_get!', hx0]; omega)
        rw [Lib.getD_get!', Lib.getD_get!', Lib.getD_get!', Lib.getD_get!', hx0, hx1, hx2, hx3, ← Lib.size_eq, HV.out, ← HB.out.size] at hlead
        have hTr := Utf8Tabs_below HT.out HBW.out
        have hc0 := hTr.1 x0.toNat hx0lt
        have hXlt : Lib.firstT x0.toNat < 256 := by rcases Lib.firstT_cases x0.toNat with h | h | h | h | h | h | h | h | h <;> omega
        obtain ⟨X, hX⟩ : ∃ X, Lib.firstT x0.toNat = X := ⟨_, rfl⟩
        rw [hX] at hc0 hXlt hlead
        have h7 := and7 ⟨X, hXlt⟩
        simp only at h7
        have ha0 : wd.cell? ⟨1, X / 16 * 2, none⟩ = some (.int .u8 (Lib.accLo (X / 16))) := by rw [Nat.mul_comm]; exact (hTr.2 (X / 16) (by omega)).1
        have ha1 : wd.cell? ⟨1, X / 16 * 2 + 1, none⟩ = some (.int .u8 (Lib.accHi (X / 16))) := by rw [Nat.mul_comm]; exact (hTr.2 (X / 16) (by omega)).2
        obtain ⟨LO, hLO⟩ : ∃ LO, Lib.accLo (X / 16) = LO := ⟨_, rfl⟩
        obtain ⟨HI, hHI⟩ : ∃ HI, Lib.accHi (X / 16) = HI := ⟨_, rfl⟩
        rw [hLO] at ha0 hlead
        rw [hHI] at ha1 hlead
        obtain ⟨SZ, hSZ⟩ : ∃ SZ, X % 8 = SZ := ⟨_, rfl⟩
        rw [hSZ] at hlead
        have HX1 := Aside0.mk hx1
        have HX2 := Aside0.mk hx2
        have HX3 := Aside0.mk hx3
        clear hTr hX HV hLO hHI hne hx1 hx2 hx3 hasc hx0
        have GW := Aside0.mk (below_size HBW.out)
        by_cases s2 : SZ = 2
        · subst s2
          have hSZz : (X : Int) % 8 = 2 := by omega
          simp only [Lib.checkN, Nat.reduceEqDiff, if_true, if_false] at hlead
          have HL := Aside0.mk hlead
          clear hlead
          go_upto_region 18 with (first
            | ((with_reducible refine gate_dst (N := 6) rfl ?_); refine box_event ?hg (N := 6) ?hd (cs := #[.int .u8 0, .int .u8 0]) (t := 72) ?hr ?_; (case hd => rfl); (case hg => rfl); (case hr => first | (go_simp; done) | (go_simp; rfl)); intro g6 hg w5 hbox hb; have HBa := Aside0.mk (below_step HBW.out hb); have G6 := Aside0.mk (show w.heap.size ≤ g6 by rw [hg]; exact GW.out); have BKa := Aside0.mk hbox; have HBS5 := Aside0.mk (HB.out.below hb); have HBb := Aside0.mk (show Below wd.heap.size wd w5 from hb); have GG := Aside0.mk (show wd.heap.size ≤ g6 by rw [hg]; exact Nat.le_refl _); have ck0 := (blk_cell BKa.out 0).trans (show _ = some (.int .u8 0) from rfl); have ckf0 := blk_frozen BKa.out 0; have ck1 := (blk_cell BKa.out 1).trans (show _ = some (.int .u8 0) from rfl); have ckf1 := blk_frozen BKa.out 1; clear hbox hb hg)
            | ((with_reducible refine gate_store (t := 72) (p := 6) rfl ?_); refine store_event (t := 72) (p := 6) (v := ?vo6) (w1 := (w5.setCell ⟨g6, 0, none⟩ (.int .u8 (LO : Int))).setCell ⟨g6, 1, none⟩ (.int .u8 (HI : Int))) ?hg ?ho ?hn ?hr ?_; (case ho => rfl); (case hg => rfl); (case hn => rfl); (case hr => first | (go_simp; done) | (go_simp; rfl)); intro w6 hw; have BK := Aside0.mk (show w6.heap[g6]? = some (.cells #[.int .u8 (LO : Int), .int .u8 (HI : Int)] 72 (0, 0)) from by rw [hw]; exact blk_put (cs := #[.int .u8 (LO : Int), .int .u8 0]) (blk_put (cs := #[.int .u8 0, .int .u8 0]) BKa.out 0 _ rfl) 1 _ rfl); have HB6 := Aside0.mk (show Below w.heap.size w w6 from by rw [hw]; exact below_set (below_set HBa.out G6.out) G6.out); have HBS6 := Aside0.mk (show BS w6 (some ad) n c t from by rw [hw]; exact HB.out.below (below_set (below_set HBb.out GG.out) GG.out)); clear hw ck0 ckf0 ck1 ckf1))
          (try simp only [Act.put, List.setIfInBounds_toArray, List.set_cons_zero, List.set_cons_succ])
          clear hc0 ha0 ha1 h7 hs0 hascz HBW HB HBa G6 BKa HBS5 HBb GG
          have cl0 := (blk_cell BK.out 0).trans (show _ = some (.int .u8 (LO : Int)) from rfl)
          have cl1 := (blk_cell BK.out 1).trans (show _ = some (.int .u8 (HI : Int)) from rfl)
          go_cut [103] (fun v wx => v = .bool (decide (n < 2 ∨ x1.toNat < LO ∨ HI < x1.toNat)) ∧ ∃ q, wx = w6.drewN q)
          case first =>
            as_aux_lemma =>
              by_cases q0 : n < 2
              case pos =>
                have q0z : decide ((n : Int) < 2) = true := decide_eq_true (by omega)
                have q0n : decide (n < 2) = true := decide_eq_true q0
                repeat (go_quiet (fail); try go_wp2)
                go_meet
                case rel => exact ⟨congrArg Value.bool (decide_eq_true (p := n < 2 ∨ x1.toNat < LO ∨ HI < x1.toNat) (by omega)).symm, _, rfl⟩
              have q0z : decide ((n : Int) < 2) = false := decide_eq_false (by omega)
              have q0n : decide (n < 2) = false := decide_eq_false q0
              have hz1 : (1 : Int) < (n : Int) := by omega
              obtain ⟨ad1, hA1, hs1_⟩ := HBS6.out.at (Below.refl _ _) 1 (by omega)
              cases hA1
              rw [HX1.out] at hs1_
              have hs1 := (show w6.cell? ⟨ad.block, ad.off + 1, none⟩ = some (.int .u8 (x1.toNat : Int)) from hs1_)
              clear hs1_
              by_cases q1 : x1.toNat < LO
              case pos =>
                have q1z : decide ((x1.toNat : Int) < (LO : Int)) = true := decide_eq_true (by omega)
                repeat (go_quiet (fail); try go_wp2)
                go_meet
                case rel => exact ⟨congrArg Value.bool (decide_eq_true (p := n < 2 ∨ x1.toNat < LO ∨ HI < x1.toNat) (by omega)).symm, _, rfl⟩
              have q1z : decide ((x1.toNat : Int) < (LO : Int)) = false := decide_eq_false (by omega)
              by_cases q2 : HI < x1.toNat
              case pos =>
                have q2z : decide ((HI : Int) < (x1.toNat : Int)) = true := decide_eq_true (by omega)
                repeat (go_quiet (fail); try go_wp2)
                go_meet
                case rel => exact ⟨congrArg Value.bool (decide_eq_true (p := n < 2 ∨ x1.toNat < LO ∨ HI < x1.toNat) (by omega)).symm, _, rfl⟩
              have q2z : decide ((HI : Int) < (x1.toNat : Int)) = false := decide_eq_false (by omega)
              repeat (go_quiet (fail); try go_wp2)
              go_meet
              case rel => exact ⟨congrArg Value.bool (decide_eq_false (p := n < 2 ∨ x1.toNat < LO ∨ HI < x1.toNat) (by omega)).symm, _, rfl⟩
          case rest =>
            as_aux_lemma =>
              obtain ⟨rfl, nq, rfl⟩ := hcut
              clear cl0 cl1
              have HBc := Aside0.mk (pw_below_drewN HB6.out nq)
              have HBSc := Aside0.mk (HBS6.out.below (pw_below_drewN (Below.refl _ _) nq))
              generalize w6.drewN nq = w7 at HBc HBSc ⊢
              clear HB6 HBS6 BK
              by_cases hb : n < 2 ∨ x1.toNat < LO ∨ HI < x1.toNat
              · have hbd : decide (n < 2 ∨ x1.toNat < LO ∨ HI < x1.toNat) = true := decide_eq_true hb
                have HE := Aside0.mk (show ANS = false from by have h9 := HL.out; rw [if_pos hb] at h9; exact h9)
                rw [hbd]
                clear hb hbd HL
                go_wp2
                go_ret
                exact ⟨by rw [HE.out]; rfl, HBc.out⟩
              · have hbd : decide (n < 2 ∨ x1.toNat < LO ∨ HI < x1.toNat) = false := decide_eq_false hb
                have HE := Aside0.mk (show ANS = Lib.validD (t.data.toList.drop 2) from by have h9 := HL.out; rw [if_neg hb] at h9; exact h9)
                rw [hbd]
                obtain ⟨A1, n1, c1, z1, hb1, hcut1⟩ := HBSc.out.cut 2 (by omega)
                have hcut1' : ∀ W : World, (Instr.slice 24 (.slice (some ad) n c) (some (.int .i64 2)) none none).run Tryd.prog W = .ok (.slice A1 n1 c1) W := hcut1
                have HB1 := Aside0.mk hb1
                clear hb hbd HL hcut1 hb1
                go_wp2
                go_roundg g'
                case measure => omega
                case rel => exact ⟨HBc.out, A1, n1, c1, _, rfl, HB1, ⟨by rw [Lib.ext_list, HE.out]⟩, by omega, by omega⟩
        by_cases s3 : SZ = 3
        · subst s3
          have hSZz : (X : Int) % 8 = 3 := by omega
          simp only [Lib.checkN, Nat.reduceEqDiff, if_true, if_false] at hlead
          have HL := Aside0.mk hlead
          clear hlead
          go_upto_region 22 with (first
            | ((with_reducible refine gate_dst (N := 6) rfl ?_); refine box_event ?hg (N := 6) ?hd (cs := #[.int .u8 0, .int .u8 0]) (t := 72) ?hr ?_; (case hd => rfl); (case hg => rfl); (case hr => first | (go_simp; done) | (go_simp; rfl)); intro g6 hg w5 hbox hb; have HBa := Aside0.mk (below_step HBW.out hb); have G6 := Aside0.mk (show w.heap.size ≤ g6 by rw [hg]; exact GW.out); have BKa := Aside0.mk hbox; have HBS5 := Aside0.mk (HB.out.below hb); have HBb := Aside0.mk (show Below wd.heap.size wd w5 from hb); have GG := Aside0.mk (show wd.heap.size ≤ g6 by rw [hg]; exact Nat.le_refl _); have ck0 := (blk_cell BKa.out 0).trans (show _ = some (.int .u8 0) from rfl); have ckf0 := blk_frozen BKa.out 0; have ck1 := (blk_cell BKa.out 1).trans (show _ = some (.int .u8 0) from rfl); have ckf1 := blk_frozen BKa.out 1; clear hbox hb hg)
            | ((with_reducible refine gate_store (t := 72) (p := 6) rfl ?_); refine store_event (t := 72) (p := 6) (v := ?vo6) (w1 := (w5.setCell ⟨g6, 0, none⟩ (.int .u8 (LO : Int))).setCell ⟨g6, 1, none⟩ (.int .u8 (HI : Int))) ?hg ?ho ?hn ?hr ?_; (case ho => rfl); (case hg => rfl); (case hn => rfl); (case hr => first | (go_simp; done) | (go_simp; rfl)); intro w6 hw; have BK := Aside0.mk (show w6.heap[g6]? = some (.cells #[.int .u8 (LO : Int), .int .u8 (HI : Int)] 72 (0, 0)) from by rw [hw]; exact blk_put (cs := #[.int .u8 (LO : Int), .int .u8 0]) (blk_put (cs := #[.int .u8 0, .int .u8 0]) BKa.out 0 _ rfl) 1 _ rfl); have HB6 := Aside0.mk (show Below w.heap.size w w6 from by rw [hw]; exact below_set (below_set HBa.out G6.out) G6.out); have HBS6 := Aside0.mk (show BS w6 (some ad) n c t from by rw [hw]; exact HB.out.below (below_set (below_set HBb.out GG.out) GG.out)); clear hw ck0 ckf0 ck1 ckf1))
          (try simp only [Act.put, List.setIfInBounds_toArray, List.set_cons_zero, List.set_cons_succ])
          clear hc0 ha0 ha1 h7 hs0 hascz HBW HB HBa G6 BKa HBS5 HBb GG
          have cl0 := (blk_cell BK.out 0).trans (show _ = some (.int .u8 (LO : Int)) from rfl)
          have cl1 := (blk_cell BK.out 1).trans (show _ = some (.int .u8 (HI : Int)) from rfl)
          go_cut [138] (fun v wx => v = .bool (decide (n < 3 ∨ x1.toNat < LO ∨ HI < x1.toNat ∨ x2.toNat < 128 ∨ 191 < x2.toNat)) ∧ ∃ q, wx = w6.drewN q)
          case first =>
            as_aux_lemma =>
              by_cases q0 : n < 3
              case pos =>
                have q0z : decide ((n : Int) < 3) = true := decide_eq_true (by omega)
                have q0n : decide (n < 3) = true := decide_eq_true q0
                repeat (go_quiet (fail); try go_wp2)
                go_meet
                case rel => exact ⟨congrArg Value.bool (decide_eq_true (p := n < 3 ∨ x1.toNat < LO ∨ HI < x1.toNat ∨ x2.toNat < 128 ∨ 191 < x2.toNat) (by omega)).symm, _, rfl⟩
              have q0z : decide ((n : Int) < 3) = false := decide_eq_false (by omega)
              have q0n : decide (n < 3) = false := decide_eq_false q0
              have hz1 : (1 : Int) < (n : Int) := by omega
              obtain ⟨ad1, hA1, hs1_⟩ := HBS6.out.at (Below.refl _ _) 1 (by omega)
              cases hA1
              rw [HX1.out] at hs1_
              have hs1 := (show w6.cell? ⟨ad.block, ad.off + 1, none⟩ = some (.int .u8 (x1.toNat : Int)) from hs1_)
              clear hs1_
              have hz2 : (2 : Int) < (n : Int) := by omega
              obtain ⟨ad2, hA2, hs2_⟩ := HBS6.out.at (Below.refl _ _) 2 (by omega)
              cases hA2
              rw [HX2.out] at hs2_
              have hs2 := (show w6.cell? ⟨ad.block, ad.off + 2, none⟩ = some (.int .u8 (x2.toNat : Int)) from hs2_)
              clear hs2_
              by_cases q1 : x1.toNat < LO
              case pos =>
                have q1z : decide ((x1.toNat : Int) < (LO : Int)) = true := decide_eq_true (by omega)
                repeat (go_quiet (fail); try go_wp2)
                go_meet
                case rel => exact ⟨congrArg Value.bool (decide_eq_true (p := n < 3 ∨ x1.toNat < LO ∨ HI < x1.toNat ∨ x2.toNat < 128 ∨ 191 < x2.toNat) (by omega)).symm, _, rfl⟩
              have q1z : decide ((x1.toNat : Int) < (LO : Int)) = false := decide_eq_false (by omega)
              by_cases q2 : HI < x1.toNat
              case pos =>
                have q2z : decide ((HI : Int) < (x1.toNat : Int)) = true := decide_eq_true (by omega)
                repeat (go_quiet (fail); try go_wp2)
                go_meet
                case rel => exact ⟨congrArg Value.bool (decide_eq_true (p := n < 3 ∨ x1.toNat < LO ∨ HI < x1.toNat ∨ x2.toNat < 128 ∨ 191 < x2.toNat) (by omega)).symm, _, rfl⟩
              have q2z : decide ((HI : Int) < (x1.toNat : Int)) = false := decide_eq_false (by omega)
              by_cases q3 : x2.toNat < 128
              case pos =>
                have q3z : decide ((x2.toNat : Int) < 128) = true := decide_eq_true (by omega)
                repeat (go_quiet (fail); try go_wp2)
                go_meet
                case rel => exact ⟨congrArg Value.bool (decide_eq_true (p := n < 3 ∨ x1.toNat < LO ∨ HI < x1.toNat ∨ x2.toNat < 128 ∨ 191 < x2.toNat) (by omega)).symm, _, rfl⟩
              have q3z : decide ((x2.toNat : Int) < 128) = false := decide_eq_false (by omega)
              by_cases q4 : 191 < x2.toNat
              case pos =>
                have q4z : decide ((191 : Int) < (x2.toNat : Int)) = true := decide_eq_true (by omega)
                repeat (go_quiet (fail); try go_wp2)
                go_meet
                case rel => exact ⟨congrArg Value.bool (decide_eq_true (p := n < 3 ∨ x1.toNat < LO ∨ HI < x1.toNat ∨ x2.toNat < 128 ∨ 191 < x2.toNat) (by omega)).symm, _, rfl⟩
              have q4z : decide ((191 : Int) < (x2.toNat : Int)) = false := decide_eq_false (by omega)
              repeat (go_quiet (fail); try go_wp2)
              go_meet
              case rel => exact ⟨congrArg Value.bool (decide_eq_false (p := n < 3 ∨ x1.toNat < LO ∨ HI < x1.toNat ∨ x2.toNat < 128 ∨ 191 < x2.toNat) (by omega)).symm, _, rfl⟩
          case rest =>
            as_aux_lemma =>
              obtain ⟨rfl, nq, rfl⟩ := hcut
              clear cl0 cl1
              have HBc := Aside0.mk (pw_below_drewN HB6.out nq)
              have HBSc := Aside0.mk (HBS6.out.below (pw_below_drewN (Below.refl _ _) nq))
              generalize w6.drewN nq = w7 at HBc HBSc ⊢
              clear HB6 HBS6 BK
              by_cases hb : n < 3 ∨ x1.toNat < LO ∨ HI < x1.toNat ∨ x2.toNat < 128 ∨ 191 < x2.toNat
              · have hbd : decide (n < 3 ∨ x1.toNat < LO ∨ HI < x1.toNat ∨ x2.toNat < 128 ∨ 191 < x2.toNat) = true := decide_eq_true hb
                have HE := Aside0.mk (show ANS = false from by have h9 := HL.out; rw [if_pos hb] at h9; exact h9)
                rw [hbd]
                clear hb hbd HL
                go_wp2
                go_ret
                exact ⟨by rw [HE.out]; rfl, HBc.out⟩
              · have hbd : decide (n < 3 ∨ x1.toNat < LO ∨ HI < x1.toNat ∨ x2.toNat < 128 ∨ 191 < x2.toNat) = false := decide_eq_false hb
                have HE := Aside0.mk (show ANS = Lib.validD (t.data.toList.drop 3) from by have h9 := HL.out; rw [if_neg hb] at h9; exact h9)
                rw [hbd]
                obtain ⟨A1, n1, c1, z1, hb1, hcut1⟩ := HBSc.out.cut 3 (by omega)
                have hcut1' : ∀ W : World, (Instr.slice 24 (.slice (some ad) n c) (some (.int .i64 3)) none none).run Tryd.prog W = .ok (.slice A1 n1 c1) W := hcut1
                have HB1 := Aside0.mk hb1
                clear hb hbd HL hcut1 hb1
                go_wp2
                go_roundg g'
                case measure => omega
                case rel => exact ⟨HBc.out, A1, n1, c1, _, rfl, HB1, ⟨by rw [Lib.ext_list, HE.out]⟩, by omega, by omega⟩
        by_cases s4 : SZ = 4
        · subst s4
          have hSZz : (X : Int) % 8 = 4 := by omega
          simp only [Lib.checkN, Nat.reduceEqDiff, if_true, if_false] at hlead
          have HL := Aside0.mk hlead
          clear hlead
          go_upto_region 26 with (first
            | ((with_reducible refine gate_dst (N := 6) rfl ?_); refine box_event ?hg (N := 6) ?hd (cs := #[.int .u8 0, .int .u8 0]) (t := 72) ?hr ?_; (case hd => rfl); (case hg => rfl); (case hr => first | (go_simp; done) | (go_simp; rfl)); intro g6 hg w5 hbox hb; have HBa := Aside0.mk (below_step HBW.out hb); have G6 := Aside0.mk (show w.heap.size ≤ g6 by rw [hg]; exact GW.out); have BKa := Aside0.mk hbox; have HBS5 := Aside0.mk (HB.out.below hb); have HBb := Aside0.mk (show Below wd.heap.size wd w5 from hb); have GG := Aside0.mk (show wd.heap.size ≤ g6 by rw [hg]; exact Nat.le_refl _); have ck0 := (blk_cell BKa.out 0).trans (show _ = some (.int .u8 0) from rfl); have ckf0 := blk_frozen BKa.out 0; have ck1 := (blk_cell BKa.out 1).trans (show _ = some (.int .u8 0) from rfl); have ckf1 := blk_frozen BKa.out 1; clear hbox hb hg)
            | ((with_reducible refine gate_store (t := 72) (p := 6) rfl ?_); refine store_event (t := 72) (p := 6) (v := ?vo6) (w1 := (w5.setCell ⟨g6, 0, none⟩ (.int .u8 (LO : Int))).setCell ⟨g6, 1, none⟩ (.int .u8 (HI : Int))) ?hg ?ho ?hn ?hr ?_; (case ho => rfl); (case hg => rfl); (case hn => rfl); (case hr => first | (go_simp; done) | (go_simp; rfl)); intro w6 hw; have BK := Aside0.mk (show w6.heap[g6]? = some (.cells #[.int .u8 (LO : Int), .int .u8 (HI : Int)] 72 (0, 0)) from by rw [hw]; exact blk_put (cs := #[.int .u8 (LO : Int), .int .u8 0]) (blk_put (cs := #[.int .u8 0, .int .u8 0]) BKa.out 0 _ rfl) 1 _ rfl); have HB6 := Aside0.mk (show Below w.heap.size w w6 from by rw [hw]; exact below_set (below_set HBa.out G6.out) G6.out); have HBS6 := Aside0.mk (show BS w6 (some ad) n c t from by rw [hw]; exact HB.out.below (below_set (below_set HBb.out GG.out) GG.out)); clear hw ck0 ckf0 ck1 ckf1))
          (try simp only [Act.put, List.setIfInBounds_toArray, List.set_cons_zero, List.set_cons_succ])
          clear hc0 ha0 ha1 h7 hs0 hascz HBW HB HBa G6 BKa HBS5 HBb GG
          have cl0 := (blk_cell BK.out 0).trans (show _ = some (.int .u8 (LO : Int)) from rfl)
          have cl1 := (blk_cell BK.out 1).trans (show _ = some (.int .u8 (HI : Int)) from rfl)
          go_cut [185] (fun v wx => v = .bool (decide (n < 4 ∨ x1.toNat < LO ∨ HI < x1.toNat ∨ x2.toNat < 128 ∨ 191 < x2.toNat ∨ x3.toNat < 128 ∨ 191 < x3.toNat)) ∧ ∃ q, wx = w6.drewN q)
          case first =>
            as_aux_lemma =>
              by_cases q0 : n < 4
              case pos =>
                have q0z : decide ((n : Int) < 4) = true := decide_eq_true (by omega)
                have q0n : decide (n < 4) = true := decide_eq_true q0
                repeat (go_quiet (fail); try go_wp2)
                go_meet
                case rel => exact ⟨congrArg Value.bool (decide_eq_true (p := n < 4 ∨ x1.toNat < LO ∨ HI < x1.toNat ∨ x2.toNat < 128 ∨ 191 < x2.toNat ∨ x3.toNat < 128 ∨ 191 < x3.toNat) (by omega)).symm, _, rfl⟩
              have q0z : decide ((n : Int) < 4) = false := decide_eq_false (by omega)
              have q0n : decide (n < 4) = false := decide_eq_false q0
              have hz1 : (1 : Int) < (n : Int) := by omega
              obtain ⟨ad1, hA1, hs1_⟩ := HBS6.out.at (Below.refl _ _) 1 (by omega)
              cases hA1
              rw [HX1.out] at hs1_
              have hs1 := (show w6.cell? ⟨ad.block, ad.off + 1, none⟩ = some (.int .u8 (x1.toNat : Int)) from hs1_)
              clear hs1_
              have hz2 : (2 : Int) < (n : Int) := by omega
              obtain ⟨ad2, hA2, hs2_⟩ := HBS6.out.at (Below.refl _ _) 2 (by omega)
              cases hA2
              rw [HX2.out] at hs2_
              have hs2 := (show w6.cell? ⟨ad.block, ad.off + 2, none⟩ = some (.int .u8 (x2.toNat : Int)) from hs2_)
              clear hs2_
              have hz3 : (3 : Int) < (n : Int) := by omega
              obtain ⟨ad3, hA3, hs3_⟩ := HBS6.out.at (Below.refl _ _) 3 (by omega)
              cases hA3
              rw [HX3.out] at hs3_
              have hs3 := (show w6.cell? ⟨ad.block, ad.off + 3, none⟩ = some (.int .u8 (x3.toNat : Int)) from hs3_)
              clear hs3_
              by_cases q1 : x1.toNat < LO
              case pos =>
                have q1z : decide ((x1.toNat : Int) < (LO : Int)) = true := decide_eq_true (by omega)
                repeat (go_quiet (fail); try go_wp2)
                go_meet
                case rel => exact ⟨congrArg Value.bool (decide_eq_true (p := n < 4 ∨ x1.toNat < LO ∨ HI < x1.toNat ∨ x2.toNat < 128 ∨ 191 < x2.toNat ∨ x3.toNat < 128 ∨ 191 < x3.toNat) (by omega)).symm, _, rfl⟩
              have q1z : decide ((x1.toNat : Int) < (LO : Int)) = false := decide_eq_false (by omega)
              by_cases q2 : HI < x1.toNat
              case pos =>
                have q2z : decide ((HI : Int) < (x1.toNat : Int)) = true := decide_eq_true (by omega)
                repeat (go_quiet (fail); try go_wp2)
                go_meet
                case rel => exact ⟨congrArg Value.bool (decide_eq_true (p := n < 4 ∨ x1.toNat < LO ∨ HI < x1.toNat ∨ x2.toNat < 128 ∨ 191 < x2.toNat ∨ x3.toNat < 128 ∨ 191 < x3.toNat) (by omega)).symm, _, rfl⟩
              have q2z : decide ((HI : Int) < (x1.toNat : Int)) = false := decide_eq_false (by omega)
              by_cases q3 : x2.toNat < 128
              case pos =>
                have q3z : decide ((x2.toNat : Int) < 128) = true := decide_eq_true (by omega)
                repeat (go_quiet (fail); try go_wp2)
                go_meet
                case rel => exact ⟨congrArg Value.bool (decide_eq_true (p := n < 4 ∨ x1.toNat < LO ∨ HI < x1.toNat ∨ x2.toNat < 128 ∨ 191 < x2.toNat ∨ x3.toNat < 128 ∨ 191 < x3.toNat) (by omega)).symm, _, rfl⟩
              have q3z : decide ((x2.toNat : Int) < 128) = false := decide_eq_false (by omega)
              by_cases q4 : 191 < x2.toNat
              case pos =>
                have q4z : decide ((191 : Int) < (x2.toNat : Int)) = true := decide_eq_true (by omega)
                repeat (go_quiet (fail); try go_wp2)
                go_meet
                case rel => exact ⟨congrArg Value.bool (decide_eq_true (p := n < 4 ∨ x1.toNat < LO ∨ HI < x1.toNat ∨ x2.toNat < 128 ∨ 191 < x2.toNat ∨ x3.toNat < 128 ∨ 191 < x3.toNat) (by omega)).symm, _, rfl⟩
              have q4z : decide ((191 : Int) < (x2.toNat : Int)) = false := decide_eq_false (by omega)
              by_cases q5 : x3.toNat < 128
              case pos =>
                have q5z : decide ((x3.toNat : Int) < 128) = true := decide_eq_true (by omega)
                repeat (go_quiet (fail); try go_wp2)
                go_meet
                case rel => exact ⟨congrArg Value.bool (decide_eq_true (p := n < 4 ∨ x1.toNat < LO ∨ HI < x1.toNat ∨ x2.toNat < 128 ∨ 191 < x2.toNat ∨ x3.toNat < 128 ∨ 191 < x3.toNat) (by omega)).symm, _, rfl⟩
              have q5z : decide ((x3.toNat : Int) < 128) = false := decide_eq_false (by omega)
              by_cases q6 : 191 < x3.toNat
              case pos =>
                have q6z : decide ((191 : Int) < (x3.toNat : Int)) = true := decide_eq_true (by omega)
                repeat (go_quiet (fail); try go_wp2)
                go_meet
                case rel => exact ⟨congrArg Value.bool (decide_eq_true (p := n < 4 ∨ x1.toNat < LO ∨ HI < x1.toNat ∨ x2.toNat < 128 ∨ 191 < x2.toNat ∨ x3.toNat < 128 ∨ 191 < x3.toNat) (by omega)).symm, _, rfl⟩
              have q6z : decide ((191 : Int) < (x3.toNat : Int)) = false := decide_eq_false (by omega)
              repeat (go_quiet (fail); try go_wp2)
              go_meet
              case rel => exact ⟨congrArg Value.bool (decide_eq_false (p := n < 4 ∨ x1.toNat < LO ∨ HI < x1.toNat ∨ x2.toNat < 128 ∨ 191 < x2.toNat ∨ x3.toNat < 128 ∨ 191 < x3.toNat) (by omega)).symm, _, rfl⟩
          case rest =>
            as_aux_lemma =>
              obtain ⟨rfl, nq, rfl⟩ := hcut
              clear cl0 cl1
              have HBc := Aside0.mk (pw_below_drewN HB6.out nq)
              have HBSc := Aside0.mk (HBS6.out.below (pw_below_drewN (Below.refl _ _) nq))
              generalize w6.drewN nq = w7 at HBc HBSc ⊢
              clear HB6 HBS6 BK
              by_cases hb : n < 4 ∨ x1.toNat < LO ∨ HI < x1.toNat ∨ x2.toNat < 128 ∨ 191 < x2.toNat ∨ x3.toNat < 128 ∨ 191 < x3.toNat
              · have hbd : decide (n < 4 ∨ x1.toNat < LO ∨ HI < x1.toNat ∨ x2.toNat < 128 ∨ 191 < x2.toNat ∨ x3.toNat < 128 ∨ 191 < x3.toNat) = true := decide_eq_true hb
                have HE := Aside0.mk (show ANS = false from by have h9 := HL.out; rw [if_pos hb] at h9; exact h9)
                rw [hbd]
                clear hb hbd HL
                go_wp2
                go_ret
                exact ⟨by rw [HE.out]; rfl, HBc.out⟩
              · have hbd : decide (n < 4 ∨ x1.toNat < LO ∨ HI < x1.toNat ∨ x2.toNat < 128 ∨ 191 < x2.toNat ∨ x3.toNat < 128 ∨ 191 < x3.toNat) = false := decide_eq_false hb
                have HE := Aside0.mk (show ANS = Lib.validD (t.data.toList.drop 4) from by have h9 := HL.out; rw [if_neg hb] at h9; exact h9)
                rw [hbd]
                obtain ⟨A1, n1, c1, z1, hb1, hcut1⟩ := HBSc.out.cut 4 (by omega)
                have hcut1' : ∀ W : World, (Instr.slice 24 (.slice (some ad) n c) (some (.int .i64 4)) none none).run Tryd.prog W = .ok (.slice A1 n1 c1) W := hcut1
                have HB1 := Aside0.mk hb1
                clear hb hbd HL hcut1 hb1
                go_wp2
                go_roundg g'
                case measure => omega
                case rel => exact ⟨HBc.out, A1, n1, c1, _, rfl, HB1, ⟨by rw [Lib.ext_list, HE.out]⟩, by omega, by omega⟩
        · have e2 : ¬ ((X : Int) % 8 = 2) := by omega
          have e3 : ¬ ((X : Int) % 8 = 3) := by omega
          have e4 : ¬ ((X : Int) % 8 = 4) := by omega
          have e2b : (((X : Int) % 8) == 2) = false := beq_eq_false_iff_ne.mpr e2
          have e3b : (((X : Int) % 8) == 3) = false := beq_eq_false_iff_ne.mpr e3
          have e4b : (((X : Int) % 8) == 4) = false := beq_eq_false_iff_ne.mpr e4
          simp only [Lib.checkN, s2, s3, s4, if_false] at hlead
          have HL := Aside0.mk hlead
          clear hlead
          go_wp2_with (first
            | ((with_reducible refine gate_dst (N := 6) rfl ?_); refine box_event ?hg (N := 6) ?hd (cs := #[.int .u8 0, .int .u8 0]) (t := 72) ?hr ?_; (case hd => rfl); (case hg => rfl); (case hr => first | (go_simp; done) | (go_simp; rfl)); intro g6 hg w5 hbox hb; have HBa := Aside0.mk (below_step HBW.out hb); have G6 := Aside0.mk (show w.heap.size ≤ g6 by rw [hg]; exact GW.out); have BKa := Aside0.mk hbox; have HBS5 := Aside0.mk (HB.out.below hb); have HBb := Aside0.mk (show Below wd.heap.size wd w5 from hb); have GG := Aside0.mk (show wd.heap.size ≤ g6 by rw [hg]; exact Nat.le_refl _); have ck0 := (blk_cell BKa.out 0).trans (show _ = some (.int .u8 0) from rfl); have ckf0 := blk_frozen BKa.out 0; have ck1 := (blk_cell BKa.out 1).trans (show _ = some (.int .u8 0) from rfl); have ckf1 := blk_frozen BKa.out 1; clear hbox hb hg)
            | ((with_reducible refine gate_store (t := 72) (p := 6) rfl ?_); refine store_event (t := 72) (p := 6) (v := ?vo6) (w1 := (w5.setCell ⟨g6, 0, none⟩ (.int .u8 (LO : Int))).setCell ⟨g6, 1, none⟩ (.int .u8 (HI : Int))) ?hg ?ho ?hn ?hr ?_; (case ho => rfl); (case hg => rfl); (case hn => rfl); (case hr => first | (go_simp; done) | (go_simp; rfl)); intro w6 hw; have BK := Aside0.mk (show w6.heap[g6]? = some (.cells #[.int .u8 (LO : Int), .int .u8 (HI : Int)] 72 (0, 0)) from by rw [hw]; exact blk_put (cs := #[.int .u8 (LO : Int), .int .u8 0]) (blk_put (cs := #[.int .u8 0, .int .u8 0]) BKa.out 0 _ rfl) 1 _ rfl); have HB6 := Aside0.mk (show Below w.heap.size w w6 from by rw [hw]; exact below_set (below_set HBa.out G6.out) G6.out); have HBS6 := Aside0.mk (show BS w6 (some ad) n c t from by rw [hw]; exact HB.out.below (below_set (below_set HBb.out GG.out) GG.out)); clear hw ck0 ckf0 ck1 ckf1))
          go_ret
          exact ⟨by rw [HL.out]; rfl, HB6.out⟩
end Go.Proofs.YtmiemfgcggkbnaaDoor.QT
