/- parseT61String, walked: it lays each byte down as a rune. -/
import Derived.Test.YtmiemfgcggkbnaaDoorVa
import Derived.Laws.MakeOwn
import Derived.Lib.ValidAsc
import Derived.Lib.ValidLaws
import Derived.Lib.EndianBits
import Derived.Shelf.Unicode.DecodeSlow
import Derived.Laws.BitsAllLaws
namespace Go.Proofs.YtmiemfgcggkbnaaDoor.QT
open Go.BigFrame
open Go.RowKit Go.Proofs.YtmiemfgcggkbnaaDoorW.PrintWords Go.Proofs.YtmiemfgcggkbnaaDoorW.PrintLast Go.Proofs.YtmiemfgcggkbnaaDoorW.PrintMore
set_option linter.unusedVariables false
set_option linter.unusedSimpArgs false
theorem rd_mem {l : List Int} {k : Nat} (h : k < l.length) : rd l (k : Int) ∈ l := by
  unfold rd
  rw [Int.toNat_natCast, List.getD_eq_getElem?_getD, List.getElem?_eq_getElem h]
  exact List.getElem_mem h
theorem rd_take' (l : List Int) (k : Nat) (hk : k < l.length) : l.take (k + 1) = l.take k ++ [rd l (k : Int)] := by
  rw [List.take_succ_eq_append_getElem hk]
  unfold rd
  rw [Int.toNat_natCast, List.getD_eq_getElem?_getD, List.getElem?_eq_getElem hk]
  rfl
/-- A character below 256 in UTF-8. -/
def putB (r : Int) : List Int := if r ≤ 127 then [r] else [192 + r / 64, 128 + r % 64]
theorem putB_len (r : Int) : (putB r).length ≤ 2 := by
  unfold putB
  split <;> simp
theorem flat_len : ∀ l : List Int, (l.flatMap putB).length ≤ 2 * l.length
  | [] => by simp
  | x :: r => by
    have := flat_len r
    have := putB_len x
    simp only [List.flatMap_cons, List.length_append, List.length_cons]
    omega
theorem append_rune (k : Nat) (l : List Int) (r : Int) (h0 : 0 ≤ r) (h255 : r ≤ 255) (hl : l.length ≤ 100000) : utf8_AppendRune.f k l r = some (l ++ putB r) := by
  unfold utf8_AppendRune.f putB
  have e1 : r % 4294967296 = r := by omega
  rw [e1]
  by_cases h : r ≤ 127
  · rw [if_pos h, if_pos h, if_pos (by omega), show r % 256 = r by omega]
  · rw [if_neg h, if_neg h]
    unfold utf8_appendRuneNonASCII.f
    rw [e1, if_pos (by omega)]
    simp only [Option.bind_some]
    rw [if_pos (by simp; omega)]
    simp only [Option.bind_some]
    have e2 : Go.bits .or .u8 192 (r / 64 % 256) = 192 + r / 64 := by
      rcases (by omega : r / 64 = 2 ∨ r / 64 = 3 ∨ r / 64 = 1) with e | e | e <;> rw [e] <;> decide
    rw [e2]
theorem make_room (W : World) (base n : Nat) (hn : n ≤ 100000) (hb : base ≤ W.heap.size) : ∃ w1, (Instr.makeSlice 24 (.int .i64 0) (.int .i64 (n : Int))).run Tryd.prog W = .ok (.slice (some ⟨W.heap.size, 0, none⟩) 0 n) w1 ∧ Kd.R (Kd.int .u8) 5 w1 base (fun _ => True) (.slice (some ⟨W.heap.size, 0, none⟩) 0 n) [] ∧ W.grownBy w1 none := by
  obtain ⟨i0, hi0, hz, hsz, hby⟩ := info_parts info5
  obtain ⟨w1, h1, h2, h3⟩ := run_make_own (P := Tryd.prog) W base 24 5 i0 _ 1 Tryd.underlying24 hi0 hz hsz .i64 .i64 n (by rw [hby]; omega) (by unfold maxLen; omega) hb
  exact ⟨w1, h1, ⟨fun _ _ => trivial, [], h2, Reps.none _ _⟩, h3⟩
set_option maxHeartbeats 8000000 in
set_option maxRecDepth 100000 in
theorem T61_any (A0 : Option Addr) (c0 : Nat) (l : List Int) (w : World) (hr0 : Kd.C (Kd.int .u8) w A0 l.length l) (hc0 : l.length ≤ c0) (hby : bytesIn l) (hl : l.length ≤ 10000) :
    Calls Tryd.prog 25 #[.slice A0 l.length c0] w fun e w' => e = .returned (.tuple #[.string (strOfNums (l.flatMap putB)), .nilIface]) ∧ Below w.heap.size w w' := by
  obtain ⟨w1, hmk, ho, hgr⟩ := make_room w w.heap.size l.length (by omega) (Nat.le_refl _)
  have HB1 := Aside0.mk (show Below w.heap.size w w1 from (Below.refl w.heap.size w).grown hgr (Nat.le_refl _) (fun q hq => by cases hq))
  have HO1 := Aside0.mk ho
  have HR := Aside0.mk hr0
  have HC := Aside0.mk hc0
  have HY := Aside0.mk hby
  have hm : l.length ≤ 9223372036854775807 := by omega
  clear hr0 hc0 hby ho hgr
  go_enter Tryd.func25, Tryd.ntmps25
  go_wp2
  go_loopw [4, 12] (fun v4 v12 wr => ∃ k : Nat, v12 = .int .i64 (k : Int) ∧ k ≤ l.length ∧ Aside0 (Kd.R (Kd.int .u8) 5 wr w.heap.size (fun _ => True) v4 ((l.take k).flatMap putB)) ∧ Aside0 (Below w.heap.size w wr)) (fun _ v12 _ => l.length - (intOf v12).toNat)
  case atStart => exact ⟨0, rfl, Nat.zero_le _, ⟨HO1.out⟩, HB1⟩
  case round =>
    clear hmk HO1 HB1
    obtain ⟨k, rfl, hk, HO, HB⟩ := hrel
    generalize wr = wd at HO HB ⊢
    rename_i v4_
    by_cases hlt : k < l.length
    · have tl : decide ((k : Int) < (l.length : Int)) = true := decide_eq_true (by omega)
      have tln : decide (k < l.length) = true := decide_eq_true hlt
      have tq : (k : Int) < (l.length : Int) := by omega
      obtain ⟨ad, rfl, hx⟩ := Kd.at_int (Kd.C_below HR.out HB.out) (k : Int) (by omega) tq
      have bx := HY.out (rd l (k : Int)) (rd_mem hlt)
      obtain ⟨x, hX⟩ : ∃ x, x = rd l (k : Int) := ⟨_, rfl⟩
      rw [← hX] at hx bx
      have EX := Aside0.mk hX
      rw [show ((k : Int)).toNat = k from Int.toNat_natCast k] at hx
      have HF := Aside0.mk (append_rune 9 ((l.take k).flatMap putB) x bx.1 bx.2 (by have := flat_len (l.take k); have := List.length_take_le k l; omega))
      clear hX
      go_wp2_with (go_at_call 30; (with_reducible refine (utf8_AppendRune.calls 9 (fun _ => True) _ _ x _ w wd HB.out HO.out HF.out).mono ?_); rintro e w2 ⟨v5, rfl, ho, hb, hkp⟩; have HO2 := Aside0.mk ho; have HB2 := Aside0.mk hb; clear ho hb hkp)
      go_roundw
      case rel => exact ⟨k + 1, by go_num, by omega, ⟨by rw [rd_take' l k hlt, List.flatMap_append, ← EX.out]; simpa using Kd.R_mono HO2.out (fun _ _ => trivial)⟩, HB2⟩
      case measure => simp [intOf]; omega
    · have hkeq : k = l.length := by omega
      have tl : decide ((k : Int) < (l.length : Int)) = false := decide_eq_false (by omega)
      have tln : decide (k < l.length) = false := decide_eq_false hlt
      obtain ⟨O, hO⟩ : ∃ O : List Int, O = l.flatMap putB := ⟨_, rfl⟩
      have HO3 := Aside0.mk (show Kd.R (Kd.int .u8) 5 wd w.heap.size (fun _ => True) _ O from by have := HO.out; rw [hkeq, List.take_length, ← hO] at this; exact this)
      have EO := Aside0.mk hO
      clear HO hkeq hO
      obtain ⟨A5, c5, e5, hc5, hr5⟩ := Kd.R_reads HO3.out
      have hcv := Kd.C_string (P := Tryd.prog) (A := A5) (c := c5) Tryd.underlying24 Tryd.underlying5 Tryd.underlying9 hr5
      clear hr5 hc5
      subst e5
      go_wp2
      go_ret2
      exact ⟨by rw [← EO.out]; rfl, HB.out⟩
end Go.Proofs.YtmiemfgcggkbnaaDoor.QT
