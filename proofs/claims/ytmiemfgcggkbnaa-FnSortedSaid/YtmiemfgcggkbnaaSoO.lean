/- impl.Sorted walked. -/
import Derived.Test.YtmiemfgcggkbnaaSoN
namespace Go.Proofs.Ytmiemfgcggkbnaa.QS
set_option linter.unusedVariables false
set_option linter.unusedSimpArgs false
open Go.RowKit Go.Proofs.YtmiemfgcggkbnaaW.PrintWords Go.Proofs.YtmiemfgcggkbnaaW.PrintLast Go.Proofs.YtmiemfgcggkbnaaW.PrintMore
def Inv3 (w : World) (es : List El) (k : Nat) (v4 : Value) (ps : List El) (wr : World) : Prop :=
  Below w.heap.size w wr ∧ ps.length = k ∧ ps.map (·.l) = (es.take k).map (·.l) ∧ KV.R 25 wr w.heap.size (fun _ => True) v4 ps ∧ ∀ p ∈ ps, Good wr p ∧ ∀ ad, p.a = some ad → ad.block < wr.heap.size ∧ some ad.block ≠ v4.ownBlock
theorem inv3_step {w wr w2 w3 : World} {es ps : List El} {k : Nat} {v4 v1 : Value} {A5 : Option Addr} {c5 : Nat} {x : El} (h : Inv3 w es k v4 ps wr) (hk : k < es.length) (hX : x = es.getD k nilEl) (hxb : bytesIn x.l)
    (h2 : Below wr.heap.size wr w2) (ho2 : (Kd.int .u8).R 5 w2 wr.heap.size (fun _ => True) (.slice A5 x.l.length c5) x.l) (hR : KV.R 25 w3 w.heap.size (fun _ => True) v1 (ps ++ [⟨A5, c5, x.l⟩])) (hb3 : Below w.heap.size w w3)
    (hg3 : w2.grownBy w3 v4.ownBlock) (hat : v1.ownBlock = v4.ownBlock ∨ ∃ b, v1.ownBlock = some b ∧ w2.heap.size ≤ b) : Inv3 w es (k + 1) v1 (ps ++ [⟨A5, c5, x.l⟩]) w3 := by
  obtain ⟨hb, hl, hm, hR0, hp⟩ := h
  have hv4 : ∀ b, v4.ownBlock = some b → b < wr.heap.size := own_lt (Kd.own_of_R (enc := El.v) (h1 := El.one) hR0)
  have s2 := h2.size
  have s3 := hg3.size
  refine ⟨hb3, by simp [hl], by rw [List.map_append, hm, take_snoc es k nilEl hk, List.map_append, ← hX]; rfl, hR, fun p hpm => ?_⟩
  rw [List.mem_append] at hpm
  rcases hpm with hpm | hpm
  · obtain ⟨hg, ha⟩ := hp p hpm
    refine ⟨hg.keep fun ad had => ?_, fun ad had => ?_⟩
    · obtain ⟨a1, a2⟩ := ha ad had
      rw [hg3.block _ (by omega) a2, h2.block _ a1]
    · obtain ⟨a1, a2⟩ := ha ad had
      refine ⟨by omega, ?_⟩
      rcases hat with h9 | ⟨b, h9, h8⟩
      · rw [h9]; exact a2
      · rw [h9]; intro h7; injection h7 with h7; omega
  · rw [List.mem_singleton] at hpm
    subst hpm
    have hown := own_base (Kd.own_of_R ho2)
    have hlt := own_lt (Kd.own_of_R ho2)
    obtain ⟨A', c', e9, hc9, hr9⟩ := Kd.R_reads ho2
    injection e9 with e1 e2 e3
    subst e1 e3
    have hblk : ∀ ad, A5 = some ad → wr.heap.size ≤ ad.block ∧ ad.block < w2.heap.size := by
      intro ad had
      rcases (Kd.own_of_R ho2).2 with ⟨h9, _⟩ | ⟨g, cap, cur, h9, hbg, hh, _⟩
      · injection h9 with h9
        rw [h9] at had
        cases had
      · injection h9 with h9
        rw [h9] at had
        injection had with had
        subst had
        exact ⟨hbg, (Array.getElem?_eq_some_iff.1 hh).1⟩
    refine ⟨(Good.keep (w := w2) ⟨hr9, hc9, hxb⟩ fun ad had => ?_), fun ad had => ?_⟩
    · obtain ⟨b1, b2⟩ := hblk ad had
      exact hg3.block _ b2 (fun h9 => by have := hv4 _ h9.symm; omega)
    · obtain ⟨b1, b2⟩ := hblk ad had
      refine ⟨by omega, ?_⟩
      rcases hat with h9 | ⟨b, h9, h8⟩
      · rw [h9]; intro h7; have := hv4 _ h7.symm; omega
      · rw [h9]; intro h7; injection h7 with h7; omega
theorem SrtTo_map {w : World} {a b : List El} {e : Ending} {w' : World} (h : a.map (·.l) = b.map (·.l)) (hs : SrtTo w a e w') : SrtTo w b e w' := by
  unfold SrtTo at *
  rw [← h]
  exact hs
set_option maxHeartbeats 8000000 in
set_option maxRecDepth 100000 in
theorem im_Sorted (A : Option Addr) (c : Nat) (es : List El) (w : World) (hr : KV.C w A es.length es) (hg : ∀ e ∈ es, Good w e) (ht : tot es ≤ 10000) (hn1 : es.length ≤ 1000) : Calls Try.prog 18 #[.slice A es.length c] w (SrtTo w es) := by
  have HR := Aside0.mk hr
  have HG := Aside0.mk hg
  have HT := Aside0.mk ht
  have HN1 := Aside0.mk hn1
  have HI0 := Aside0.mk (show Inv3 w es 0 (.slice none 0 0) [] w from ⟨Below.refl _ _, rfl, rfl, Kd.R_nil KV 25 w w.heap.size (fun _ => True), fun p hp => by cases hp⟩)
  have hu22 := Try.underlying22
  have t1 : decide ((es.length : Int) > 1000) = false := decide_eq_false (by omega)
  have t1' : decide ((1000 : Int) < (es.length : Int)) = false := decide_eq_false (by omega)
  have t1n : decide (1000 < es.length) = false := decide_eq_false (by omega)
  have t2 : decide ((10000 : Int) < (tot es : Int)) = false := decide_eq_false (by omega)
  have t2n : decide (10000 < tot es) = false := decide_eq_false (by omega)
  clear hr hg ht
  go_enter Try.func18, Try.ntmps18
  go_wp2
  go_loopw [3, 4, 12] (fun v3 v4 v12 wr => ∃ (k : Nat) (ps : List El) (wc : World), v3 = .int .i64 (tot (es.take k) : Int) ∧ v12 = .int .i64 (k : Int) ∧ k ≤ es.length ∧ Aside0 (Inv3 w es k v4 ps wc) ∧ wr = wc) (fun _ _ v12 _ => es.length - (intOf v12).toNat)
  case atStart => exact ⟨0, [], _, rfl, rfl, Nat.zero_le _, HI0, rfl⟩
  case round =>
    clear HI0
    obtain ⟨k, ps, wc, rfl, rfl, hk, HI, rfl⟩ := hrel
    by_cases hlt : k < es.length
    · have tl : decide ((k : Int) < (es.length : Int)) = true := decide_eq_true (by omega)
      have tln : decide (k < es.length) = true := decide_eq_true hlt
      have tq : (k : Int) < (es.length : Int) := by omega
      have p7 : (0 ≤ (k : Int)) = True := eq_true (by omega)
      have q7 := eq_true tq
      have q8 := eq_true hlt
      obtain ⟨ae, hA, hx⟩ := at_KV (Kd.C_below HR.out HI.out.1) k hlt
      subst hA
      have HGX := Aside0.mk ((HG.out _ (getD_mem hlt)).below HI.out.1)
      have HSN := Aside0.mk (show tot (es.take k) + (es.getD k nilEl).l.length = tot (es.take (k + 1)) from by rw [take_snoc es k nilEl hlt, tot_snoc])
      have HSB := Aside0.mk (show tot (es.take (k + 1)) ≤ 10000 from Nat.le_trans (tot_take es (k + 1)) HT.out)
      obtain ⟨x, hX⟩ : ∃ x, x = es.getD k nilEl := ⟨_, rfl⟩
      rw [← hX] at hx HGX HSN
      have HX := Aside0.mk hX
      have HF := Aside0.mk (show impl_copied.f x.l = some x.l by have h1 := HSN.out; have h2 := HSB.out; simp [impl_copied.f]; omega)
      obtain ⟨s0, hs0⟩ : ∃ s0, s0 = tot (es.take k) := ⟨_, rfl⟩
      rw [← hs0] at HSN ⊢
      have HPL := Aside0.mk (show ps.length ≤ 1000 from by have h1 := HI.out.2.1; omega)
      have HG1 := Aside0.mk HGX.out.1
      have HG2 := Aside0.mk HGX.out.2.1
      clear hX hs0
      go_wp2_with (first
        | (go_at_call 44; (with_reducible refine (impl_copied.calls _ _ x.l x.l _ HG1.out HG2.out HF.out).mono ?_); rintro e w2 ⟨v5, rfl, ho, hb⟩; (obtain ⟨A5, c5, hv5⟩ := R_slice ho); subst hv5; have HO2 := Aside0.mk ho; have HB2 := Aside0.mk hb; clear ho hb)
        | ((with_reducible refine gate_builtin (b := .append) (xs := #[.tmp 20, .tmp 23]) rfl ?_); at_builtin; refine Kd.R_append KV (w0 := w) w.heap.size rfl (.tmp 20) (.tmp 23) 22 25 (.slice none 0 0) 24 rfl Try.underlying22 info25 rfl (by decide) (by decide) _ ps (⟨A5, c5, x.l⟩ : El) [.slice A5 x.l.length c5] (fun _ => True) (fun _ => False) rfl rfl ?aP (fun _ hk => hk.elim) ?aF ?aO ?aB ?aS ?aL ?_; (case aP => exact rfl); (case aF => exact fun _ _ => trivial); (case aO => exact Kd.R_below HI.out.2.2.2.1 HB2.out); (case aB => exact below_step HI.out.1 HB2.out); (case aS => exact (below_step HI.out.1 HB2.out).size); (case aL => have := HPL.out; omega); intro v9 w9 ho9 hb9 hg9 hat9; have HI9 := Aside0.mk (inv3_step HI.out hlt HX.out HGX.out.2.2 HB2.out HO2.out ho9 hb9 hg9 hat9); clear ho9 hb9 hg9 hat9))
      go_roundw
      case rel => exact ⟨k + 1, _, _, by have h1 := HSN.out; have h2 := HSB.out; congr 1; rw [← h1] at h2 ⊢; unfold wrap64; omega, by go_num, by omega, HI9, rfl⟩
      case measure => simp [intOf]; omega
    · have hkeq : k = es.length := by omega
      have tl : decide ((k : Int) < (es.length : Int)) = false := decide_eq_false (by omega)
      have tln : decide (k < es.length) = false := decide_eq_false hlt
      obtain ⟨hb, hl, hm, hR, hp⟩ := HI.out
      rw [hkeq, List.take_length] at hm
      have hte : tot (es.take k) = tot es := by rw [hkeq, List.take_length]
      have hps : ps.length = es.length := by omega
      have HB4 := Aside0.mk hb
      have HM := Aside0.mk hm
      have HP := Aside0.mk (fun p h => (hp p h).1)
      have HPS := Aside0.mk hps
      obtain ⟨A', c', hv, hc', hr'⟩ := Kd.R_reads hR
      subst hv
      have HR' := Aside0.mk hr'
      rw [hte]
      clear hkeq hb hm hR hp hl hte hc' hr' HI hps
      go_wp2_with (go_at_call 45; (with_reducible refine (zz_Sorted A' c' ps _ HR'.out HP.out (by have h1 := tot_map HM.out; have h2 := HT.out; omega) (by have h1 := HPS.out; have h2 := HN1.out; omega)).mono ?_); rintro e w2 hz; have HZ := Aside0.mk (SrtTo_map HM.out (srt_low HB4.out hz)); (obtain ⟨v2, ls, rfl, -⟩ := hz))
      go_ret
      exact HZ.out
end Go.Proofs.Ytmiemfgcggkbnaa.QS
