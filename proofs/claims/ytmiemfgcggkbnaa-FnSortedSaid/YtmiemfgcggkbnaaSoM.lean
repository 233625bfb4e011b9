/- setEncoder.Encode walked. -/
import Derived.Test.YtmiemfgcggkbnaaSoL
import Derived.Test.YtmiemfgcggkbnaaSoJ
import Derived.StillTailTactics
import Derived.Laws.ByValue
namespace Go.Proofs.Ytmiemfgcggkbnaa.QS
set_option linter.unusedVariables false
set_option linter.unusedSimpArgs false
open Go.RowKit Go.Proofs.YtmiemfgcggkbnaaW.PrintWords Go.Proofs.YtmiemfgcggkbnaaW.PrintLast Go.Proofs.YtmiemfgcggkbnaaW.PrintMore
theorem row8_form {w : World} {base : Nat} {ok : Nat → Prop} {v : Value} {xs : List Int} (h : (Kd.int .u8).R 5 w base ok v xs) (hb : ∃ b, v.ownBlock = some b) : ∃ g cap, v = .slice (some ⟨g, 0, none⟩) xs.length cap ∧ base ≤ g ∧ g < w.heap.size := by
  have hown := Kd.own_of_R h
  rcases hown.2 with ⟨rfl, _⟩ | ⟨g, cap, cur, rfl, hb, hh, hnc, hcm, hcs, htake⟩
  · obtain ⟨b, hb⟩ := hb
    simp [Value.ownBlock] at hb
  · exact ⟨g, cap, rfl, hb, (Array.getElem?_eq_some_iff.1 hh).1⟩
theorem cell_move {w W : World} {a : Addr} (h : W.heap[a.block]? = w.heap[a.block]?) : W.cell? a = w.cell? a ∧ W.frozen? a = w.frozen? a := by
  simp only [World.cell?, World.frozen?, h]
  exact ⟨trivial, trivial⟩
theorem inv1_start {w w1 : World} {v : Value} {es : List El} (hb : Below w.heap.size w w1) (ho : KV.R 25 w1 w.heap.size (fun _ => True) v (List.replicate ((es.length : Nat) : Int).toNat nilEl)) : Inv1 w v es 0 w1 :=
  ⟨hb, [], rfl, rfl, by simpa using ho, fun p hp => by cases hp⟩
theorem inv1_cells {w wr w1 : World} {es : List El} {k n cap : Nat} {ad : Addr} {g : Nat} (had : ad = ⟨g, 0, none⟩) (h : Inv1 w (.slice (some ad) n cap) es k wr) (hk : k < es.length) (h1 : Below wr.heap.size wr w1) (u : Value) :
    w1.cell? (ad.add k) = some (.slice none 0 0) ∧ w1.frozen? (ad.add k) = false ∧ (w1.setCell (ad.add k) u).cell? (ad.add k) = some u := by
  subst had
  obtain ⟨h2, h3, h4, h5⟩ := inv1_cell h hk
  have hm := cell_move (a := (⟨g, 0, none⟩ : Addr).add k) (h1.block _ (by rw [add_block]; exact h4))
  refine ⟨hm.1.trans h2, hm.2.trans h3, ?_⟩
  have hc := hm.1.trans h2
  exact World.cell?_setCell_same' _ _ _ (by rw [hc]; rfl)
theorem Good.keep' {w W : World} {e : El} (h : Good w e) (hk : 0 < e.l.length → ∀ ad, e.a = some ad → W.heap[ad.block]? = w.heap[ad.block]?) : Good W e := by
  obtain ⟨hc, hl, hb⟩ := h
  have hr := Kd.reads_of_C (enc := Value.int .u8) (d := (0 : Int)) (h1 := fun _ => rfl) hc
  refine ⟨Kd.C_of_reads (d := (0 : Int)) (h1 := fun _ => rfl) (show ReadsOf (Value.int .u8) 0 W e.a e.l.length e.l from ⟨hr.1, hr.2.1, fun h => ?_⟩), hl, hb⟩
  obtain ⟨ad, hA, hcell⟩ := hr.2.2 h
  refine ⟨ad, hA, fun j hj => ?_⟩
  rw [← hcell j hj]
  have h9 := hk h ad hA
  have h8 : (ad.add j).block = ad.block := by unfold Addr.add; split <;> rfl
  simp only [World.cell?, h8, h9]
theorem r8_store {w : World} {base : Nat} {v : Value} {zs : List Int} {p : Addr} (ho : (Kd.int .u8).R 5 w base (fun _ => True) v zs) (hne : ∀ b, v.ownBlock = some b → b ≠ p.block) (u : Value) : (Kd.int .u8).R 5 (w.setCell p u).drew base (fun _ => True) v zs :=
  Kd.R_drew (Kd.R_of_own (own_move (Kd.own_of_R ho) (fun b hb => Below.heap_setCell w p u b (hne b hb))) (fun _ _ => trivial))
theorem inv1_step' {w wr w1 wS w3 : World} {es : List El} {k g n cap g5 c5 : Nat} {ad a5 : Addr} {x : El} (had : ad = ⟨g, 0, none⟩) (ha5 : a5 = ⟨g5, 0, none⟩) (hX : x = es.getD k nilEl) (h : Inv1 w (.slice (some ad) n cap) es k wr) (hk : k < es.length)
    (h1 : Below wr.heap.size wr w1) (hb5 : wr.heap.size ≤ g5) (hlt5 : g5 < w1.heap.size) (hS : w1.setCell (ad.add k) (.slice (some a5) x.l.length c5) = wS)
    (h3 : wS.drew.grownBy w3 (Value.slice (some a5) x.l.length c5).ownBlock)
    (ho : (Kd.int .u8).R 5 w3 wr.heap.size (fun _ => True) (.slice (some a5) x.l.length c5) x.l) (hx : bytesIn x.l) : Inv1 w (.slice (some ad) n cap) es (k + 1) w3 := by
  subst had ha5 hX hS
  exact inv1_step h hk h1 hb5 hlt5 ⟨h3.os, h3.tape, h3.output, h3.size, h3.block⟩ ho hx
theorem enc_ready {w wr w5 : World} {es : List El} {k g n cap g5 c5 : Nat} {ad a5 : Addr} {x : El} {zs : List Int} {u : Value} (had : ad = ⟨g, 0, none⟩) (ha5 : a5 = ⟨g5, 0, none⟩) (h : Inv1 w (.slice (some ad) n cap) es k wr) (hk : k < es.length)
    (h1 : Below wr.heap.size wr w5) (hb5 : wr.heap.size ≤ g5) (hgx : Good w x) (ho : (Kd.int .u8).R 5 w5 wr.heap.size (fun _ => True) (.slice (some a5) x.l.length c5) zs) :
    Good (w5.setCell (ad.add k) u).drew x ∧ (Kd.int .u8).R 5 (w5.setCell (ad.add k) u).drew wr.heap.size (fun _ => True) (.slice (some a5) x.l.length c5) zs := by
  subst had ha5
  obtain ⟨-, -, h4, h5⟩ := inv1_cell h hk
  have hb := h.1
  refine ⟨hgx.keep' fun hp ad9 h9 => ?_, r8_store ho (fun b hb9 => ?_) u⟩
  · obtain ⟨ad8, h8, hlt8⟩ := hgx.lt hp
    rw [h9] at h8
    obtain rfl := Option.some.inj h8
    show (w5.setCell _ u).heap[ad9.block]? = _
    rw [Below.heap_setCell w5 _ u ad9.block (by rw [add_block]; show ad9.block ≠ g; omega), h1.block _ (by have := hb.size; omega), hb.block _ hlt8]
  · rw [add_block]
    have : b = g5 := by simpa [Value.ownBlock] using hb9.symm
    show b ≠ g
    omega
theorem enc_fin {w wr : World} {es : List El} {vl : Value} (h : Inv1 w vl es es.length wr) : ∃ ps : List El, ps.length = es.length ∧ ps.map (·.l) = es.map (·.l) ∧ KV.R 25 wr w.heap.size (fun _ => True) vl ps ∧ (∀ p ∈ ps, Good wr p) ∧ (∀ p ∈ ps, Apart vl p) ∧ ∀ p ∈ ps, ∀ ad, p.a = some ad → w.heap.size ≤ ad.block ∧ ad.block < wr.heap.size := by
  obtain ⟨hb, ps, hl, hm, ho, hp⟩ := h
  rw [List.take_length] at hm
  rw [Nat.sub_self, List.replicate_zero, List.append_nil] at ho
  exact ⟨ps, hl, hm, ho, fun p h => (hp p h).1, fun p h ad had => ((hp p h).2 ad had).2.2, fun p h ad had => ⟨((hp p h).2 ad had).1, ((hp p h).2 ad had).2.1⟩⟩
/-- What the second loop needs of the world behind the sort. -/
structure Srt (w ws : World) (v : Value) (ad : Addr) (es : List El) : Prop where
  cell : ∀ k, k < es.length → ws.cell? (ad.add k) = some (.slice (es.getD k nilEl).a (es.getD k nilEl).l.length (es.getD k nilEl).c)
  good : ∀ p ∈ es, Good ws p
  far : ∀ p ∈ es, ∀ ad, p.a = some ad → some ad.block ≠ v.ownBlock ∧ ad.block < ws.heap.size
  row : some ad.block ≠ v.ownBlock ∧ ad.block < ws.heap.size
theorem tot_map {a b : List El} (h : a.map (·.l) = b.map (·.l)) : tot a = tot b := by
  have e : ∀ l : List El, tot l = ((l.map (·.l)).map List.length).sum := fun l => by simp [tot, List.map_map, Function.comp_def]
  rw [e, e, h]
theorem tot_perm {a b : List El} (h : a.Perm b) : tot a = tot b := by
  unfold tot
  exact (h.map fun e => e.l.length).sum_nat
theorem srt_of {w wr ws : World} {base n cv cap g : Nat} {Av : Option Addr} {ad : Addr} {zs : List Int} {ps es' : List El} {m : Nat} (had : ad = ⟨g, 0, none⟩) (hgS : w.heap.size ≤ g)
    (hb : Below w.heap.size w wr) (hg : wr.grownBy ws (Value.slice (some ad) m cap).ownBlock) (hperm : es'.Perm ps) (hR : KV.R 25 ws w.heap.size (fun _ => True) (.slice (some ad) m cap) es')
    (hgood : ∀ p ∈ ps, Good wr p) (hap : ∀ p ∈ ps, Apart (.slice (some ad) m cap) p) (hfar : ∀ p ∈ ps, ∀ ad, p.a = some ad → w.heap.size ≤ ad.block ∧ ad.block < wr.heap.size)
    (ho : (Kd.int .u8).R 5 w base (fun _ => True) (.slice Av n cv) zs) : Srt w ws (.slice Av n cv) ad es' ∧ (Kd.int .u8).R 5 ws base (fun _ => True) (.slice Av n cv) zs := by
  have hv : ∀ b, (Value.slice Av n cv).ownBlock = some b → b < w.heap.size := own_lt (Kd.own_of_R ho)
  have hown : (Value.slice (some ad) m cap).ownBlock = some g := by rw [had]; simp [Value.ownBlock]
  have hws : wr.heap.size ≤ ws.heap.size := hg.size
  have hsame : ∀ b, b < wr.heap.size → b ≠ g → ws.heap[b]? = wr.heap[b]? := fun b h1 h2 => hg.block b h1 (by rw [hown]; intro h; injection h with h; exact h2 h)
  have hs : w.heap.size ≤ wr.heap.size := hb.size
  refine ⟨⟨fun k hk => ?_, fun p hp => ?_, fun p hp ad9 h9 => ?_, ?_⟩, ?_⟩
  · obtain ⟨A', c', e9, hc9, hr9⟩ := Kd.R_reads hR
    injection e9 with e1 e2 e3
    obtain ⟨ad', hA, hc⟩ := at_KV hr9 k hk
    rw [← e1] at hA
    obtain rfl := Option.some.inj hA
    exact hc
  · have hp' := hperm.mem_iff.1 hp
    refine (hgood p hp').keep fun ad9 h9 => hsame _ (hfar p hp' ad9 h9).2 (fun h => hap p hp' ad9 h9 (by rw [hown, h]))
  · have hp' := hperm.mem_iff.1 hp
    obtain ⟨f1, f2⟩ := hfar p hp' ad9 h9
    exact ⟨fun h => by have := hv _ h.symm; omega, by omega⟩
  · subst had
    refine ⟨fun h => by have h8 := hv _ h.symm; simp at h8; omega, ?_⟩
    exact own_lt (Kd.own_of_R (enc := El.v) (h1 := El.one) hR) g hown
  · have h1 := Kd.R_below ho hb
    exact Kd.R_of_own (own_move (Kd.own_of_R h1) (fun b hb9 => hsame b (by have := hv b hb9; omega) (by have := hv b hb9; omega))) (fun _ _ => trivial)
theorem inv2_start {ws : World} {base : Nat} {v : Value} {es : List El} {N : Nat} {zs : List Int} (ho : (Kd.int .u8).R 5 ws base (fun _ => True) v zs) (hl : zs.length = N) : Inv2 ws base v es N 0 ws :=
  ⟨World.grownBy.refl ws _, zs, ho, hl, by simp [tot]⟩
theorem inv2_facts {w ws wr : World} {base : Nat} {v : Value} {es : List El} {N k : Nat} {ad : Addr} (hS : Srt w ws v ad es) (h : Inv2 ws base v es N k wr) (hk : k < es.length) :
    wr.cell? (ad.add k) = some (.slice (es.getD k nilEl).a (es.getD k nilEl).l.length (es.getD k nilEl).c) ∧ Good wr (es.getD k nilEl) := by
  have hg := h.1
  refine ⟨?_, (hS.good _ (getD_mem hk)).keep fun ad9 h9 => ?_⟩
  · rw [(cell_move (hg.block _ (by rw [add_block]; exact hS.row.2) (by rw [add_block]; exact hS.row.1))).1]
    exact hS.cell k hk
  · obtain ⟨f1, f2⟩ := hS.far _ (getD_mem hk) ad9 h9
    exact hg.block _ f2 f1
theorem enc_done {w wr ws wz : World} {base n cv g cap m : Nat} {Av : Option Addr} {ad : Addr} {es ps es' : List El} (had : ad = ⟨g, 0, none⟩) (hgS : w.heap.size ≤ g) (hb : Below w.heap.size w wr) (hg : wr.grownBy ws (Value.slice (some ad) m cap).ownBlock)
    (hperm : es'.Perm ps) (hm : ps.map (·.l) = es.map (·.l)) (hpw : Asc (es'.map (·.l))) (hn : tot es' = n) (h : Inv2 ws base (.slice Av n cv) es' n es'.length wz) :
    ∃ ls : List (List Int), ls.Perm (es.map (·.l)) ∧ Asc ls ∧ (Kd.int .u8).R 5 wz base (fun _ => True) (.slice Av n cv) ls.flatten ∧ w.grownBy wz (Value.slice Av n cv).ownBlock := by
  obtain ⟨hgr, zs, ho, hl, ht⟩ := h
  rw [List.take_length, hn, List.take_of_length_le (by omega)] at ht
  have hown : (Value.slice (some ad) m cap).ownBlock = some g := by rw [had]; simp [Value.ownBlock]
  refine ⟨es'.map (·.l), by rw [← hm]; exact hperm.map _, hpw, by rw [← ht]; exact ho, ?_⟩
  have s1 := hb.size
  have s2 := hg.size
  have s3 := hgr.size
  refine ⟨hgr.os.trans (hg.os.trans hb.os), hgr.tape.trans (hg.tape.trans hb.tape), hgr.output.trans (hg.output.trans hb.output), by omega, fun b hb1 hb2 => ?_⟩
  rw [hgr.block b (by omega) hb2, hg.block b (by omega) (by rw [hown]; intro h9; injection h9 with h9; omega), hb.block b hb1]
set_option maxHeartbeats 8000000 in
set_option maxRecDepth 100000 in
theorem se_Encode (A : Option Addr) (c : Nat) (es : List El) (Av : Option Addr) (n cv : Nat) (base : Nat) (zs : List Int) (w : World) (hr : KI.C w A es.length es) (hg : ∀ e ∈ es, Good w e) (ho : (Kd.int .u8).R 5 w base (fun _ => True) (.slice Av n cv) zs) (hn : tot es = n) (hl : zs.length = n) (ht : tot es ≤ 1000000) (hn1 : es.length ≤ 1000) :
    Calls Try.prog 125 #[.slice A es.length c, .slice Av n cv] w fun e w' => e = .returned (.tuple #[]) ∧ ∃ ls : List (List Int), ls.Perm (es.map (·.l)) ∧ Asc ls ∧ (Kd.int .u8).R 5 w' base (fun _ => True) (.slice Av n cv) ls.flatten ∧ w.grownBy w' (Value.slice Av n cv).ownBlock := by
  have HR := Aside0.mk hr
  have HG := Aside0.mk hg
  have HO := Aside0.mk ho
  have HN := Aside0.mk hn
  have HZ := Aside0.mk hl
  have HT := Aside0.mk ht
  have HN1 := Aside0.mk hn1
  have HB := Aside0.mk (Below.refl w.heap.size w)
  have hu113 := Try.underlying113
  have hu22 := Try.underlying22
  clear hr hg ho hn hl ht
  go_enter Try.func125, Try.ntmps125
  go_wp2_with ((with_reducible refine gate_dst (N := 12) rfl ?_); refine Kd.R_make KV (w0 := w) w.heap.size 25 ?hg (N := 12) ?hd 22 (.tmp 11) (.tmp 11) rfl (es.length : Int) rfl rfl Try.underlying22 (.slice none 0 0) 24 info25 rfl (by decide) (by decide) nilEl (okp := fun _ => True) (ok := fun _ => True) ?hzero (fun _ h => h) trivial (by omega) (by omega) ?hB ?hbase ?_; (case hd => rfl); (case hg => rfl); (case hzero => rfl); (case hB => exact HB.out); (case hbase => exact Nat.le_refl _); intro v1 w1 ho1 hb1 hg1 hnew1; have HI := Aside0.mk (inv1_start hb1 ho1); (obtain ⟨g, cap, cur, hv, hbg, -⟩ := row_form ho1 (let ⟨b, hb, _⟩ := hnew1; ⟨b, hb⟩)); (rw [List.length_replicate, Int.toNat_natCast] at hv); (obtain ⟨ad, had⟩ : ∃ ad, ad = (⟨g, 0, none⟩ : Addr) := ⟨_, rfl⟩); rw [← had] at hv; subst hv; have HAD := Aside0.mk had; have HGg := Aside0.mk hbg; clear ho1 hb1 hg1 hnew1 had hbg cur)
  go_loopw [15] (fun v15 wr => ∃ (k : Nat) (wc : World), v15 = .int .i64 (k : Int) ∧ k ≤ es.length ∧ Aside0 (Inv1 w (.slice (some ad) es.length cap) es k wc) ∧ wr = wc) (fun v15 _ => es.length - (intOf v15).toNat)
  case atStart => exact ⟨0, _, rfl, Nat.zero_le _, HI, rfl⟩
  case round =>
    clear HI
    obtain ⟨k, wc, rfl, hk, HI, rfl⟩ := hrel
    by_cases hlt : k < es.length
    · have tl : decide ((k : Int) < (es.length : Int)) = true := decide_eq_true (by omega)
      have tln : decide (k < es.length) = true := decide_eq_true hlt
      have tq : (k : Int) < (es.length : Int) := by omega
      have p7 : (0 ≤ (k : Int)) = True := eq_true (by omega)
      have q7 := eq_true tq
      have q8 := eq_true hlt
      obtain ⟨ae, hA, hx⟩ := at_KI (Kd.C_below HR.out HI.out.1) k hlt
      subst hA
      have HGX := Aside0.mk ((HG.out _ (getD_mem hlt)).below HI.out.1)
      obtain ⟨x, hX⟩ : ∃ x, x = es.getD k nilEl := ⟨_, rfl⟩
      rw [← hX] at hx HGX
      have HX := Aside0.mk hX
      clear hX
      have HXL := Aside0.mk (show x.l.length ≤ 1000000 from Nat.le_trans (by have h8 := tot_take es (k + 1); rw [take_snoc es k nilEl hlt, tot_snoc, ← HX.out] at h8; omega) HT.out)
      have hm1 := fun (w : World) => (show (Go.method 270 114 (.slice x.a x.l.length x.c) "Len").run Try.prog w = .ok (129, .slice x.a x.l.length x.c) w from by kernel_rfl)
      have hm3 := fun (w : World) => (show (Go.nilAhead 270 114 (.slice x.a x.l.length x.c) "Encode").run Try.prog w = .ok (some false) w from by kernel_rfl)
      have hm2 := fun (w : World) => (show (Go.method 270 114 (.slice x.a x.l.length x.c) "Encode").run Try.prog w = .ok (128, .slice x.a x.l.length x.c) w from by kernel_rfl)
      go_wp2_with (first
        | (go_at_call 129; (with_reducible refine (be_Len' x _).mono ?_); rintro e w2 ⟨rfl, rfl⟩)
        | ((with_reducible refine gate_dst (N := 24) rfl ?_); refine Kd.R_make (Kd.int .u8) (w0 := wr) wr.heap.size 5 ?hg (N := 24) ?hd 25 (.tmp 23) (.tmp 23) rfl (x.l.length : Int) rfl rfl Try.underlying25 (.int .u8 0) 1 info5 rfl (by decide) (by decide) 0 (okp := fun _ => True) (ok := fun _ => True) ?hzero (fun _ h => h) trivial (by omega) (by have := HXL.out; omega) ?hB ?hbase ?_; (case hd => rfl); (case hg => rfl); (case hzero => rfl); (case hB => exact Below.refl _ _); (case hbase => exact Nat.le_refl _); intro v5 w5 ho5 hb5 hg5 hnew5; (obtain ⟨g5, c5, hv5, hbg5, hlt5⟩ := row8_form ho5 (let ⟨b, hb, _⟩ := hnew5; ⟨b, hb⟩)); (rw [List.length_replicate, Int.toNat_natCast] at hv5); (obtain ⟨a5, ha5⟩ : ∃ a5, a5 = (⟨g5, 0, none⟩ : Addr) := ⟨_, rfl⟩); rw [← ha5] at hv5; subst hv5; have HA5 := Aside0.mk ha5; have HO5 := Aside0.mk ho5; have HB5 := Aside0.mk hb5; have HG5 := Aside0.mk hbg5; have HL5 := Aside0.mk hlt5; (obtain ⟨hc1, hc2, hc3⟩ := inv1_cells HAD.out HI.out hlt hb5 (.slice (some a5) x.l.length c5)); clear ho5 hb5 hg5 hnew5 ha5 hbg5 hlt5))
      have HER := Aside0.mk (enc_ready (u := .slice (some a5) x.l.length c5) HAD.out HA5.out HI.out hlt HB5.out HG5.out (by rw [HX.out]; exact HG.out _ (getD_mem hlt)) HO5.out)
      generalize hwS : w5.setCell (ad.add k) (.slice (some a5) x.l.length c5) = wS at hc3 HER ⊢
      have HWS := Aside0.mk hwS
      clear hwS hc1 hc2
      have hcd : World.cell? { heap := wS.heap, tape := wS.tape, drawn := wS.drawn + 1, os := wS.os, output := wS.output } (ad.add k) = some (.slice (some a5) x.l.length c5) := hc3
      go_still_tail 8, (by kernel_rfl)
      change wpList _ _ _ _ _ wS.drew
      clear hcd hc3
      go_wp2_with (go_at_call 128; (with_reducible refine (be_Encode x (fun _ => True) (.slice (some a5) x.l.length c5) _ _ _ HER.out.1 HER.out.2 (by simp)).mono ?_); rintro e w9 ⟨rfl, ho9, hg9⟩; have HI9 := Aside0.mk (inv1_step' HAD.out HA5.out HX.out HI.out hlt HB5.out HG5.out HL5.out HWS.out hg9 ho9 HGX.out.2.2); clear ho9 hg9)
      go_roundw
      case rel => exact ⟨k + 1, _, by go_num, by omega, HI9, rfl⟩
      case measure => simp [intOf]; omega
    · have hkeq : k = es.length := by omega
      have tl : decide ((k : Int) < (es.length : Int)) = false := decide_eq_false (by omega)
      have tln : decide (k < es.length) = false := decide_eq_false hlt
      have HI9 := Aside0.mk (show Inv1 w (.slice (some ad) es.length cap) es es.length wr from hkeq ▸ HI.out)
      clear HI hkeq
      obtain ⟨ps, hpl, hpm, hpR, hpg, hpa, hpf⟩ := enc_fin HI9.out
      have HPM := Aside0.mk hpm
      have HPL := Aside0.mk hpl
      have HPR := Aside0.mk hpR
      have HPG := Aside0.mk hpg
      have HPA := Aside0.mk hpa
      have HPF := Aside0.mk hpf
      have HGS := Aside0.mk (show w.heap.size ≤ g from HGg.out)
      clear hpl hpm hpR hpg hpa hpf
      go_wp2_with (go_at_call 15; (with_reducible refine (sort_call127 (.slice (some ad) es.length cap) ps w.heap.size (fun _ => True) _ HPR.out HPG.out HPA.out (by have h1 := HPL.out; have h2 := HN1.out; omega)).mono ?_); rintro e ws ⟨rfl, es', hperm, hpw, hR', hg'⟩; have HPE := Aside0.mk hperm; have HPW := Aside0.mk hpw; have HSR := Aside0.mk (srt_of HAD.out HGS.out HI9.out.1 hg' hperm hR' HPG.out HPA.out HPF.out HO.out); have HGR := Aside0.mk hg'; have HLE := Aside0.mk (hperm.length_eq.trans HPL.out); have HTE := Aside0.mk ((tot_perm hperm).trans ((tot_map HPM.out).trans HN.out)); clear hperm hpw hR' hg')
      go_loopw [7, 40] (fun v7 v40 wr2 => ∃ (k2 : Nat) (wc2 : World), v7 = .int .i64 (tot (es'.take k2) : Int) ∧ v40 = .int .i64 (k2 : Int) ∧ k2 ≤ es.length ∧ Aside0 (Inv2 ws base (.slice Av n cv) es' n k2 wc2) ∧ wr2 = wc2) (fun _ v40 _ => es.length - (intOf v40).toNat)
      case atStart => exact ⟨0, _, rfl, rfl, Nat.zero_le _, ⟨inv2_start HSR.out.2 HZ.out⟩, rfl⟩
      case round =>
        obtain ⟨k2, wc2, rfl, rfl, hk2, HI2, rfl⟩ := hrel
        by_cases hlt2 : k2 < es.length
        · have hlt3 : k2 < es'.length := by have := HLE.out; omega
          obtain ⟨hx2, hgx2⟩ := inv2_facts HSR.out.1 HI2.out hlt3
          obtain ⟨D, w1', hcut, hcopy, hI3⟩ := inv2_step HTE.out HI2.out hlt3 hgx2
          have HI3 := Aside0.mk hI3
          have HSN := Aside0.mk (show tot (es'.take k2) + (es'.getD k2 nilEl).l.length = tot (es'.take (k2 + 1)) from by rw [take_snoc es' k2 nilEl hlt3, tot_snoc])
          have HSB := Aside0.mk (show tot (es'.take (k2 + 1)) ≤ 1000000 from Nat.le_trans (tot_take es' (k2 + 1)) (by have h1 := HTE.out; have h2 := HN.out; have h3 := HT.out; omega))
          clear hgx2 hI3
          obtain ⟨x2, hX2⟩ : ∃ x2, x2 = es'.getD k2 nilEl := ⟨_, rfl⟩
          obtain ⟨s2, hs2⟩ : ∃ s2, s2 = tot (es'.take k2) := ⟨_, rfl⟩
          rw [← hX2] at hx2 hcopy HSN
          rw [← hs2] at hcut hcopy HSN ⊢
          clear hX2 hs2
          have tl2 : decide ((k2 : Int) < (es.length : Int)) = true := decide_eq_true (by omega)
          have tln2 : decide (k2 < es.length) = true := decide_eq_true hlt2
          have tq2 : (k2 : Int) < (es.length : Int) := by omega
          have p72 : (0 ≤ (k2 : Int)) = True := eq_true (by omega)
          have q72 := eq_true tq2
          have q82 := eq_true hlt2
          go_wp2
          go_roundw
          case rel => exact ⟨k2 + 1, _, by have h1 := HSN.out; have h2 := HSB.out; congr 1; rw [← h1] at h2 ⊢; unfold wrap64; omega, by go_num, by omega, HI3, rfl⟩
          case measure => simp [intOf]; omega
        · have hkeq2 : k2 = es'.length := by have := HLE.out; omega
          have tl2 : decide ((k2 : Int) < (es.length : Int)) = false := decide_eq_false (by omega)
          have tln2 : decide (k2 < es.length) = false := decide_eq_false hlt2
          have HI8 := Aside0.mk (show Inv2 ws base (.slice Av n cv) es' n es'.length _ from hkeq2 ▸ HI2.out)
          clear hkeq2 HI2
          go_wp2
          go_end0
          exact ⟨rfl, enc_done HAD.out HGS.out HI9.out.1 HGR.out HPE.out HPM.out HPW.out HTE.out HI8.out⟩
end Go.Proofs.Ytmiemfgcggkbnaa.QS
