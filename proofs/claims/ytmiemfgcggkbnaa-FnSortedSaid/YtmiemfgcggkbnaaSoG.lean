/- slices.SortFunc at rows of byte slices, from its contract. -/
import Derived.Test.YtmiemfgcggkbnaaSoC
import Derived.Shelf.SlSortCmp.Kit1
namespace Go.Proofs.Ytmiemfgcggkbnaa.QS
set_option linter.unusedVariables false
set_option linter.unusedSimpArgs false
open Go.RowKit Go.Proofs.YtmiemfgcggkbnaaW.PrintWords Go.Proofs.YtmiemfgcggkbnaaW.PrintLast Go.Proofs.YtmiemfgcggkbnaaW.PrintMore
open Go.Sort Go.Proofs Go.Lib
def cfA {W : World} {blk : Nat} (x y : Al W blk) : Int := cmpI x.1.l y.1.l
theorem swoA {W : World} {blk : Nat} : SWO (ltOf (cfA (W := W) (blk := blk))) where
  irrefl x := by unfold ltOf cfA; rw [cmpI_self]; rfl
  trans x y z h1 h2 := by
    unfold ltOf cfA at *
    simp only [decide_eq_true_eq] at *
    exact cmpI_trans _ _ _ h1 h2
  ntrans x y z h1 h2 := by
    unfold ltOf cfA at *
    simp only [decide_eq_false_iff_not] at *
    exact cmpI_ntrans _ _ _ h1 h2
/-- slices.SortFunc at rows of byte slices, under the comparison g. -/
def SortLaw (g : Nat) : Prop := ∀ (w : World) (blk cap : Nat) (d : Array (Al w blk)), CmpLays1 (α := Al w blk) Try.prog g #[] Al.v cfA blk 0 d.size w → Holds Al.v w blk 0 d → blk < w.heap.size → d.size < 4611686018427387904 →
  Calls Try.prog 15 #[.slice (some ⟨blk, 0, none⟩) d.size cap, .func (.func g) #[] #[]] w fun e w' =>
    e = .returned (.tuple #[]) ∧ ∃ d' n os, PermIn 0 d.size d d' ∧ SortedIn (ltOf (cfA (W := w) (blk := blk))) 0 d.size d' ∧ w' = sortWorld Al.v w blk 0 n d' os
def SortNone (g : Nat) : Prop := ∀ (w : World) (p : Option Addr) (cap : Nat), Calls Try.prog 15 #[.slice p 0 cap, .func (.func g) #[] #[]] w fun e w' => e = .returned (.tuple #[]) ∧ w' = w
/-- A comparison of byte slices. -/
def CmpIs (g : Nat) : Prop := ∀ (x y : El) (w : World), Good w x → Good w y → Calls Try.prog g #[x.v, y.v] w fun e w' => e = .returned (.int .i64 (cmpI x.l y.l)) ∧ ∃ q, w' = w.drewN q
theorem lays_of {g : Nat} (hc : CmpIs g) (w : World) (blk size : Nat) : CmpLays1 (α := Al w blk) Try.prog g #[] Al.v cfA blk 0 size w := by
  intro m os dk hs x y
  have h := hc x.1 y.1 (sortWorld Al.v w blk 0 m dk os) (good_sort x) (good_sort y)
  exact h.mono fun e w' ⟨he, q, hq⟩ => ⟨he, q, #[], by rw [hq, grow_empty]⟩
def Apart (v : Value) (e : El) : Prop := ∀ ad, e.a = some ad → some ad.block ≠ v.ownBlock
theorem extract_all {α : Type} (d : Array α) (n : Nat) (h : d.size = n) : (d.extract 0 n).toList = d.toList := by
  rw [← h]
  simp
set_option maxHeartbeats 1000000 in
theorem sort_call (g : Nat) (hS : SortLaw g) (hN : SortNone g) (hc : CmpIs g) (v : Value) (es : List El) (base : Nat) (ok : Nat → Prop) (w : World) (HO : KV.R 25 w base ok v es) (hg : ∀ e ∈ es, Good w e) (ha : ∀ e ∈ es, Apart v e) (hsz0 : es.length ≤ 1000000) :
    Calls Try.prog 15 #[v, .func (.func g) #[] #[]] w fun e w' => e = .returned (.tuple #[]) ∧ ∃ es', es'.Perm es ∧ Asc (es'.map (·.l)) ∧ KV.R 25 w' base ok v es' ∧ w.grownBy w' v.ownBlock := by
  have hown := Kd.own_of_R (enc := El.v) (h1 := El.one) HO
  rcases hown.2 with ⟨rfl, h0⟩ | ⟨blk, cap, cur, rfl, hb, hh, hnc, hcm, hcs, htake⟩
  · have he : es = [] := List.eq_nil_of_length_eq_zero h0
    subst he
    exact (hN w none 0).mono fun e w' ⟨he, hw⟩ => ⟨he, [], List.Perm.refl _, List.Pairwise.nil, by rw [hw]; exact HO, by rw [hw]; exact World.grownBy.refl w _⟩
  · have hblk : blk < w.heap.size := (Array.getElem?_eq_some_iff.1 hh).1
    have hal : ∀ e ∈ es, Good w e ∧ ∀ ad, e.a = some ad → ad.block ≠ blk := fun e he => ⟨hg e he, fun ad h9 h8 => ha e he ad h9 (by rw [h8]; simp [Value.ownBlock])⟩
    let ds : List (Al w blk) := es.attach.map fun e => ⟨e.1, hal e.1 e.2⟩
    have hds : ds.map (fun x => x.1) = es := by
      have h9 := List.attach_map_subtype_val es
      conv => rhs; rw [← h9]
      exact List.map_map
    have hlen : ds.length = es.length := by rw [← hds, List.length_map]
    have hv : ds.map Al.v = encs El.v es := by
      rw [← hds]
      simp [encs, Al.v]
    have hH : Holds Al.v w blk 0 ds.toArray := holds_of_blockE Al.v hh (by rw [hlen, hv]; simpa using htake)
    have hcall := hS w blk cap ds.toArray (lays_of hc w blk _) hH hblk (by simp [hlen]; omega)
    rw [show ds.toArray.size = es.length by simp [hlen]] at hcall
    refine hcall.mono fun e w' ⟨he, d', n, os, hp, hs, hw⟩ => ⟨he, d'.toList.map (fun x => x.1), ?_, ?_, ?_, ?_⟩
    · obtain ⟨p1, _, p3⟩ := hp
      rw [extract_all d' _ (by rw [p1]; simp [hlen]), extract_all _ _ (by simp [hlen])] at p3
      have h9 := p3.map (fun x => x.1)
      rw [show (ds.toArray.toList.map fun x => x.1) = es from hds] at h9
      exact h9
    · unfold Asc
      rw [List.map_map, List.pairwise_map]
      rw [List.pairwise_iff_getElem]
      intro i j hi hj hij
      have hsz : d'.size = es.length := by rw [hp.1]; simp [hlen]
      simp only [Array.length_toList] at hi hj
      have h9 := hs i j (by omega) hij (by omega)
      unfold ltOf cfA at h9
      simp only [decide_eq_false_iff_not] at h9
      rw [getElem!_pos d' i hi, getElem!_pos d' j hj] at h9
      simpa using h9
    · have hsz : d'.toList.length = es.length := by rw [Array.length_toList, hp.1]; simp [hlen]
      have hsz2 : d'.size = es.length := by rw [hp.1]; simp [hlen]
      rw [hw]
      have hrow : (sortWorld Al.v w blk 0 n d' os).ownsRow base 25 1 (.slice (some ⟨blk, 0, none⟩) es.length cap) (d'.toList.map (fun x => x.1)).length (encs El.v (d'.toList.map (fun x => x.1))) := by
        refine ⟨by simp [encs], .inr ⟨blk, cap, _, by simp [hsz2], hb, heap_sortedE Al.v d' hh, by simp [hsz2]; omega, hcm, by simp [putCells, hcs], ?_⟩⟩
        have h9 := take_putCellsE Al.v cur d'.toList (by omega)
        simp only [Array.toArray_toList] at h9
        simp only [Nat.mul_one, List.length_map]
        rw [h9]
        simp [encs, Al.v]
      exact Kd.R_of_own (enc := El.v) (h1 := El.one) hrow HO.1
    · rw [hw]
      exact grownBy_sortedE Al.v d'
end Go.Proofs.Ytmiemfgcggkbnaa.QS
