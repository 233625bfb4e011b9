/- A row of byte slices, one member set. -/
import Derived.Test.YtmiemfgcggkbnaaSoG
namespace Go.Proofs.Ytmiemfgcggkbnaa.QS
set_option linter.unusedVariables false
set_option linter.unusedSimpArgs false
open Go.RowKit Go.Proofs.YtmiemfgcggkbnaaW.PrintWords Go.Proofs.YtmiemfgcggkbnaaW.PrintLast Go.Proofs.YtmiemfgcggkbnaaW.PrintMore
/-! setEncoder.Encode: the first loop -/
theorem Good.keep {w W : World} {e : El} (h : Good w e) (hk : ∀ ad, e.a = some ad → W.heap[ad.block]? = w.heap[ad.block]?) : Good W e := by
  obtain ⟨hc, hl, hb⟩ := h
  have hr := Kd.reads_of_C (enc := Value.int .u8) (d := (0 : Int)) (h1 := fun _ => rfl) hc
  refine ⟨Kd.C_of_reads (d := (0 : Int)) (h1 := fun _ => rfl) (show ReadsOf (Value.int .u8) 0 W e.a e.l.length e.l from ⟨hr.1, hr.2.1, fun h => ?_⟩), hl, hb⟩
  obtain ⟨ad, hA, hcell⟩ := hr.2.2 h
  refine ⟨ad, hA, fun j hj => ?_⟩
  rw [← hcell j hj]
  have h9 := hk ad hA
  have h8 : (ad.add j).block = ad.block := by unfold Addr.add; split <;> rfl
  simp only [World.cell?, h8, h9]
theorem Good.lt {w : World} {e : El} (h : Good w e) (hp : 0 < e.l.length) : ∃ ad, e.a = some ad ∧ ad.block < w.heap.size := by
  have hr := Kd.reads_of_C (enc := Value.int .u8) (d := (0 : Int)) (h1 := fun _ => rfl) h.1
  obtain ⟨ad, hA, hcell⟩ := hr.2.2 hp
  refine ⟨ad, hA, ?_⟩
  have h9 := World.block_lt_of_cell? _ _ (hcell 0 hp)
  simpa [Addr.add] using h9
theorem row_form {d : Nat} {w : World} {base : Nat} {ok : Nat → Prop} {v : Value} {xs : List El} (h : KV.R d w base ok v xs) (hb : ∃ b, v.ownBlock = some b) : ∃ g cap cur, v = .slice (some ⟨g, 0, none⟩) xs.length cap ∧ base ≤ g ∧ w.heap[g]? = some (.cells cur d (0, 0)) ∧ xs.length ≤ cap ∧ cap ≤ maxLen ∧ cur.size = cap ∧ cur.toList.take xs.length = encs El.v xs := by
  have hown := Kd.own_of_R (enc := El.v) (h1 := El.one) h
  rcases hown.2 with ⟨rfl, _⟩ | ⟨g, cap, cur, rfl, hb, hh, hnc, hcm, hcs, htake⟩
  · obtain ⟨b, hb⟩ := hb
    simp [Value.ownBlock] at hb
  · exact ⟨g, cap, cur, rfl, hb, hh, hnc, hcm, by simpa using hcs, by simpa using htake⟩
theorem row_set {d : Nat} {w : World} {base : Nat} {ok : Nat → Prop} {g cap : Nat} {n : Nat} {xs ys : List El} {p : El} {q : El} (h : KV.R d w base ok (.slice (some ⟨g, 0, none⟩) n cap) (xs ++ q :: ys)) : KV.R d (w.setCell ((⟨g, 0, none⟩ : Addr).add xs.length) p.v) base ok (.slice (some ⟨g, 0, none⟩) n cap) (xs ++ p :: ys) := by
  obtain ⟨g', cap', cur, hv, hb, hh, hnc, hcm, hcs, htake⟩ := row_form h ⟨g, by simp [Value.ownBlock]⟩
  injection hv with e1 e2 e3
  injection e1 with e1
  injection e1 with e1
  subst e1 e2 e3
  have hadd : (⟨g, 0, none⟩ : Addr).add xs.length = ⟨g, xs.length, none⟩ := by
    unfold Addr.add
    split
    · rename_i h0; rw [h0]
    · simp
  rw [hadd]
  have hln : (xs ++ p :: ys).length = (xs ++ q :: ys).length := by simp
  have h2 := blk_set hh xs.length p.v
  refine Kd.R_of_own (enc := El.v) (h1 := El.one) ?_ h.1
  rw [hln]
  refine ⟨by rw [encs_length, hln, Nat.mul_one], .inr ⟨g, cap, _, rfl, hb, h2, hnc, hcm, by simp [hcs], ?_⟩⟩
  rw [Nat.mul_one]
  apply List.ext_getElem?
  intro j
  have ht : ∀ j : Nat, (cur.toList.take (xs ++ q :: ys).length)[j]? = (encs El.v (xs ++ q :: ys))[j]? := fun j => by rw [htake]
  by_cases hj : j < (xs ++ q :: ys).length
  · have h9 := ht j
    rw [List.getElem?_take_of_lt hj] at h9 ⊢
    simp only [Array.toList_setIfInBounds, List.getElem?_set]
    by_cases hjx : xs.length = j
    · subst hjx
      have hlt : xs.length < cur.toList.length := by have h7 := Array.length_toList (xs := cur); omega
      rw [if_pos rfl, if_pos hlt]
      simp [encs]
    · rw [if_neg hjx, h9]
      simp only [encs, List.getElem?_map]
      congr 1
      rcases Nat.lt_or_ge j xs.length with h | h
      · rw [List.getElem?_append_left h, List.getElem?_append_left h]
      · rw [List.getElem?_append_right h, List.getElem?_append_right h, List.getElem?_cons, List.getElem?_cons, if_neg (by omega), if_neg (by omega)]
  · rw [List.getElem?_take_eq_none (by omega), List.getElem?_eq_none (by rw [encs_length, hln]; omega)]
end Go.Proofs.Ytmiemfgcggkbnaa.QS
