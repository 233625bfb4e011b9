/- Words for the world behind slices.SortFunc. -/
import Derived.Test.YtmiemfgcggkbnaaSoF
import Derived.Sort.OwnSorted
import Derived.Shelf.GgSortFunc.Insertion
namespace Go.Proofs.Ytmiemfgcggkbnaa.QS
set_option linter.unusedVariables false
set_option linter.unusedSimpArgs false
open Go.RowKit Go.Proofs.YtmiemfgcggkbnaaW.PrintWords Go.Proofs.YtmiemfgcggkbnaaW.PrintLast Go.Proofs.YtmiemfgcggkbnaaW.PrintMore
section
open Go.Sort Go.Proofs Go.Lib
variable {α : Type} [Inhabited α]
theorem holds_of_blockE (enc : α → Value) {w : World} {g : Nat} {cur : Array Value} {e : TypeId} {ss : List α} (hb : w.heap[g]? = some (.cells cur e (0, 0))) (ht : cur.toList.take ss.length = ss.map enc) : Holds enc w g 0 ss.toArray := by
  intro j hj
  have hj' : j < ss.length := by simpa using hj
  refine ⟨?_, by simp [World.frozen?, hb]⟩
  have h1 : (cur.toList.take ss.length)[j]? = (ss.map enc)[j]? := by rw [ht]
  rw [List.getElem?_take_of_lt hj'] at h1
  simp only [World.cell?, hb, Nat.zero_add]
  simp only [Option.isSome_none, Bool.false_eq_true, if_false]
  rw [← Array.getElem?_toList, h1]
  simp [hj']
theorem heap_sortedE (enc : α → Value) {w : World} {g n : Nat} {os : Array Obj} {cur : Array Value} {e : TypeId} {fr : Nat × Nat} (d : Array α) (hb : w.heap[g]? = some (.cells cur e fr)) :
    (grow (putRow enc (Sort.ahead w n) g 0 d) os).heap[g]? = some (.cells (putCells enc 0 d cur) e fr) := by
  have hg : g < w.heap.size := (Array.getElem?_eq_some_iff.1 hb).1
  rw [heap_grow_old _ _ (by simpa using hg)]
  simp [putRow, mapBlock, Sort.ahead, Array.getElem?_modify, hb, onCells]
theorem grownBy_sortedE (enc : α → Value) {w : World} {g n : Nat} {os : Array Obj} (d : Array α) : w.grownBy (grow (putRow enc (Sort.ahead w n) g 0 d) os) (some g) := by
  refine ⟨rfl, rfl, rfl, by simp, fun k hk hne => ?_⟩
  rw [heap_grow_old _ _ (by simpa using hk)]
  have : g ≠ k := fun e => hne (by rw [e])
  simp [putRow, mapBlock, Sort.ahead, Array.getElem?_modify, this]
theorem take_putCellsE (enc : α → Value) (cur : Array Value) (ts : List α) (h : ts.length ≤ cur.size) : (putCells enc 0 ts.toArray cur).toList.take ts.length = ts.map enc := by
  apply List.ext_getElem?
  intro j
  by_cases hj : j < ts.length
  · rw [List.getElem?_take_of_lt hj, Array.getElem?_toList]
    simp [putCells, hj, show j < cur.size by omega]
  · rw [List.getElem?_take_eq_none (by omega), List.getElem?_eq_none (by simp; omega)]
theorem cell_sort (enc : α → Value) {w : World} {blk off m : Nat} {dk : Array α} {os : Array Obj} {a : Addr} {v : Value} (h : w.cell? a = some v) (hne : a.block ≠ blk) : (grow (putRow enc (Sort.ahead w m) blk off dk) os).cell? a = some v := by
  have hlt : a.block < w.heap.size := World.block_lt_of_cell? _ _ h
  rw [cell?_grow _ _ _ (by simpa [putRow, mapBlock, Sort.ahead] using hlt)]
  have h9 : (putRow enc (Sort.ahead w m) blk off dk).heap[a.block]? = w.heap[a.block]? := by simp [putRow, mapBlock, Sort.ahead, Array.getElem?_modify, Ne.symm hne]
  rw [← h]
  simp only [World.cell?, h9]
end
theorem good_nil (W : World) : Good W nilEl :=
  ⟨Kd.C_of_reads (d := (0 : Int)) (h1 := fun _ => rfl) (show ReadsOf (Value.int .u8) 0 W none 0 [] from ⟨rfl, by omega, fun h => absurd h (by omega)⟩), by decide, fun x hx => by cases hx⟩
/-- The byte slices that lie apart from a block. -/
def Al (W : World) (blk : Nat) : Type := {e : El // Good W e ∧ ∀ ad, e.a = some ad → ad.block ≠ blk}
instance (W : World) (blk : Nat) : Inhabited (Al W blk) := ⟨⟨nilEl, good_nil W, fun ad h => by cases h⟩⟩
def Al.v {W : World} {blk : Nat} (x : Al W blk) : Value := x.1.v
theorem good_sort {W : World} {blk off m : Nat} {dk : Array (Al W blk)} {os : Array Obj} (x : Al W blk) : Good (Go.Sort.grow (Go.Sort.putRow Al.v (Go.Sort.ahead W m) blk off dk) os) x.1 := by
  obtain ⟨⟨hc, hl, hb⟩, hne⟩ := x.2
  have hr := Kd.reads_of_C (enc := Value.int .u8) (d := (0 : Int)) (h1 := fun _ => rfl) hc
  refine ⟨Kd.C_of_reads (d := (0 : Int)) (h1 := fun _ => rfl) (show ReadsOf (Value.int .u8) 0 _ x.1.a x.1.l.length x.1.l from ⟨hr.1, hr.2.1, fun h => ?_⟩), hl, hb⟩
  obtain ⟨ad, hA, hcell⟩ := hr.2.2 h
  exact ⟨ad, hA, fun j hj => cell_sort Al.v (hcell j hj) (show (ad.add j).block ≠ blk from by have h9 := hne ad hA; unfold Addr.add; split <;> exact h9)⟩
end Go.Proofs.Ytmiemfgcggkbnaa.QS
