import Derived.Test.Qxb6603720aSo
import Derived.Test.Qxb6603720aCe
import Derived.Test.Qxb6603720aLq
import Derived.Sort.OwnSortedInts
set_option linter.unusedVariables false
set_option linter.unusedSimpArgs false
namespace Go.Proofs.Qxb6603720a
open Go Go.Vc Go.RowKit Go.Gr

def iN (x : Nat) : Value := .int .i64 (x : Int)

theorem cellAt {w : World} {b off n cap : Nat} {e : TypeId} {s i : Nat} {F : Nat → Value} (h : Own w (some b) (.slice (some ⟨b, off, none⟩) n cap) e s n F) (hi : i < n * s) : w.cell? ⟨b, off + i, none⟩ = some (F i) ∧ w.frozen? ⟨b, off + i, none⟩ = false := by
  obtain ⟨off', cap', N, F', hv, hn, hN, hr, hF⟩ := h
  simp at hv
  obtain ⟨rfl, rfl⟩ := hv
  have : n * s ≤ cap * s := Nat.mul_le_mul_right _ hn
  exact ⟨by rw [hr.cell (by omega), hF i hi], hr.frozen _⟩

theorem grown_sorted {w : World} {g off n : Nat} {os : Array Obj} (d : Array Int) : w.grownBy (Sort.grow (Sort.putRow (Value.int .i64) (Sort.ahead w n) g off d) os) (some g) := by
  refine ⟨rfl, rfl, rfl, by simp [Sort.ahead], fun k hk hne => ?_⟩
  rw [Sort.heap_grow_old _ _ (by simpa [Sort.ahead] using hk)]
  simp only [Sort.putRow, Sort.mapBlock, Sort.ahead]
  rw [Array.getElem?_modify]
  have : ¬ g = k := fun e => hne (by rw [e])
  simp [this]

/-- slices.Sort, of a slice that holds something: the list that it holds, put in order -/
theorem sort_any {w : World} {blk off cap m : Nat} {lp : Nat → Nat} (hm : m ≤ 1000000) (ho : Own w (some blk) (.slice (some ⟨blk, off, none⟩) m cap) 3 1 m (fun i => iN (lp i))) {l : List Nat} (hl : l.Pairwise (· < ·)) (hp : l.Perm ((List.range m).map lp)) :
    Calls Try.prog 31 #[.slice (some ⟨blk, off, none⟩) m cap] w (fun e w' => e = .returned (.tuple #[]) ∧ l.length = m ∧ (∀ i, i < m → w'.cell? ⟨blk, off + i, none⟩ = some (iN (l.getD i 0))) ∧ w.grownBy w' (some blk)) := by
  have hlen : l.length = m := by rw [hp.length_eq]; simp
  obtain ⟨zs, hzs⟩ : ∃ zs : List Int, zs = (List.range m).map (fun i => ((lp i : Nat) : Int)) := ⟨_, rfl⟩
  have hzl : zs.length = m := by rw [hzs]; simp
  have hH : Sort.Holds (Value.int .i64) w blk off zs.toArray := fun j hj => by
    have hj' : j < m := by simpa [hzl] using hj
    have := cellAt ho (i := j) (by omega)
    refine ⟨?_, this.2⟩
    rw [this.1]
    simp [hzs, hj', iN]
  have hsorted : zs.mergeSort (fun x y => decide (x ≤ y)) = l.map (fun i : Nat => (i : Int)) := by
    have p1 : (zs.mergeSort (fun x y => decide (x ≤ y))).Perm (l.map (fun i : Nat => (i : Int))) := by
      refine (List.mergeSort_perm zs _).trans ?_
      rw [hzs]
      have := (hp.map (fun i : Nat => (i : Int))).symm
      rw [List.map_map] at this
      exact this
    have s1 : (zs.mergeSort (fun x y => decide (x ≤ y))).Pairwise (fun x y => x ≤ y) :=
      pw_mono (fun a b h => by simpa using h) (List.pairwise_mergeSort (fun a b c h1 h2 => by simp at *; omega) (fun a b => by simp; omega) zs)
    have s2 : (l.map (fun i : Nat => (i : Int))).Pairwise (fun x y => x ≤ y) := by
      rw [List.pairwise_map]; exact pw_mono (fun a b h => by omega) hl
    exact p1.eq_of_pairwise (fun a b _ _ h1 h2 => by omega) s1 s2
  have hc := Any.slices_Sort_int Try.lays189 blk off cap zs w hH ho.lt (by omega)
  rw [hzl, hsorted] at hc
  refine Calls.mono (R := _) hc (fun e w' ⟨he, n, os, hw⟩ => ⟨he, hlen, fun i hi => ?_, ?_⟩)
  · rw [hw, Sort.cell?_grow _ _ _ (by simpa [Sort.ahead] using ho.lt)]
    have hi2 : i < (l.map (fun i : Nat => (i : Int))).toArray.size := by simp [hlen, hi]
    rw [Sort.cell?_putRow (Value.int .i64) (Sort.ahead w n) blk off zs.toArray _ (fun j hj => hH j hj) (by simp [hlen, hzl]) i hi2]
    simp [iN, List.getD, hlen, hi]
  · rw [hw]; exact grown_sorted _
end Go.Proofs.Qxb6603720a
