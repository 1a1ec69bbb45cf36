/-
  From the readings of the form to the walks' own words: a []byte, a []string, a []uint64 that came in, as a 'View'. Over any program.
-/
import Derived.Test.Qxb6003861aFmtKit
import Derived.ProofKit
import Derived.OpenShut
import Derived.ShutString
import Derived.ChangeOld
namespace Go.Proofs.Qxb6003861aFmt
open Go.ChangeShapes Go.WideShapes Go.ChangeAt Go.RowKit

theorem view_of_cells {W : World} {a : Addr} {l : List Value} (h : ∀ i u, l[i]? = some u → W.cell? (a.add i) = some u) : View W (some a) l := by
  by_cases hl : l = []
  · exact .inl hl
  · right
    have hp : 0 < l.length := List.length_pos_iff.2 hl
    obtain ⟨b, off, spot⟩ := a
    have h0 := h 0 _ (List.getElem?_eq_getElem hp)
    have hspot : spot = none := by simpa [Addr.add] using World.cell?_spot h0
    subst hspot
    refine ⟨b, off, rfl, ?_, fun j u hu => ?_⟩
    · have := World.block_lt_of_cell? W _ h0
      simpa [Addr.add] using this
    · have := h j u hu
      rwa [add_plain] at this

section
variable {P : Program} {H : Type} {enc : TypeId × Value → H} {W : World}

theorem open_ints_view {t e : TypeId} {k : IntKind} {ao : Option Addr} {len cap fuel : Nat} {x : DataW H × List MemPlace} (ht : P.underlying t = some (.slice e)) (he : P.underlying e = some (.int k)) (hc : P.cellsOf e = 1)
    (hf : DataW.trod enc P W 0 (fun _ => true) true fuel t [.slice ao len cap] = some x) :
    ∃ zs : List Int, zs.length = len ∧ View W ao (zs.map (Value.int k)) ∧ (ao = none → len = 0) ∧ len ≤ cap ∧ cap ≤ maxLen ∧ ∀ z ∈ zs, (Lit.int k z).wf = true := by
  rcases open_ints ht he hc hf with ⟨hcs, _⟩ | ⟨a, l, c, zs, hcs, _, hl, hm, hz, _, hcell, hwz⟩
  · simp at hcs
    obtain ⟨rfl, rfl, rfl⟩ := hcs
    exact ⟨[], rfl, View.nil _ _, fun _ => rfl, Nat.le_refl _, by unfold maxLen; omega, fun z h => by cases h⟩
  · simp at hcs
    obtain ⟨rfl, rfl, rfl⟩ := hcs
    simp only [if_true] at hz
    refine ⟨zs.take len, by simp; omega, view_of_cells fun i u hu => ?_, fun h => (by cases h), hl, hm, fun z h => hwz z (List.mem_of_mem_take h)⟩
    have hi : i < len := by
      have := (List.getElem?_eq_some_iff.1 hu).1
      simp at this; omega
    rw [hcell i (by omega)]
    have : ((zs.take len).map (Value.int k))[i]? = some (.int k (zs.getD i 0)) := by
      simp [List.getD, hi, show i < zs.length by omega]
    rw [this] at hu
    exact hu

theorem open_bytes_view {t e : TypeId} {ao : Option Addr} {len cap fuel : Nat} {x : DataW H × List MemPlace} (ht : P.underlying t = some (.slice e)) (he : P.underlying e = some (.int .u8)) (hc : P.cellsOf e = 1)
    (hf : DataW.trod enc P W 0 (fun _ => true) true fuel t [.slice ao len cap] = some x) :
    ∃ l : List UInt8, l.length = len ∧ View W ao (bc l) ∧ (ao = none → len = 0) ∧ len ≤ cap ∧ cap ≤ maxLen := by
  obtain ⟨zs, h1, h2, h3, h4, h5, h6⟩ := open_ints_view ht he hc hf
  refine ⟨zs.map fun z => z.toNat.toUInt8, by simpa using h1, ?_, h3, h4, h5⟩
  have e : bc (zs.map fun z => z.toNat.toUInt8) = zs.map (Value.int .u8) := by
    unfold bc
    rw [List.map_map]
    apply List.map_congr_left
    intro z hz
    have hb := bounds_u8 (h6 z hz)
    simp only [Function.comp]
    rw [show z.toNat.toUInt8.toNat = z.toNat % 256 from rfl]
    congr 1
    omega
  rw [e]; exact h2

theorem open_strs_view {t e : TypeId} {ao : Option Addr} {len cap fuel : Nat} {x : DataW H × List MemPlace} (ht : P.underlying t = some (.slice e)) (he : P.underlying e = some .string) (hc : P.cellsOf e = 1)
    (hf : DataW.trod enc P W 0 (fun _ => true) true fuel t [.slice ao len cap] = some x) :
    ∃ ss : List ByteArray, ss.length = len ∧ View W ao (ss.map Value.string) ∧ (ao = none → len = 0) ∧ len ≤ cap ∧ cap ≤ maxLen ∧ ∀ i, (ss.getD i ByteArray.empty).size ≤ maxLen := by
  rcases open_strings ht he hc hf with ⟨hcs, _⟩ | ⟨a, l, c, zs, hcs, _, hl, hm, hz, _, hcell, hwz⟩
  · simp at hcs
    obtain ⟨rfl, rfl, rfl⟩ := hcs
    exact ⟨[], rfl, View.nil _ _, fun _ => rfl, Nat.le_refl _, by unfold maxLen; omega, fun i => by show ByteArray.empty.size ≤ maxLen; exact Nat.zero_le _⟩
  · simp at hcs
    obtain ⟨rfl, rfl, rfl⟩ := hcs
    simp only [if_true] at hz
    refine ⟨zs.take len, by simp; omega, view_of_cells fun i u hu => ?_, fun h => (by cases h), hl, hm, fun i => ?_⟩
    · have hi : i < len := by
        have := (List.getElem?_eq_some_iff.1 hu).1
        simp at this; omega
      rw [hcell i (by omega)]
      have : ((zs.take len).map Value.string)[i]? = some (.string (zs.getD i ByteArray.empty)) := by
        simp [List.getD, hi, show i < zs.length by omega]
      rw [this] at hu
      exact hu
    · by_cases hi : i < (zs.take len).length
      · have : (zs.take len).getD i ByteArray.empty ∈ zs.take len := by
          simp only [List.getD, List.getElem?_eq_getElem hi, Option.getD_some]
          exact List.getElem_mem hi
        exact hwz _ (List.mem_of_mem_take this)
      · simp only [List.getD, List.getElem?_eq_none (by omega : (zs.take len).length ≤ i), Option.getD_none]
        exact Nat.zero_le _
end

end Go.Proofs.Qxb6003861aFmt
