/- From a law's call to its row: arrays of 32 bytes by value. No condition. -/
import Derived.Test.YtolmkbojlpplfaaDoorLaw
import Derived.Test.YtolmkbojlpplfaaDoorRows
import Derived.ProofKit
import Derived.OpenShut
import Derived.Test.YtolmkbojlpplfaaDoorLaw2
namespace Go.Proofs.YtolmkbojlpplfaaDoor
open Go Go.ChangeShapes Go.WideShapes Go.ChangeAt Go.RowKit
set_option linter.unusedVariables false
set_option linter.unusedSimpArgs false
set_option maxRecDepth 100000

theorem own_ok : ownKnob Tryd.prog.godebug = none := by kernel_rfl
theorem laid_ok : laidOutB Tryd.prog = true := by kernel_rfl
theorem cells22 : Tryd.prog.cellsOf 22 = 32 := by kernel_rfl
theorem cells5 : Tryd.prog.cellsOf 5 = 1 := by kernel_rfl
theorem under22 : Tryd.prog.underlying 22 = some (.array 32 5) := by kernel_rfl
theorem under5 : Tryd.prog.underlying 5 = some (.int .u8) := by kernel_rfl
theorem under4 : Tryd.prog.underlying 4 = some .bool := by kernel_rfl
/-- An array of 32 bytes is the bytes of a number. -/
theorem open_bytes {H : Type} {enc : TypeId × Value → H} {W : World} {base base' : Nat} {sp : Nat → Bool} {held : Bool} {v : Value} {d : DataW H} {p : List MemPlace} (hv : Value.okWide Tryd.prog W .any base 22 v) (h : DataW.Trod enc Tryd.prog W base' sp held 22 v d p) :
    ∃ n, n < 2 ^ 256 ∧ v = bytesV n := by
  simp only [Value.okWide, under22] at hv
  obtain ⟨cs, rfl, hsz, _⟩ := hv
  rw [cells22] at hsz
  obtain ⟨fuel, hf⟩ := h
  obtain ⟨xs, m, _, _, _, hlen, hx⟩ := DataW.trod_array under22 hf
  have hl : cs.toList.length = 32 := by simpa using hsz
  have hcell : ∀ i, i < 32 → ∃ a : Int, (0 ≤ a ∧ a < 256) ∧ cs.toList[i]? = some (.int .u8 a) := by
    intro i hi
    have h1 := hx i hi
    rw [cells5, Nat.mul_one] at h1
    have hxi : xs[i]? = some (xs[i]'(by omega)) := by simp [hlen, hi]
    rw [hxi] at h1
    obtain ⟨a, ea, _, wa⟩ := DataW.trod_int under5 h1
    have hb := bounds_u8 wa
    refine ⟨a, ⟨hb.1, by omega⟩, ?_⟩
    have h2 : (((Value.agg cs).cells.toList.drop i).take 1)[0]? = some (Value.int .u8 a) := by rw [ea]; rfl
    have h3 : (Value.agg cs).cells.toList = cs.toList := by simp [Value.cells]
    rw [h3] at h2
    rw [List.getElem?_take_of_lt (by omega), List.getElem?_drop] at h2
    simpa using h2
  let zs : List Int := cs.toList.map fun v => match v with
    | .int _ a => a
    | _ => 0
  have hz : ∀ i, i < 32 → ∃ a : Int, (0 ≤ a ∧ a < 256) ∧ zs[i]? = some a ∧ cs.toList[i]? = some (.int .u8 a) := by
    intro i hi
    obtain ⟨a, hb, hc⟩ := hcell i hi
    exact ⟨a, hb, by simp only [zs, List.getElem?_map, hc, Option.map_some], hc⟩
  have hzl : zs.length = 32 := by simp only [zs, List.length_map, hl]
  have hzb : ∀ y ∈ zs, 0 ≤ y ∧ y < 256 := by
    intro y hy
    obtain ⟨i, hi⟩ := List.getElem?_of_mem hy
    have hil : i < 32 := by rw [← hzl]; exact (List.getElem?_eq_some_iff.1 hi).1
    obtain ⟨a, hb, ha, _⟩ := hz i hil
    rw [hi] at ha
    cases ha
    exact hb
  have hzo : zs = octs (ofB zs) 0 32 := octs_eq hzl fun j hj => by
    obtain ⟨a, _, ha, _⟩ := hz j hj
    rw [Nat.zero_add, ha, ofB_octet hzb ha]
  refine ⟨ofB zs, ?_, ?_⟩
  · have h1 := ofB_octs (n := ofB zs) 32 0
    rw [← hzo, Nat.pow_zero, Nat.div_one] at h1
    rw [h1]
    exact Nat.mod_lt _ (by decide)
  · unfold bytesV
    rw [← hzo]
    congr 1
    apply Array.ext'
    simp only
    apply List.ext_getElem?
    intro i
    rcases Nat.lt_or_ge i 32 with hi | hi
    · obtain ⟨a, _, ha, hc⟩ := hz i hi
      rw [hc, List.getElem?_map, ha]; rfl
    · rw [List.getElem?_eq_none (by omega), List.getElem?_eq_none (by simp [hzl]; omega)]
end Go.Proofs.YtolmkbojlpplfaaDoor

/- Integers among a law's arguments. No condition. -/
namespace Go.Proofs.YtolmkbojlpplfaaDoor
open Go Go.ChangeShapes Go.WideShapes Go.ChangeAt Go.RowKit
set_option linter.unusedVariables false
set_option linter.unusedSimpArgs false
set_option maxRecDepth 100000

theorem under3 : Tryd.prog.underlying 3 = some (.int .i64) := by kernel_rfl
theorem open_i64 {H : Type} {enc : TypeId × Value → H} {W : World} {base base' : Nat} {sp : Nat → Bool} {held : Bool} {v : Value} {d : DataW H} {p : List MemPlace} (hv : Value.okWide Tryd.prog W .any base 3 v) (h : DataW.Trod enc Tryd.prog W base' sp held 3 v d p) : ∃ n, inR .i64 n ∧ v = .int .i64 n := by
  obtain ⟨a, rfl, _, _, wa⟩ := open_int under3 hv h
  have hb := bounds_i64 wa
  exact ⟨a, ⟨hb.1, by show a < 9223372036854775808; omega⟩, rfl⟩
end Go.Proofs.YtolmkbojlpplfaaDoor
