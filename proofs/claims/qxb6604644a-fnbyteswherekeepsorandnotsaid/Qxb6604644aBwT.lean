import Derived.Test.Qxb6604644aBwB
import Derived.WalkKit
import Derived.ProofKit
import Derived.OpenShut
import Derived.ChangeOld
namespace Go.Proofs.Qxb6604644a.Bw
open Go.ChangeShapes Go.WideShapes Go.ChangeAt Go.RowKit

theorem cells22 : Try.prog.cellsOf 22 = 256 := by kernel_rfl
theorem cells4 : Try.prog.cellsOf 4 = 1 := by kernel_rfl

/-- What a cell says. -/
def boolOf (o : Option Value) : Bool :=
  match o with
  | some (.bool b) => b
  | _ => false

theorem open_tab {H : Type} {enc : TypeId × Value → H} {W : World} {v : Value} {d : DataW H} {p : List MemPlace} {r : Reach} {b0 : Nat} (hv : Value.okWide Try.prog W r b0 22 v) (h : DataW.Trod enc Try.prog W 0 (fun _ => true) true 22 v d p) :
    ∃ cs t, v = .agg cs ∧ Tab cs t := by
  simp only [Value.okWide, Try.underlying22] at hv
  obtain ⟨cs, rfl, hsz, _⟩ := hv
  rw [cells22] at hsz
  obtain ⟨fuel, hf⟩ := h
  obtain ⟨xs, m, _, _, _, hxl, hx⟩ := DataW.trod_array Try.underlying22 hf
  refine ⟨cs, fun i => boolOf cs[i]?, rfl, hsz, fun i hi => ?_⟩
  have h1 := hx i hi
  rw [cells4, Nat.mul_one] at h1
  have hi2 : i < cs.size := by omega
  have e : ((Value.cells (.agg cs)).toList.drop i).take 1 = [cs[i]] := by
    show (cs.toList.drop i).take 1 = [cs[i]]
    rw [List.drop_eq_getElem_cons (by simpa using hi2)]
    simp
  rw [e, List.getElem?_eq_getElem (by omega)] at h1
  obtain ⟨b, e0, _⟩ := DataW.trod_bool Try.underlying4 h1
  have e1 : cs[i] = .bool b := by simpa using e0
  have e2 : cs[i]? = some (.bool b) := by rw [Array.getElem?_eq_getElem hi2, e1]
  show cs[i]? = some (.bool (boolOf cs[i]?))
  rw [e2]; rfl
end Go.Proofs.Qxb6604644a.Bw
