import Derived.Test.Qxb6604272aSpF
import Derived.Maps.OwnSet
import Derived.Deep.RegionHeld
namespace Go.Proofs.Qxb6604272a.Sp
open Go.RowKit
open Go.Maps (Keyed string_keyed)
open Go.WideMaps (keyOf_string_mk)

theorem law : Keyed Try.prog 9 := string_keyed Try.underlying9
/-- The map's elements as they are. -/
def RR (v : Value) : Option (DataW Value × List MemPlace) := some (.held v, [])
def zeroV : Value := .agg #[.string ByteArray.empty, .slice none 0 0, .string ByteArray.empty]
theorem zeroE (w : World) : (zeroValue 45).run Try.prog w = .ok zeroV w := by kernel_rfl
def keyL (s : ByteArray) : Lit := .string s.data.toList

def entV (ns : List ByteArray) (xs : List In) (sc : List ByteArray) (j : Nat) : Value := .agg #[.string (ns.getD j ByteArray.empty), sl (xs.getD j none'), .string (sc.getD j ByteArray.empty)]

/-- The element at kw after k rounds. -/
def LastV (ks ns : List ByteArray) (xs : List In) (sc : List ByteArray) (kw : ByteArray) (k : Nat) (v : Value) : Prop :=
  (v = zeroV ∧ ∀ i, i < k → ks.getD i ByteArray.empty ≠ kw) ∨ ∃ j, j < k ∧ v = entV ns xs sc j ∧ ks.getD j ByteArray.empty = kw ∧ ∀ i, j < i → i < k → ks.getD i ByteArray.empty ≠ kw

def MapAt (wr : World) (M : Nat) (ks ns : List ByteArray) (xs : List In) (sc : List ByteArray) (kw : ByteArray) (k : Nat) : Prop :=
  ∃ D v, wr.ownsMap Try.prog 9 RR M k D ∧ D.atKey (keyL kw) (.held zeroV) = .held v ∧ LastV ks ns xs sc kw k v

theorem data_inj {a b : ByteArray} (h : a.data.toList = b.data.toList) : a = b := by
  obtain ⟨⟨x⟩⟩ := a
  obtain ⟨⟨y⟩⟩ := b
  exact congrArg (fun l => ByteArray.mk (Array.mk l)) h

theorem map_start (w : World) (ks ns : List ByteArray) (xs : List In) (sc : List ByteArray) (kw : ByteArray) : MapAt (w.alloc (.map #[] 0)) w.heap.size ks ns xs sc kw 0 :=
  ⟨_, zeroV, World.ownsMap_made w _ _ _, rfl, .inl ⟨rfl, fun i hi => absurd hi (by omega)⟩⟩

theorem map_step {wr : World} {M k : Nat} {ks ns : List ByteArray} {xs : List In} {sc : List ByteArray} {kw : ByteArray} (h : MapAt wr M ks ns xs sc kw k) (hk : k < 65536) (hs : (ks.getD k ByteArray.empty).size ≤ maxLen) :
    ∃ w1, (Instr.mapUpdate 43 (.map (some M)) (.string (ks.getD k ByteArray.empty)) (entV ns xs sc k)).run Try.prog wr = .ok () w1 ∧ MapAt w1 M ks ns xs sc kw (k + 1) ∧ wr.grownBy w1 (some M) := by
  obtain ⟨D, v, ho, hat, hl⟩ := h
  obtain ⟨w1, hrun, ho1, hg⟩ := ho.update law Try.underlying43 (by unfold maxLen; omega) (keyOf_string_mk Try.underlying9 hs) (show RR (entV ns xs sc k) = some (.held (entV ns xs sc k), []) from rfl)
  refine ⟨w1, hrun, ?_, hg⟩
  by_cases e : ks.getD k ByteArray.empty = kw
  · refine ⟨_, entV ns xs sc k, ho1, ?_, .inr ⟨k, by omega, rfl, e, fun i h1 h2 => absurd h2 (by omega)⟩⟩
    rw [← e]
    exact Maps.atKey_put_same (k := keyL (ks.getD k ByteArray.empty)) ho.isMap trivial _ _
  · refine ⟨_, v, ho1, ?_, ?_⟩
    · exact (Maps.atKey_put_other (k := keyL (ks.getD k ByteArray.empty)) (k' := keyL kw) (fun h => e (data_inj (Lit.string.inj h)).symm) _ _).trans hat
    · rcases hl with ⟨h1, h2⟩ | ⟨j, h1, h2, h3, h4⟩
      · refine .inl ⟨h1, fun i hi => ?_⟩
        by_cases e2 : i = k
        · subst e2; exact e
        · exact h2 i (by omega)
      · refine .inr ⟨j, by omega, h2, h3, fun i h5 h6 => ?_⟩
        by_cases e2 : i = k
        · subst e2; exact e
        · exact h4 i h5 (by omega)

theorem map_look {wr : World} {M k : Nat} {ks ns : List ByteArray} {xs : List In} {sc : List ByteArray} {kw : ByteArray} (h : MapAt wr M ks ns xs sc kw k) (hs : kw.size ≤ maxLen) :
    ∃ v, (Instr.lookup 43 (.map (some M)) (.string kw) false).run Try.prog wr = .ok v wr ∧ LastV ks ns xs sc kw k v := by
  obtain ⟨D, v, ho, hat, hl⟩ := h
  obtain ⟨v', ps, hrun, hv⟩ := ho.lookup law Try.underlying43 (zeroE wr) (show RR zeroV = some (.held zeroV, []) from rfl) (keyOf_string_mk Try.underlying9 hs)
  refine ⟨v', hrun, ?_⟩
  have hv2 : (DataW.held v' : DataW Value) = D.atKey (keyL kw) (.held zeroV) := (Prod.mk.inj (Option.some.inj hv)).1
  rw [hat] at hv2
  cases hv2
  exact hl

theorem MapAt.kept {w w' : World} {M k : Nat} {ks ns : List ByteArray} {xs : List In} {sc : List ByteArray} {kw : ByteArray} (h : MapAt w M ks ns xs sc kw k) (hb : Below w.heap.size w w') : MapAt w' M ks ns xs sc kw k := by
  obtain ⟨D, v, ho, hat, hl⟩ := h
  have hlt := ho.lt
  obtain ⟨es, clock, h1, h2⟩ := ho
  exact ⟨D, v, ⟨es, clock, (hb.block M hlt).trans h1, h2⟩, hat, hl⟩
end Go.Proofs.Qxb6604272a.Sp
