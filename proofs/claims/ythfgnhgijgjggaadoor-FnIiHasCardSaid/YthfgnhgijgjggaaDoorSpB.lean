/- Contracts of package spec: MultihashBytes, CidBytes, Tidy. -/
import Derived.Test.YthfgnhgijgjggaaDoorSpA
import Derived.Lib.QuietBelow
import Derived.Deep.RegionHeld
namespace Go.Proofs.YthfgnhgijgjggaaDoor
open Go.RowKit

/-- A slice that turns to the string S, now and behind all that only makes memory. -/
def TurnsTo (S : ByteArray) (e : Ending) (w' : World) : Prop := ∃ A n c, e = .returned (.slice A n c) ∧ ∀ W, Below w'.heap.size w' W → (convert 43 9 (.slice A n c)).run Tryd.prog W = .ok (.string S) W

theorem spVarintS (n : Nat) (hn : n < 18446744073709551616) (S : ByteArray) (hS : S = ⟨(Lib.uvarint n).toArray⟩) (w : World) :
    Calls Tryd.prog 23 #[.int .u64 n] w fun e w' => TurnsTo S e w' ∧ Below w.heap.size w w' :=
  (spVarint n hn w).mono fun e w' ⟨⟨A, n, c, he, hbs⟩, hb⟩ => ⟨⟨A, n, c, he, fun W hW => by rw [hS]; exact (hbs.below hW).str (dst := 9) Tryd.underlying43 Tryd.underlying5 Tryd.underlying9⟩, hb⟩

theorem ba_cat' (a b : List UInt8) : (⟨a.toArray⟩ : ByteArray) ++ ⟨b.toArray⟩ = ⟨(a ++ b).toArray⟩ := by
  apply ByteArray.ext
  rw [ByteArray.data_append]; simp
theorem ba_eta (s : ByteArray) : s = ⟨s.data.toList.toArray⟩ := (ba_mk s).symm

end Go.Proofs.YthfgnhgijgjggaaDoor
