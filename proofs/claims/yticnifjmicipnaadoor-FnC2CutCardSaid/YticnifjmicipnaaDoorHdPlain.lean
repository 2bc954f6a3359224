/- The 40 bytes of a header of version 2: what is written and what is read. No program in sight. -/
import Derived.Lib.Endian
namespace Go.Proofs.YticnifjmicipnaaDoor

def hdEnc (a b c d e : Nat) : List UInt8 := Lib.leBytes 8 a ++ Lib.leBytes 8 b ++ Lib.leBytes 8 c ++ Lib.leBytes 8 d ++ Lib.leBytes 8 e
theorem leBytes_len : ∀ k v, (Lib.leBytes k v).length = k
  | 0, _ => rfl
  | k + 1, v => by simp [Lib.leBytes, leBytes_len k]
theorem hdEnc_len (a b c d e : Nat) : (hdEnc a b c d e).length = 40 := by simp [hdEnc, leBytes_len]
/-- The k-th number of 8 bytes behind byte i. -/
def leAt (l : List UInt8) (i k : Nat) : Nat := Lib.leNat (((l.drop (i + 8 * k)).take 8))
/-- The header that is read at byte i, as its five numbers. -/
def hdOk (l : List UInt8) (i : Nat) : Prop := i + 40 ≤ l.length ∧ 51 ≤ leAt l i 2 ∧ leAt l i 2 < 9223372036854775808 ∧ 0 < leAt l i 3 ∧ leAt l i 3 < 9223372036854775808 ∧ leAt l i 4 < 9223372036854775808
end Go.Proofs.YticnifjmicipnaaDoor
