/- Words on memory for readers: what is kept but for some blocks; a slice and a reader that stands somewhere in it. -/
import Derived.Test.YthfgnhgijgjggaaDoorMem
import Derived.Laws.CopyOwn
import Derived.Laws.CopyRow
namespace Go.Proofs.YthfgnhgijgjggaaDoor
open Go.RowKit

/-- All blocks that were there, but those of S, are as they were. -/
structure Keep (S : Nat → Prop) (w w' : World) : Prop where
  os : w'.os = w.os
  tape : w'.tape = w.tape
  output : w'.output = w.output
  size : w.heap.size ≤ w'.heap.size
  block : ∀ k, k < w.heap.size → ¬ S k → w'.heap[k]? = w.heap[k]?

theorem Keep.refl (S : Nat → Prop) (w : World) : Keep S w w := ⟨rfl, rfl, rfl, Nat.le_refl _, fun _ _ _ => rfl⟩
theorem Keep.trans {S : Nat → Prop} {a b c : World} (h : Keep S a b) (k : Keep S b c) : Keep S a c :=
  ⟨k.os.trans h.os, k.tape.trans h.tape, k.output.trans h.output, Nat.le_trans h.size k.size, fun i hi hs => (k.block i (Nat.lt_of_lt_of_le hi h.size) hs).trans (h.block i hi hs)⟩
theorem Keep.mono {S T : Nat → Prop} {a b : World} (h : Keep S a b) (k : ∀ i, i < a.heap.size → S i → T i) : Keep T a b :=
  ⟨h.os, h.tape, h.output, h.size, fun i hi hs => h.block i hi fun hS => hs (k i hi hS)⟩
/-- What the second part may turn of old blocks, the first may. -/
theorem Keep.trans2 {S T : Nat → Prop} {a b c : World} (h : Keep S a b) (k : Keep T b c) (hT : ∀ i, i < a.heap.size → T i → S i) : Keep S a c :=
  ⟨k.os.trans h.os, k.tape.trans h.tape, k.output.trans h.output, Nat.le_trans h.size k.size, fun i hi hs => (k.block i (Nat.lt_of_lt_of_le hi h.size) fun hh => hs (hT i hi hh)).trans (h.block i hi hs)⟩
theorem _root_.Go.RowKit.Below.keep {S : Nat → Prop} {w w' : World} (h : Below w.heap.size w w') : Keep S w w' :=
  ⟨h.os, h.tape, h.output, h.size, fun k hk _ => h.block k hk⟩
theorem Keep.below {S : Nat → Prop} {B : Nat} {w w' : World} (h : Keep S w w') (hS : ∀ k, k < B → ¬ S k) (hB : B ≤ w.heap.size) : Below B w w' :=
  ⟨h.os, h.tape, h.output, h.size, fun k hk => h.block k (by omega) (hS k hk)⟩
theorem Keep.drewN {S : Nat → Prop} {a w : World} (h : Keep S a w) (n : Nat) : Keep S a (w.drewN n) := h.trans ⟨rfl, rfl, rfl, Nat.le_refl _, fun _ _ _ => rfl⟩
theorem keep_drewN (S : Nat → Prop) (w : World) (n : Nat) : Keep S w (w.drewN n) := (Keep.refl S w).drewN n
theorem Keep.cell {S : Nat → Prop} {w w' : World} (h : Keep S w w') {p : Addr} {u : Value} (hc : w.cell? p = some u) (hp : ¬ S p.block) : w'.cell? p = some u :=
  (World.cell?_of_block (w := w) (h.block p.block (block_of_cell hc) hp)).trans hc
theorem block_of_row {w : World} {g : Nat} {o : Obj} (h : w.heap[g]? = some o) : g < w.heap.size := by
  rcases Nat.lt_or_ge g w.heap.size with hp | hp
  · exact hp
  · rw [Array.getElem?_eq_none hp] at h; cases h
theorem Keep.row {S : Nat → Prop} {w w' : World} (h : Keep S w w') {g : Nat} {o : Obj} (hg : w.heap[g]? = some o) (hs : ¬ S g) : w'.heap[g]? = some o := (h.block g (block_of_row hg) hs).trans hg
theorem Keep.setCell {S : Nat → Prop} {a w : World} (h : Keep S a w) {p : Nat} (hp : S p) (o : Nat) (v : Value) : Keep S a (w.setCell ⟨p, o, none⟩ v) :=
  h.trans2 (S := S) (T := fun k => k = p) ⟨rfl, rfl, rfl, by simp [World.setCell], fun k _ hk => Below.heap_setCell _ _ _ _ hk⟩ (fun i _ e => e ▸ hp)
theorem Keep.setRow {S : Nat → Prop} {a w : World} (h : Keep S a w) {p : Nat} (hp : S p) (cs : Array Value) : Keep S a (w.setRow p cs) :=
  h.trans2 (S := S) (T := fun k => k = p) ⟨rfl, rfl, rfl, by simp [World.setRow], fun k _ hk => setRow_other w p k cs hk⟩ (fun i _ e => e ▸ hp)
theorem Keep.alloc {S : Nat → Prop} {a w : World} (h : Keep S a w) (o : Obj) : Keep S a (w.alloc o) :=
  h.trans (((Below.refl _ _).alloc (Nat.le_refl _) _).keep)

/-- The slice value v holds the bytes l, in a block that is not S. -/
structure BSo (S : Nat → Prop) (w : World) (v : Value) (l : List UInt8) : Prop where
  bs : BS w v l
  out : 0 < l.length → ∀ A n c a, v = .slice A n c → A = some a → ¬ S a.block
theorem BSo.keep {S : Nat → Prop} {w w' : World} {v : Value} {l : List UInt8} (h : BSo S w v l) (hk : Keep S w w') : BSo S w' v l := by
  obtain ⟨⟨A, c, rfl, hc, h⟩, ho⟩ := h
  refine ⟨⟨A, c, rfl, hc, fun hl => ?_⟩, ho⟩
  obtain ⟨b, o, e0, h2⟩ := h hl
  subst e0
  exact ⟨b, o, rfl, fun j hj => hk.cell (h2 j hj) (ho hl (some ⟨b, o, none⟩) _ _ ⟨b, o, none⟩ rfl rfl)⟩

/-- 'copy(dst, src)' into a row that is known whole: only that row has turned. -/
theorem wpList_copy_keep {P : Program} {w : World} {ops : Array Oper} {rest : List Oper} {o : Oper} {a : Act} {Q : Exit → Act → World → Prop} (hgd : o.guard = none) (d s : Operand) (dT sT : TypeId)
    (ho : o.op = .call { callee := .builtin .copy, args := #[d, s], argTypes := #[dT, sT] }) (elem : TypeId) (hu : P.underlying dT = some (.slice elem)) (hsz : (P.info? elem).map (·.size) = some 1)
    (dp sp : Option Addr) (dLen dCap sLen sCap : Nat) (hd : a.eval d = .slice dp dLen dCap) (hs : a.eval s = .slice sp sLen sCap)
    (g off : Nat) (cur : List Value) (t : TypeId) (hg : w.heap[g]? = some (.cells cur.toArray t (0, 0))) (cs : List Value) (hn : cs.length = Nat.min sLen dLen)
    (hpos : 0 < cs.length → dp = some ⟨g, off, none⟩ ∧ ∃ ad, sp = some ad ∧ ∀ j v, cs[j]? = some v → w.cell? (ad.add j) = some v)
    (hfit : off + cs.length ≤ cur.length) (h1 : ∀ v ∈ cs, v.oneCell' = true)
    (h : ∀ w', Hid (w'.heap[g]? = some (.cells (splice cur off cs).toArray t (0, 0))) → Keep (fun k => k = g) w w' → wpList P ops Q rest (a.put o.dst (goInt cs.length)) w') :
    wpList P ops Q (o :: rest) a w := by
  by_cases h0 : cs.length = 0
  · obtain rfl : cs = [] := List.eq_nil_of_length_eq_zero h0
    refine wpList_copy_nothing hgd d s dT sT ho elem hu hsz dp sp dLen dCap sLen sCap hd hs (by simpa using hn.symm) ?_
    exact h w (show _ = _ by simpa [splice] using hg) (Keep.refl _ _)
  · obtain ⟨rfl, ad, rfl, hsrc⟩ := hpos (by omega)
    refine wpList_copy_own hgd d s dT sT ho elem hu hsz g off dLen dCap ad sLen sCap hd hs cur.toArray t hg cs hn hsrc (by simpa using hfit) h1 ?_
    exact h _ (show _ = _ by simpa [splice] using setRow_heap w g _ _ t _ hg) ((Keep.refl (fun k => k = g) w).setRow (p := g) rfl _)

/-- A reader in block p (of type t) that stands at byte i of the bytes l of the slice v; l does not lie in blocks from p on. -/
structure RdrT (t : TypeId) (w : World) (p : Nat) (v : Value) (l : List UInt8) (i : Nat) : Prop where
  row : ∃ r : Int, w.heap[p]? = some (.cells #[v, .int .i64 i, .int .i64 r] t (0, 0))
  bs : BSo (fun k => p ≤ k) w v l
  le : i ≤ l.length
  fits : l.length ≤ 9223372036854775807
theorem RdrT.keep {t : TypeId} {w w' : World} {p : Nat} {v : Value} {l : List UInt8} {i : Nat} (h : RdrT t w p v l i) {S : Nat → Prop} (hk : Keep S w w') (hS : ∀ k, S k → p < k) : RdrT t w' p v l i := by
  obtain ⟨⟨r, hr⟩, hb, hl, hf⟩ := h
  exact ⟨⟨r, hk.row hr (fun hh => Nat.lt_irrefl _ (hS _ hh))⟩, hb.keep (hk.mono fun i _ h => Nat.le_of_lt (hS i h)), hl, hf⟩
/-- The slice v of the bytes l does not lie in block h. -/
def OffBlock (v : Value) (l : List UInt8) (h : Nat) : Prop := 0 < l.length → ∀ A n c a, v = .slice A n c → A = some a → a.block ≠ h
/-- .. where the turned block is another one, and not where the bytes lie. -/
theorem RdrT.keep' {t : TypeId} {w w' : World} {p : Nat} {v : Value} {l : List UInt8} {i : Nat} (h : RdrT t w p v l i) {g : Nat} (hk : Keep (fun k => k = g) w w') (hS : g ≠ p) (hv : OffBlock v l g) : RdrT t w' p v l i := by
  obtain ⟨⟨r, hr⟩, hb, hl, hf⟩ := h
  refine ⟨⟨r, hk.row hr (fun hh => hS hh.symm)⟩, ⟨(BSo.keep (S := fun k => k = g) ⟨hb.bs, fun h0 A n c a e1 e2 => hv h0 A n c a e1 e2⟩ hk).bs, hb.out⟩, hl, hf⟩
theorem RdrT.below {t : TypeId} {w w' : World} {p : Nat} {v : Value} {l : List UInt8} {i : Nat} (h : RdrT t w p v l i) (hk : Below w.heap.size w w') : RdrT t w' p v l i := h.keep (S := fun _ => False) hk.keep (fun _ h => h.elim)
theorem RdrT.drew {t : TypeId} {w : World} {p : Nat} {v : Value} {l : List UInt8} {i : Nat} (h : RdrT t w p v l i) : RdrT t w.drew p v l i := h.keep (S := fun _ => False) ((Keep.refl _ w).drewN 1) (fun _ h => h.elim)
theorem keep_drew (S : Nat → Prop) (w : World) : Keep S w w.drew := (Keep.refl _ w).drewN 1
theorem splice_whole {α : Type} (L cs : List α) (h : cs.length = L.length) : splice L 0 cs = cs := by
  unfold splice
  rw [Nat.zero_add, h, List.drop_length]; simp
end Go.Proofs.YthfgnhgijgjggaaDoor
