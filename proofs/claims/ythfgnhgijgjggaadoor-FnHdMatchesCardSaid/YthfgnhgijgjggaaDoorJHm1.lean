/- Contracts, joined (Mem RdrMem UvPlain UvA LwA UvB UvC). -/
import Derived.Below
import Derived.Deep.Draws
import Derived.Lib.ConvBytes
import Derived.Laws.BytesArg
import Derived.Laws.IdiomCopy
import Derived.Laws.Rows
import Derived.Laws.MakeOwn
import Derived.Lib.VarintMem
import Derived.Lib.Hide
import Derived.Laws.CopyOwn
import Derived.Lib.BufferMore
import Derived.Laws.Slices
import Derived.Shelf.Bytes.SlSmallAll
import Derived.Laws.ResultCell
import Derived.Laws.CopyRow
import Derived.Lib.VarintBits
import Derived.Lib.Varint
import Derived.IntWalk
import Derived.Lib.BitFns
import Derived.Test.YthfgnhgijgjggaaDoorProg
import Derived.WalkKit
import Derived.Deep.QuietTactic
import Derived.BigQuiet
import Derived.Outline
import Derived.Maps.AppendAt
import Derived.OwnWalk
import Derived.Laws.AppendOwn
import Derived.Test.YthfgnhgijgjggaaDoorShelf
/- Words on memory for the proofs of this seat: a slice that reads as bytes, what a call leaves as it was. No program in sight. -/
namespace Go.Proofs.YthfgnhgijgjggaaDoor
open Go.RowKit

theorem below_drewN (B : Nat) (w : World) (n : Nat) : Below B w (w.drewN n) := ⟨rfl, rfl, rfl, Nat.le_refl _, fun _ _ => rfl⟩
theorem _root_.Go.RowKit.Below.drewN {B : Nat} {a w : World} (h : Below B a w) (n : Nat) : Below B a (w.drewN n) := h.trans (below_drewN B w n)
/-- The frame from call to call: each call leaves below ITS heap's size all as it was. -/
theorem below_next {w a b : World} (h : Below w.heap.size w a) (k : Below a.heap.size a b) : Below w.heap.size w b := h.trans (k.mono h.size)
theorem below_cell {w w' : World} (h : Below w.heap.size w w') {p : Addr} {v : Value} (hc : w.cell? p = some v) : w'.cell? p = some v := by
  rcases Nat.lt_or_ge p.block w.heap.size with hp | hp
  · exact (h.cell hp).trans hc
  · unfold World.cell? at hc; rw [Array.getElem?_eq_none hp] at hc; cases hc
theorem block_of_cell {w : World} {p : Addr} {v : Value} (hc : w.cell? p = some v) : p.block < w.heap.size := by
  rcases Nat.lt_or_ge p.block w.heap.size with hp | hp
  · exact hp
  · unfold World.cell? at hc; rw [Array.getElem?_eq_none hp] at hc; cases hc

theorem ba_append (a b : ByteArray) : (a ++ b).data.toList = a.data.toList ++ b.data.toList := by
  obtain ⟨⟨l⟩⟩ := a
  obtain ⟨⟨r⟩⟩ := b
  simp
theorem ba_len (a : ByteArray) : a.data.toList.length = a.size := by rw [Array.length_toList]; rfl
theorem ba_mk (a : ByteArray) : (⟨a.data.toList.toArray⟩ : ByteArray) = a := by obtain ⟨⟨l⟩⟩ := a; rfl

/-- The slice value v holds the bytes l (nil and empty let in). -/
def BS (w : World) (v : Value) (l : List UInt8) : Prop :=
  ∃ (A : Option Addr) (c : Nat), v = .slice A l.length c ∧ l.length ≤ c ∧
    (0 < l.length → ∃ b o, A = some ⟨b, o, none⟩ ∧ ∀ j (h : j < l.length), w.cell? ⟨b, o + j, none⟩ = some (.int .u8 (l[j].toNat)))

theorem BS.keep {w w' : World} {v : Value} {l : List UInt8} (h : BS w v l) (hk : ∀ p u, w.cell? p = some u → w'.cell? p = some u) : BS w' v l := by
  obtain ⟨A, c, e, hc, h⟩ := h
  refine ⟨A, c, e, hc, fun hl => ?_⟩
  obtain ⟨b, o, e, h⟩ := h hl
  exact ⟨b, o, e, fun j hj => hk _ _ (h j hj)⟩
theorem BS.below {w w' : World} {v : Value} {l : List UInt8} (h : BS w v l) (hb : Below w.heap.size w w') : BS w' v l := h.keep fun _ _ hc => below_cell hb hc
theorem BS.drewN {w : World} {v : Value} {l : List UInt8} (h : BS w v l) (n : Nat) : BS (w.drewN n) v l := h
theorem BS.nil (w : World) (c : Nat) : BS w (.slice none 0 c) [] := ⟨none, c, rfl, Nat.zero_le _, fun h => absurd h (by simp)⟩
theorem BS.of_cells {w : World} {b o c : Nat} {l : List UInt8} (hc : l.length ≤ c) (h : ∀ j (h : j < l.length), w.cell? ⟨b, o + j, none⟩ = some (.int .u8 (l[j].toNat))) : BS w (.slice (some ⟨b, o, none⟩) l.length c) l :=
  ⟨_, c, rfl, hc, fun _ => ⟨b, o, rfl, h⟩⟩

section
variable {P : Program}
/-- '[]byte(s)': a new row with the bytes of s, told by what it is good for. -/
theorem conv_bytes {src dst e : TypeId} (hs : P.underlying src = some .string) (hd : P.underlying dst = some (.slice e)) (he : P.underlying e = some (.int .u8)) (w : World) (s : ByteArray) :
    ∃ c w1, (convert src dst (.string s)).run P w = .ok (.slice (some ⟨w.heap.size, 0, none⟩) s.size c) w1 ∧ s.size ≤ c ∧ Below w.heap.size w w1 ∧ w1.heap.size = w.heap.size + 1 ∧
      (∃ m, w1.heap[w.heap.size]? = some (.cells (Lib.bytesCells w e s) e m)) ∧
      ∀ j (h : j < s.data.toList.length), w1.cell? ⟨w.heap.size, 0 + j, none⟩ = some (.int .u8 (s.data.toList[j].toNat)) := by
  have hcap : s.size ≤ grownCap w s.size 0 e := grownCap_ge _ _ _ _
  refine ⟨_, _, Lib.run_convert_string_bytes w src dst e s hs hd he, hcap, ⟨?_, ?_, ?_, ?_, ?_⟩, Lib.bytesWorld_size w e s, ⟨_, Lib.bytesWorld_at_new w e s⟩, ?_⟩
  · simp [Lib.bytesWorld, World.freeze, World.alloc, World.drew, -World.alloc_eq, -World.drew_eq]
  · simp [Lib.bytesWorld, World.freeze, World.alloc, World.drew, -World.alloc_eq, -World.drew_eq]
  · simp [Lib.bytesWorld, World.freeze, World.alloc, World.drew, -World.alloc_eq, -World.drew_eq]
  · rw [Lib.bytesWorld_size]; omega
  · exact fun k hk => Lib.bytesWorld_at_old w e s k hk
  · intro j hj
    rw [Nat.zero_add, Lib.bytesWorld_cell w e s j (by show j < s.data.size; rw [← Array.length_toList]; exact hj)]
    rw [List.getD, List.getElem?_eq_getElem hj]; rfl
end
/-- Only block g has turned, and no block is new. -/
structure Turn (g : Nat) (w w' : World) : Prop where
  os : w'.os = w.os
  tape : w'.tape = w.tape
  output : w'.output = w.output
  size : w'.heap.size = w.heap.size
  block : ∀ k, k ≠ g → w'.heap[k]? = w.heap[k]?
theorem Turn.below {g B : Nat} {w w' : World} (h : Turn g w w') (hB : B ≤ g) : Below B w w' :=
  ⟨h.os, h.tape, h.output, by rw [h.size]; exact Nat.le_refl _, fun k hk => h.block k (by omega)⟩
theorem Turn.trans {g : Nat} {a b c : World} (h : Turn g a b) (k : Turn g b c) : Turn g a c :=
  ⟨k.os.trans h.os, k.tape.trans h.tape, k.output.trans h.output, k.size.trans h.size, fun i hi => (k.block i hi).trans (h.block i hi)⟩
theorem Turn.refl (g : Nat) (w : World) : Turn g w w := ⟨rfl, rfl, rfl, rfl, fun _ _ => rfl⟩
theorem turn_setCell (g o : Nat) (w : World) (v : Value) : Turn g w (w.setCell ⟨g, o, none⟩ v) :=
  ⟨rfl, rfl, rfl, by simp [World.setCell], fun k hk => Below.heap_setCell _ _ _ _ hk⟩
theorem turn_setCells (g : Nat) : ∀ (vs : List Value) (o : Nat) (w : World), Turn g w (w.setCells g o vs)
  | [], _, w => Turn.refl g w
  | v :: r, o, w => (turn_setCell g o w v).trans (turn_setCells g r (o + 1) _)
theorem Turn.cell {g : Nat} {w w' : World} (h : Turn g w w') {p : Addr} (hp : p.block ≠ g) : w'.cell? p = w.cell? p := World.cell?_of_block (w := w) (h.block p.block hp)

theorem splice_get {α : Type} (L : List α) (off : Nat) (cs : List α) (h : off + cs.length ≤ L.length) (i : Nat) :
    (splice L off cs)[i]? = if off ≤ i ∧ i < off + cs.length then cs[i - off]? else L[i]? := by
  have e : (L.take off).length = off := by rw [List.length_take]; omega
  unfold splice
  by_cases h1 : i < off
  · rw [List.getElem?_append_left (by omega), List.getElem?_take_of_lt h1, if_neg (by omega)]
  · rw [List.getElem?_append_right (by omega), e]
    by_cases h2 : i < off + cs.length
    · rw [List.getElem?_append_left (by omega), if_pos (by omega)]
    · rw [List.getElem?_append_right (by omega), if_neg (by omega), List.getElem?_drop]
      congr 1; omega

/-- Cells laid over a known row. -/
theorem row_setCells {g : Nat} {t : TypeId} {m : Nat × Nat} : ∀ (vs : List Value) (o : Nat) (cur : List Value) (w : World), w.heap[g]? = some (.cells cur.toArray t m) → o + vs.length ≤ cur.length →
    (w.setCells g o vs).heap[g]? = some (.cells (splice cur o vs).toArray t m)
  | [], o, cur, w, h, _ => by simpa [World.setCells, splice] using h
  | v :: r, o, cur, w, h, hf => by
    have h1 := Lib.heap_setCell_same (i := o) h v
    simp only [List.setIfInBounds_toArray] at h1
    simp only [List.length_cons] at hf
    have hl : o + 1 + r.length ≤ (cur.set o v).length := by rw [List.length_set]; omega
    have h2 := row_setCells r (o + 1) (cur.set o v) (w.setCell ⟨g, o, none⟩ v) h1 hl
    rw [World.setCells, h2]
    congr 3
    apply List.ext_getElem?
    intro i
    rw [splice_get _ _ _ hl, splice_get _ _ _ (by simp only [List.length_cons]; omega), List.getElem?_set]
    simp only [List.length_cons]
    by_cases h3 : i = o
    · subst h3
      rw [if_neg (by omega), if_pos rfl, if_pos (by omega), if_pos (by omega)]; simp
    · by_cases h4 : o + 1 ≤ i ∧ i < o + 1 + r.length
      · rw [if_pos h4, if_pos (by omega), show i - o = (i - (o + 1)) + 1 by omega]; simp
      · rw [if_neg h4, if_neg (by omega), if_neg (by omega)]

theorem cell_of_row' {w : World} {g : Nat} {cur : List Value} {t : TypeId} {m : Nat × Nat} (h : w.heap[g]? = some (.cells cur.toArray t m)) (i : Nat) : w.cell? ⟨g, i, none⟩ = cur[i]? := by
  simp [World.cell?, h]
theorem frozen_of_row' {w : World} {g : Nat} {cur : List Value} {t : TypeId} (h : w.heap[g]? = some (.cells cur.toArray t (0, 0))) (i : Nat) : w.frozen? ⟨g, i, none⟩ = false := by
  simp [World.frozen?, h]

section
variable {P : Program}
/-- 'make([]byte, n)': a new row of zeros. -/
theorem make_bytes {t e : TypeId} (ht : P.underlying t = some (.slice e)) (hinfo : (P.info? e).map (fun i => (i.zero, i.size, i.bytes)) = some (some (.int .u8 0), 1, 1)) (w : World) (n : Nat) (hn : n ≤ 281474976710656) :
    ∃ w1, (Instr.makeSlice t (.int .i64 (n : Int)) (.int .i64 (n : Int))).run P w = .ok (.slice (some ⟨w.heap.size, 0, none⟩) n n) w1 ∧ Below w.heap.size w w1 ∧ w1.heap.size = w.heap.size + 1 ∧
      w1.heap[w.heap.size]? = some (.cells (List.replicate n (Value.int .u8 0)).toArray e (0, 0)) := by
  obtain ⟨i, hi, h2⟩ := Option.map_eq_some_iff.1 hinfo
  simp only [Prod.mk.injEq] at h2
  obtain ⟨hz, hsz, hby⟩ := h2
  have hr := run_make (P := P) w t e i _ ht hi hz .i64 .i64 (n : Int) (n : Int) (by omega) (by omega) (by rw [hby]; omega) (by omega)
  simp only [Int.toNat_natCast, hsz, Nat.mul_one] at hr
  refine ⟨_, hr, (Below.refl _ _).alloc (Nat.le_refl _) _, by simp, ?_⟩
  rw [heap_alloc_new]
  congr 2
  apply Array.ext
  · simp [size_madeCells]
  · intro j h1 h2
    have h0 : [Value.int IntKind.u8 0][j % 1]?.getD default = Value.int IntKind.u8 0 := by rw [Nat.mod_one]; rfl
    simp [madeCells, Value.cells, h0]

theorem strOfNums_bytes (l : List UInt8) : strOfNums (l.map fun b => (b.toNat : Int)) = ⟨l.toArray⟩ := by
  unfold strOfNums
  congr 2
  rw [List.map_map]
  conv => rhs; rw [← List.map_id l]
  apply List.map_congr_left
  intro x _
  simp

/-- 'string(b)': the bytes that the slice holds. -/
theorem BS.str {src e dst : TypeId} (hs : P.underlying src = some (.slice e)) (he : P.underlying e = some (.int .u8)) (hd : P.underlying dst = some .string) {w : World} {A : Option Addr} {n c : Nat} {l : List UInt8}
    (h : BS w (.slice A n c) l) : (convert src dst (.slice A n c)).run P w = .ok (.string ⟨l.toArray⟩) w := by
  obtain ⟨A', c', e1, _, h⟩ := h
  injection e1 with e1 e2 e3
  subst e1 e2 e3
  rcases Nat.eq_zero_or_pos l.length with h0 | h0
  · have hl : l = [] := List.eq_nil_of_length_eq_zero h0
    subst hl
    exact run_convert_bytes_zero w src e hs he A c dst hd
  · obtain ⟨b, o, rfl, hcl⟩ := h h0
    have := run_convert_bytes_arg (P := P) w src e hs he b o l.length c (l.map fun b => (b.toNat : Int)) (by simp) (fun i hi => by
      rw [hcl i hi]; simp [List.getD, List.getElem?_map, List.getElem?_eq_getElem hi]) dst hd
    rw [this, strOfNums_bytes]
/-- A row of the call's own whose head holds the bytes. -/
theorem BS.of_row {w : World} {g c : Nat} {t : TypeId} {m : Nat × Nat} {l : List UInt8} (h : w.heap[g]? = some (.cells (Lib.byteCells l).toArray t m)) (hc : l.length ≤ c) : BS w (.slice (some ⟨g, 0, none⟩) l.length c) l :=
  BS.of_cells hc fun j hj => by rw [Nat.zero_add, cell_of_row' h]; simp [Lib.byteCells, List.getElem?_eq_getElem hj]
theorem BS.slice {w : World} {A : Option Addr} {n c : Nat} {l : List UInt8} (h : BS w (.slice A n c) l) : n = l.length ∧ l.length ≤ c := by
  obtain ⟨A', c', e1, h1, _⟩ := h
  injection e1 with e1 e2 e3
  exact ⟨e2, by rw [e3]; exact h1⟩
theorem BS.at_ {w : World} {A : Option Addr} {n c : Nat} {l : List UInt8} (h : BS w (.slice A n c) l) (h0 : 0 < n) :
    ∃ b o, A = some ⟨b, o, none⟩ ∧ ∀ j (h : j < l.length), w.cell? ⟨b, o + j, none⟩ = some (.int .u8 (l[j].toNat)) := by
  obtain ⟨A', c', e1, h1, h2⟩ := h
  injection e1 with e1 e2 e3
  subst e1
  exact h2 (by omega)

/-- 's[i]' of a string that is told by its bytes. -/
theorem idx_str {t : TypeId} (ht : P.underlying t = some .string) (u : List UInt8) (i : Nat) (c : UInt8) (h : u[i]? = some c) (x : Int) (hx : x = i) (W : World) :
    (Instr.index t (.string ⟨u.toArray⟩) (.int .i64 x)).run P W = .ok (.int .u8 (c.toNat : Int)) W := by
  subst hx
  obtain ⟨hi, hc⟩ := List.getElem?_eq_some_iff.1 h
  have hi' : (0 : Int) ≤ (i : Int) ∧ (i : Int) < ((⟨u.toArray⟩ : ByteArray).size : Int) := ⟨by omega, by show (i : Int) < ((u.toArray.size : Nat) : Int); simp; omega⟩
  rw [run_index_string (P := P) W t ⟨u.toArray⟩ .i64 (i : Int) ht, dif_pos hi']
  congr 3
  rw [← hc]; rfl

theorem run_size {e : TypeId} (hsz : (P.info? e).map (fun i => (i.zero, i.size, i.bytes)) = some (some (.int .u8 0), 1, 1)) (w : World) : (sizeOf e).run P w = .ok 1 w := by
  obtain ⟨i, hi, h2⟩ := Option.map_eq_some_iff.1 hsz
  simp only [Prod.mk.injEq] at h2
  simp [sizeOf, typeInfo, hi, h2.2.1]

/-- Where 's[k:]' begins. -/
def cutA (A : Option Addr) (c k : Nat) : Option Addr := if c = k then A else A.map (·.add (k * 1))

/-- 's[k:]'. -/
theorem BS.from_ {t e : TypeId} (ht : P.underlying t = some (.slice e)) (hsz : (P.info? e).map (fun i => (i.zero, i.size, i.bytes)) = some (some (.int .u8 0), 1, 1)) {w : World} {A : Option Addr} {n c : Nat} {l : List UInt8} (h : BS w (.slice A n c) l) (k : Nat) (hk : k ≤ n) :
    (∀ W, (Instr.slice t (.slice A n c) (some (.int .i64 (k : Int))) none none).run P W = .ok (.slice (cutA A c k) (n - k) (c - k)) W) ∧ BS w (.slice (cutA A c k) (n - k) (c - k)) (l.drop k) := by
  obtain ⟨hn, hc⟩ := h.slice
  have ht' : P.underlying t = some (.slice (P.elem t)) := by simp [Program.elem, ht]
  have he : P.elem t = e := by simp [Program.elem, ht]
  refine ⟨fun W => ?_, ?_⟩
  · rw [run_slice_l W t _ _ _ ht' .i64 _ (by omega) (by omega), he, run_size hsz, Int.toNat_natCast]; rfl
  · have e1 : n - k = (l.drop k).length := by simp; omega
    refine ⟨_, c - k, by rw [e1], by rw [← e1]; omega, fun h0 => ?_⟩
    obtain ⟨b, o, rfl, hcell⟩ := h.at_ (by omega)
    unfold cutA
    rw [if_neg (by omega)]
    refine ⟨b, o + k, ?_, fun j hj => ?_⟩
    · by_cases hk0 : k = 0
      · subst hk0; simp [Addr.add]
      · simp [Addr.add, hk0]
    · rw [Nat.add_assoc, hcell (k + j) (by simp at hj; omega), List.getElem_drop]

/-- 's[:k]'. -/
theorem BS.to_ {t e : TypeId} (ht : P.underlying t = some (.slice e)) (hsz : (P.info? e).map (fun i => (i.zero, i.size, i.bytes)) = some (some (.int .u8 0), 1, 1)) {w : World} {A : Option Addr} {n c : Nat} {l : List UInt8} (h : BS w (.slice A n c) l) (k : Nat) (hk : k ≤ n) :
    (∀ W, (Instr.slice t (.slice A n c) none (some (.int .i64 (k : Int))) none).run P W = .ok (.slice A k c) W) ∧ (∀ W, (Instr.slice t (.slice A n c) none (some (.int .u64 (k : Int))) none).run P W = .ok (.slice A k c) W) ∧ BS w (.slice A k c) (l.take k) := by
  obtain ⟨hn, hc⟩ := h.slice
  have ht' : P.underlying t = some (.slice (P.elem t)) := by simp [Program.elem, ht]
  have he : P.elem t = e := by simp [Program.elem, ht]
  have hz : sliced A 0 k c 1 = .slice A k c := by
    unfold sliced
    congr 1
    by_cases h0 : c = 0
    · rw [if_pos h0]
    · rw [if_neg h0]; cases A <;> simp [Addr.add]
  refine ⟨fun W => ?_, fun W => ?_, ?_⟩
  · rw [run_slice_h W t _ _ _ ht' .i64 _ (by omega) (by omega), he, run_size hsz, Int.toNat_natCast]; exact congrArg (fun v => Result.ok v W) hz
  · rw [run_slice_h W t _ _ _ ht' .u64 _ (by omega) (by omega), he, run_size hsz, Int.toNat_natCast]; exact congrArg (fun v => Result.ok v W) hz
  · have e1 : k = (l.take k).length := by simp; omega
    refine ⟨A, c, by rw [← e1], by rw [← e1]; omega, fun h0 => ?_⟩
    obtain ⟨b, o, rfl, hcell⟩ := h.at_ (by omega)
    exact ⟨b, o, rfl, fun j hj => by rw [hcell j (by simp at hj; omega), List.getElem_take]⟩

/-- Two results, the first a struct in a block that is known whole. -/
theorem results_row_tmp {fn : Func} {p u : Tmp} {ty : TypeId} (h : fn.results = #[.cell p ty, .tmp u]) (tmps : Array Value) (w : World) (g : Nat) (t : TypeId) (cs : Array Value) (fr : Nat × Nat) (d : TypeDesc)
    (hp : tmps.getD p undef = .pointer (some ⟨g, 0, none⟩)) (hg : w.heap[g]? = some (.cells cs t fr))
    (hu : P.underlying ty = some d) (hd : (match d with | .struct _ | .array _ _ => true | _ => false) = true) (hi : (P.info? ty).map (·.size) = some cs.size) :
    (results fn tmps).run P w = .ok (.tuple #[.agg cs, tmps.getD u undef]) w := by
  rw [results_cell_tmp h, hp]
  simp [asAddr, run_loadVar_row w g t ty cs fr d hg hu hd hi, Result.andThen]
/-- A row that a call below which it lies has left alone. -/
theorem row_below {w w' : World} {B g : Nat} {o : Obj} (hb : Below B w w') (hg : g < B) (h : w.heap[g]? = some o) : w'.heap[g]? = some o := (hb.block g hg).trans h

/-- 's[k:]', whatever it holds. -/
theorem run_from {t e : TypeId} (ht : P.underlying t = some (.slice e)) (hsz : (P.info? e).map (fun i => (i.zero, i.size, i.bytes)) = some (some (.int .u8 0), 1, 1)) (A : Option Addr) (n c k : Nat) (hk : k ≤ n) (W : World) :
    (Instr.slice t (.slice A n c) (some (.int .i64 (k : Int))) none none).run P W = .ok (.slice (cutA A c k) (n - k) (c - k)) W := by
  have ht' : P.underlying t = some (.slice (P.elem t)) := by simp [Program.elem, ht]
  have he : P.elem t = e := by simp [Program.elem, ht]
  rw [run_slice_l W t _ _ _ ht' .i64 _ (by omega) (by omega), he, run_size hsz, Int.toNat_natCast]; rfl
theorem cutA_own (g o c k : Nat) (h : k < c) : cutA (some ⟨g, o, none⟩) c k = some ⟨g, o + k, none⟩ := by
  unfold cutA
  rw [if_neg (by omega)]
  by_cases hk : k = 0 <;> simp [Addr.add, hk]
end
end Go.Proofs.YthfgnhgijgjggaaDoor
/- Words on memory for readers: what is kept but for some blocks; a slice and a reader that stands somewhere in it. -/
namespace Go.Proofs.YthfgnhgijgjggaaDoor
open Go.RowKit

/-- All blocks that were there, but those of S, are as they were. -/
structure Keep (S : Nat → Prop) (w w' : World) : Prop where
  os : w'.os = w.os
  tape : w'.tape = w.tape
  output : w'.output = w.output
  size : w.heap.size ≤ w'.heap.size
  block : ∀ k, k < w.heap.size → ¬ S k → w'.heap[k]? = w.heap[k]?

theorem Keep.refl (S : Nat → Prop) (w : World) : Keep S w w := ⟨rfl, rfl, rfl, Nat.le_refl _, fun _ _ _ => rfl⟩
theorem Keep.trans {S : Nat → Prop} {a b c : World} (h : Keep S a b) (k : Keep S b c) : Keep S a c :=
  ⟨k.os.trans h.os, k.tape.trans h.tape, k.output.trans h.output, Nat.le_trans h.size k.size, fun i hi hs => (k.block i (Nat.lt_of_lt_of_le hi h.size) hs).trans (h.block i hi hs)⟩
theorem Keep.mono {S T : Nat → Prop} {a b : World} (h : Keep S a b) (k : ∀ i, i < a.heap.size → S i → T i) : Keep T a b :=
  ⟨h.os, h.tape, h.output, h.size, fun i hi hs => h.block i hi fun hS => hs (k i hi hS)⟩
/-- What the second part may turn of old blocks, the first may. -/
theorem Keep.trans2 {S T : Nat → Prop} {a b c : World} (h : Keep S a b) (k : Keep T b c) (hT : ∀ i, i < a.heap.size → T i → S i) : Keep S a c :=
  ⟨k.os.trans h.os, k.tape.trans h.tape, k.output.trans h.output, Nat.le_trans h.size k.size, fun i hi hs => (k.block i (Nat.lt_of_lt_of_le hi h.size) fun hh => hs (hT i hi hh)).trans (h.block i hi hs)⟩
theorem _root_.Go.RowKit.Below.keep {S : Nat → Prop} {w w' : World} (h : Below w.heap.size w w') : Keep S w w' :=
  ⟨h.os, h.tape, h.output, h.size, fun k hk _ => h.block k hk⟩
theorem Keep.below {S : Nat → Prop} {B : Nat} {w w' : World} (h : Keep S w w') (hS : ∀ k, k < B → ¬ S k) (hB : B ≤ w.heap.size) : Below B w w' :=
  ⟨h.os, h.tape, h.output, h.size, fun k hk => h.block k (by omega) (hS k hk)⟩
theorem Keep.drewN {S : Nat → Prop} {a w : World} (h : Keep S a w) (n : Nat) : Keep S a (w.drewN n) := h.trans ⟨rfl, rfl, rfl, Nat.le_refl _, fun _ _ _ => rfl⟩
theorem keep_drewN (S : Nat → Prop) (w : World) (n : Nat) : Keep S w (w.drewN n) := (Keep.refl S w).drewN n
theorem Keep.cell {S : Nat → Prop} {w w' : World} (h : Keep S w w') {p : Addr} {u : Value} (hc : w.cell? p = some u) (hp : ¬ S p.block) : w'.cell? p = some u :=
  (World.cell?_of_block (w := w) (h.block p.block (block_of_cell hc) hp)).trans hc
theorem block_of_row {w : World} {g : Nat} {o : Obj} (h : w.heap[g]? = some o) : g < w.heap.size := by
  rcases Nat.lt_or_ge g w.heap.size with hp | hp
  · exact hp
  · rw [Array.getElem?_eq_none hp] at h; cases h
theorem Keep.row {S : Nat → Prop} {w w' : World} (h : Keep S w w') {g : Nat} {o : Obj} (hg : w.heap[g]? = some o) (hs : ¬ S g) : w'.heap[g]? = some o := (h.block g (block_of_row hg) hs).trans hg
theorem Keep.setCell {S : Nat → Prop} {a w : World} (h : Keep S a w) {p : Nat} (hp : S p) (o : Nat) (v : Value) : Keep S a (w.setCell ⟨p, o, none⟩ v) :=
  h.trans2 (S := S) (T := fun k => k = p) ⟨rfl, rfl, rfl, by simp [World.setCell], fun k _ hk => Below.heap_setCell _ _ _ _ hk⟩ (fun i _ e => e ▸ hp)
theorem Keep.setRow {S : Nat → Prop} {a w : World} (h : Keep S a w) {p : Nat} (hp : S p) (cs : Array Value) : Keep S a (w.setRow p cs) :=
  h.trans2 (S := S) (T := fun k => k = p) ⟨rfl, rfl, rfl, by simp [World.setRow], fun k _ hk => setRow_other w p k cs hk⟩ (fun i _ e => e ▸ hp)
theorem Keep.alloc {S : Nat → Prop} {a w : World} (h : Keep S a w) (o : Obj) : Keep S a (w.alloc o) :=
  h.trans (((Below.refl _ _).alloc (Nat.le_refl _) _).keep)

/-- The slice value v holds the bytes l, in a block that is not S. -/
structure BSo (S : Nat → Prop) (w : World) (v : Value) (l : List UInt8) : Prop where
  bs : BS w v l
  out : 0 < l.length → ∀ A n c a, v = .slice A n c → A = some a → ¬ S a.block
theorem BSo.keep {S : Nat → Prop} {w w' : World} {v : Value} {l : List UInt8} (h : BSo S w v l) (hk : Keep S w w') : BSo S w' v l := by
  obtain ⟨⟨A, c, rfl, hc, h⟩, ho⟩ := h
  refine ⟨⟨A, c, rfl, hc, fun hl => ?_⟩, ho⟩
  obtain ⟨b, o, e0, h2⟩ := h hl
  subst e0
  exact ⟨b, o, rfl, fun j hj => hk.cell (h2 j hj) (ho hl (some ⟨b, o, none⟩) _ _ ⟨b, o, none⟩ rfl rfl)⟩

/-- 'copy(dst, src)' into a row that is known whole: only that row has turned. -/
theorem wpList_copy_keep {P : Program} {w : World} {ops : Array Oper} {rest : List Oper} {o : Oper} {a : Act} {Q : Exit → Act → World → Prop} (hgd : o.guard = none) (d s : Operand) (dT sT : TypeId)
    (ho : o.op = .call { callee := .builtin .copy, args := #[d, s], argTypes := #[dT, sT] }) (elem : TypeId) (hu : P.underlying dT = some (.slice elem)) (hsz : (P.info? elem).map (·.size) = some 1)
    (dp sp : Option Addr) (dLen dCap sLen sCap : Nat) (hd : a.eval d = .slice dp dLen dCap) (hs : a.eval s = .slice sp sLen sCap)
    (g off : Nat) (cur : List Value) (t : TypeId) (hg : w.heap[g]? = some (.cells cur.toArray t (0, 0))) (cs : List Value) (hn : cs.length = Nat.min sLen dLen)
    (hpos : 0 < cs.length → dp = some ⟨g, off, none⟩ ∧ ∃ ad, sp = some ad ∧ ∀ j v, cs[j]? = some v → w.cell? (ad.add j) = some v)
    (hfit : off + cs.length ≤ cur.length) (h1 : ∀ v ∈ cs, v.oneCell' = true)
    (h : ∀ w', Hid (w'.heap[g]? = some (.cells (splice cur off cs).toArray t (0, 0))) → Keep (fun k => k = g) w w' → wpList P ops Q rest (a.put o.dst (goInt cs.length)) w') :
    wpList P ops Q (o :: rest) a w := by
  by_cases h0 : cs.length = 0
  · obtain rfl : cs = [] := List.eq_nil_of_length_eq_zero h0
    refine wpList_copy_nothing hgd d s dT sT ho elem hu hsz dp sp dLen dCap sLen sCap hd hs (by simpa using hn.symm) ?_
    exact h w (show _ = _ by simpa [splice] using hg) (Keep.refl _ _)
  · obtain ⟨rfl, ad, rfl, hsrc⟩ := hpos (by omega)
    refine wpList_copy_own hgd d s dT sT ho elem hu hsz g off dLen dCap ad sLen sCap hd hs cur.toArray t hg cs hn hsrc (by simpa using hfit) h1 ?_
    exact h _ (show _ = _ by simpa [splice] using setRow_heap w g _ _ t _ hg) ((Keep.refl (fun k => k = g) w).setRow (p := g) rfl _)

/-- A reader in block p (of type t) that stands at byte i of the bytes l of the slice v; l does not lie in blocks from p on. -/
structure RdrT (t : TypeId) (w : World) (p : Nat) (v : Value) (l : List UInt8) (i : Nat) : Prop where
  row : ∃ r : Int, w.heap[p]? = some (.cells #[v, .int .i64 i, .int .i64 r] t (0, 0))
  bs : BSo (fun k => p ≤ k) w v l
  le : i ≤ l.length
  fits : l.length ≤ 9223372036854775807
theorem RdrT.keep {t : TypeId} {w w' : World} {p : Nat} {v : Value} {l : List UInt8} {i : Nat} (h : RdrT t w p v l i) {S : Nat → Prop} (hk : Keep S w w') (hS : ∀ k, S k → p < k) : RdrT t w' p v l i := by
  obtain ⟨⟨r, hr⟩, hb, hl, hf⟩ := h
  exact ⟨⟨r, hk.row hr (fun hh => Nat.lt_irrefl _ (hS _ hh))⟩, hb.keep (hk.mono fun i _ h => Nat.le_of_lt (hS i h)), hl, hf⟩
/-- The slice v of the bytes l does not lie in block h. -/
def OffBlock (v : Value) (l : List UInt8) (h : Nat) : Prop := 0 < l.length → ∀ A n c a, v = .slice A n c → A = some a → a.block ≠ h
/-- .. where the turned block is another one, and not where the bytes lie. -/
theorem RdrT.keep' {t : TypeId} {w w' : World} {p : Nat} {v : Value} {l : List UInt8} {i : Nat} (h : RdrT t w p v l i) {g : Nat} (hk : Keep (fun k => k = g) w w') (hS : g ≠ p) (hv : OffBlock v l g) : RdrT t w' p v l i := by
  obtain ⟨⟨r, hr⟩, hb, hl, hf⟩ := h
  refine ⟨⟨r, hk.row hr (fun hh => hS hh.symm)⟩, ⟨(BSo.keep (S := fun k => k = g) ⟨hb.bs, fun h0 A n c a e1 e2 => hv h0 A n c a e1 e2⟩ hk).bs, hb.out⟩, hl, hf⟩
theorem RdrT.below {t : TypeId} {w w' : World} {p : Nat} {v : Value} {l : List UInt8} {i : Nat} (h : RdrT t w p v l i) (hk : Below w.heap.size w w') : RdrT t w' p v l i := h.keep (S := fun _ => False) hk.keep (fun _ h => h.elim)
theorem RdrT.drew {t : TypeId} {w : World} {p : Nat} {v : Value} {l : List UInt8} {i : Nat} (h : RdrT t w p v l i) : RdrT t w.drew p v l i := h.keep (S := fun _ => False) ((Keep.refl _ w).drewN 1) (fun _ h => h.elim)
theorem keep_drew (S : Nat → Prop) (w : World) : Keep S w w.drew := (Keep.refl _ w).drewN 1
theorem splice_whole {α : Type} (L cs : List α) (h : cs.length = L.length) : splice L 0 cs = cs := by
  unfold splice
  rw [Nat.zero_add, h, List.drop_length]; simp
end Go.Proofs.YthfgnhgijgjggaaDoor
/- The plain law of reading a varint of a list of bytes: what it is, no program in sight. -/
namespace Go.Proofs.YthfgnhgijgjggaaDoor
open Go.RowKit

/-- What reading a varint comes to. -/
inductive UvR where
  | ok (x m : Nat)
  | over
  | notMin
  | under

/-- One byte more, at place k. -/
def uvGo : Nat → Nat → List UInt8 → UvR
  | _, _, [] => .under
  | k, X, b :: r =>
    if (k = 8 ∧ 128 ≤ b.toNat) ∨ 9 ≤ k then .over
    else if b.toNat < 128 then (if b.toNat = 0 ∧ 0 < k then .notMin else .ok (X + b.toNat * 2 ^ (7 * k)) (k + 1))
    else uvGo (k + 1) (X + (b.toNat % 128) * 2 ^ (7 * k)) r
def uvDec (l : List UInt8) : UvR := uvGo 0 0 l

theorem uv_or (k X B : Nat) (hk : k ≤ 8) (hX : X < 2 ^ (7 * k)) (hB : B < 128) :
    bits .or .u64 (X : Int) (IntKind.u64.wrap ((B : Int) * 2 ^ (7 * k))) = ((X + B * 2 ^ (7 * k) : Nat) : Int) := by
  have h : k = 0 ∨ k = 1 ∨ k = 2 ∨ k = 3 ∨ k = 4 ∨ k = 5 ∨ k = 6 ∨ k = 7 ∨ k = 8 := by omega
  rcases h with rfl | rfl | rfl | rfl | rfl | rfl | rfl | rfl | rfl <;>
    simp only [Nat.reduceMul, Nat.reducePow, Int.reducePow, Nat.mul_zero, Nat.pow_zero, Int.pow_zero] at hX ⊢ <;>
    rw [IntWalk.u64_in _ (by omega)]
  · rw [u64_orv0 _ _ (by omega) (by omega) (by omega) (by omega) (by omega)]; omega
  · rw [u64_orv7 _ _ (by omega) (by omega) (by omega) (by omega) (by omega)]; omega
  · rw [u64_orv14 _ _ (by omega) (by omega) (by omega) (by omega) (by omega)]; omega
  · rw [u64_orv21 _ _ (by omega) (by omega) (by omega) (by omega) (by omega)]; omega
  · rw [u64_orv28 _ _ (by omega) (by omega) (by omega) (by omega) (by omega)]; omega
  · rw [u64_orv35 _ _ (by omega) (by omega) (by omega) (by omega) (by omega)]; omega
  · rw [u64_orv42 _ _ (by omega) (by omega) (by omega) (by omega) (by omega)]; omega
  · rw [u64_orv49 _ _ (by omega) (by omega) (by omega) (by omega) (by omega)]; omega
  · rw [u64_orv56 _ _ (by omega) (by omega) (by omega) (by omega) (by omega)]; omega

/-- The round's own word: the low seven bits laid on top. -/
theorem uv_or_and (k X B : Nat) (hk : k ≤ 8) (hX : X < 2 ^ (7 * k)) (hB : B < 256) :
    bits .or .u64 (X : Int) (IntKind.u64.wrap (IntKind.u64.wrap (bits .and .u8 (B : Int) 127) * 2 ^ (7 * k))) = ((X + B % 128 * 2 ^ (7 * k) : Nat) : Int) := by
  rw [u8_and127 _ (by omega) (by omega), IntWalk.u64_in ((B : Int) % 128) (by omega)]
  have := uv_or k X (B % 128) hk hX (by omega)
  rw [← this]; rfl

theorem uv_step_lt (k X B : Nat) (hX : X < 2 ^ (7 * k)) (hB : B < 128) : X + B * 2 ^ (7 * k) < 2 ^ (7 * (k + 1)) := by
  have : 2 ^ (7 * (k + 1)) = 128 * 2 ^ (7 * k) := by rw [Nat.mul_add, Nat.pow_add]; omega
  rw [this]
  have : B * 2 ^ (7 * k) ≤ 127 * 2 ^ (7 * k) := Nat.mul_le_mul_right _ (by omega)
  omega

theorem bitLen_lt128 : ∀ n : Fin 128, (n.val = 0 ∧ Lib.bitLen n.val = 0) ∨ (1 ≤ Lib.bitLen n.val ∧ Lib.bitLen n.val ≤ 7) := by decide +kernel

/-- A number's varint has one byte for each seven bits, one for 0. -/
theorem uv_size (x : Nat) (h : x < 18446744073709551616) :
    (Lib.uvarint x).length = Lib.bitLen x / 7 + (if 0 < Lib.bitLen x % 7 ∨ Lib.bitLen x / 7 = 0 then 1 else 0) := by
  induction x using Nat.strongRecOn with
  | ind x ih =>
    by_cases hx : x < 128
    · rw [Lib.uvarint_small hx, List.length_singleton]; clear ih
      rcases bitLen_lt128 ⟨x, hx⟩ with ⟨_, h0⟩ | ⟨h1, h2⟩
      · simp only at h0; rw [h0]; decide
      · simp only at h1 h2
        generalize Lib.bitLen x = n at h1 h2 ⊢
        have : n = 1 ∨ n = 2 ∨ n = 3 ∨ n = 4 ∨ n = 5 ∨ n = 6 ∨ n = 7 := by omega
        rcases this with rfl | rfl | rfl | rfl | rfl | rfl | rfl <;> decide
    · have h1 := ih (x / 128) (by omega) (by omega)
      have h2 := Lib.bitLen_shift 7 x (by omega) (by omega)
      rw [Lib.uvarint_big (by omega), List.length_cons, h1, h2, show x / 2 ^ 7 = x / 128 from rfl]
      generalize hn : Lib.bitLen (x / 128) = n
      have hn1 : 1 ≤ n := by
        rcases Nat.eq_zero_or_pos n with h0 | h0
        · exfalso
          by_cases hs : x / 128 < 128
          · rcases bitLen_lt128 ⟨x / 128, hs⟩ with ⟨h3, _⟩ | ⟨h3, _⟩
            · simp only at h3; omega
            · simp only at h3; omega
          · have := Lib.bitLen_shift 7 (x / 128) (by omega) (by omega)
            omega
        · exact h0
      by_cases h7 : 0 < n % 7
      · rw [if_pos (Or.inl h7), if_pos (Or.inl (by omega))]; omega
      · rw [if_neg (by omega), if_neg (by omega)]; omega

/-- What is read is what is written: the bytes that were read are the number's varint. -/
theorem uvGo_ok : ∀ (l : List UInt8) (k X x m : Nat), X < 2 ^ (7 * k) → uvGo k X l = .ok x m →
    k + 1 ≤ m ∧ m ≤ k + l.length ∧ m ≤ 9 ∧ X ≤ x ∧ x % 2 ^ (7 * k) = X ∧ x < 2 ^ (7 * m) ∧ l.take (m - k) = Lib.uvarint (x / 2 ^ (7 * k)) ∧ (0 < k → 0 < x / 2 ^ (7 * k))
  | [], k, X, x, m, _, h => by simp [uvGo] at h
  | b :: r, k, X, x, m, hX, h => by
    have hb : b.toNat < 256 := UInt8.toNat_lt _
    have hP : 0 < 2 ^ (7 * k) := Nat.pos_of_ne_zero (by simp)
    unfold uvGo at h
    by_cases h1 : (k = 8 ∧ 128 ≤ b.toNat) ∨ 9 ≤ k
    · rw [if_pos h1] at h; cases h
    rw [if_neg h1] at h
    by_cases h2 : b.toNat < 128
    · rw [if_pos h2] at h
      by_cases h3 : b.toNat = 0 ∧ 0 < k
      · rw [if_pos h3] at h; cases h
      · rw [if_neg h3] at h
        injection h with e1 e2
        have hd : x / 2 ^ (7 * k) = b.toNat := by
          rw [← e1, Nat.mul_comm, Nat.add_mul_div_left _ _ hP, Nat.div_eq_of_lt hX, Nat.zero_add]
        have hlt := uv_step_lt k X b.toNat hX h2
        refine ⟨by omega, by simp only [List.length_cons]; omega, by omega, by omega, ?_, by rw [← e2, ← e1]; exact hlt, ?_, ?_⟩
        · rw [← e1, Nat.mul_comm, Nat.add_mul_mod_self_left, Nat.mod_eq_of_lt hX]
        · rw [hd, ← e2, show k + 1 - k = 1 by omega, Lib.uvarint_small h2]
          simp
        · intro hk; rw [hd]; omega
    · rw [if_neg h2] at h
      have hlt := uv_step_lt k X (b.toNat % 128) hX (by omega)
      have ih := uvGo_ok r (k + 1) _ x m hlt h
      obtain ⟨g1, g2, g3, g4, g5, g6, g7, g8⟩ := ih
      have hp : 2 ^ (7 * (k + 1)) = 2 ^ (7 * k) * 128 := by rw [Nat.mul_add, Nat.pow_add]
      have hd : x / 2 ^ (7 * (k + 1)) = x / 2 ^ (7 * k) / 128 := by rw [hp, Nat.div_div_eq_div_mul]
      have hpos : 0 < x / 2 ^ (7 * k) / 128 := by rw [← hd]; exact g8 (by omega)
      have hm : x / 2 ^ (7 * k) % 128 = b.toNat % 128 := by
        have e1 : x % (2 ^ (7 * k) * 128) = X + b.toNat % 128 * 2 ^ (7 * k) := by rw [← hp]; exact g5
        have e2 : x % (2 ^ (7 * k) * 128) / 2 ^ (7 * k) = x / 2 ^ (7 * k) % 128 := Nat.mod_mul_right_div_self _ _ _
        rw [← e2, e1, Nat.mul_comm (b.toNat % 128), Nat.add_mul_div_left _ _ hP, Nat.div_eq_of_lt hX, Nat.zero_add]
      refine ⟨by omega, by simp only [List.length_cons]; omega, g3, ?_, ?_, g6, ?_, ?_⟩
      · have : 0 ≤ b.toNat % 128 * 2 ^ (7 * k) := Nat.zero_le _
        omega
      · have e3 : x % (2 ^ (7 * k) * 128) % 2 ^ (7 * k) = x % 2 ^ (7 * k) := Nat.mod_mul_right_mod _ _ _
        rw [← e3, ← hp, g5, Nat.mul_comm, Nat.add_mul_mod_self_left, Nat.mod_eq_of_lt hX]
      · rw [show m - k = (m - (k + 1)) + 1 by omega, List.take_succ_cons, g7, hd, Lib.uvarint_big (x := x / 2 ^ (7 * k)) (by omega), hm]
        congr 1
        apply UInt8.toNat_inj.1
        rw [show b.toNat % 128 + 128 = b.toNat by omega]
        simp
      · intro _; omega

theorem uvDec_ok {l : List UInt8} {x m : Nat} (h : uvDec l = .ok x m) : 1 ≤ m ∧ m ≤ l.length ∧ m ≤ 9 ∧ x < 2 ^ (7 * m) ∧ l.take m = Lib.uvarint x := by
  obtain ⟨h1, h2, h3, _, _, h4, h5, _⟩ := uvGo_ok l 0 0 x m (by decide) h
  refine ⟨by omega, by omega, h3, h4, ?_⟩
  simpa using h5
theorem uvDec_lt63 {l : List UInt8} {x m : Nat} (h : uvDec l = .ok x m) : x < 9223372036854775808 := by
  obtain ⟨_, _, h3, h4, _⟩ := uvDec_ok h
  exact Nat.lt_of_lt_of_le h4 (Nat.pow_le_pow_right (by decide) (by omega : 7 * m ≤ 63))

def UvR.no : UvR → Prop
  | .ok _ _ => False
  | _ => True
/-- Bytes of which each says that one more follows: no varint. -/
theorem uvGo_high : ∀ (l : List UInt8) (k X : Nat), (∀ b ∈ l, 128 ≤ b.toNat) → (uvGo k X l).no
  | [], _, _, _ => trivial
  | b :: r, k, X, h => by
    have hb := h b (by simp)
    unfold uvGo
    by_cases h1 : (k = 8 ∧ 128 ≤ b.toNat) ∨ 9 ≤ k
    · rw [if_pos h1]; trivial
    · rw [if_neg h1, if_neg (by omega)]; exact uvGo_high r _ _ (fun c hc => h c (by simp [hc]))
/-- .. nor with a needless zero behind. -/
theorem uvGo_high0 : ∀ (l : List UInt8) (k X : Nat), (∀ b ∈ l, 128 ≤ b.toNat) → 0 < k + l.length → (uvGo k X (l ++ [0])).no
  | [], k, X, _, hk => by
    simp only [List.length_nil, Nat.add_zero] at hk
    rw [List.nil_append]
    unfold uvGo
    by_cases h1 : (k = 8 ∧ 128 ≤ (0 : UInt8).toNat) ∨ 9 ≤ k
    · rw [if_pos h1]; trivial
    · rw [if_neg h1, if_pos (by decide), if_pos ⟨rfl, hk⟩]; trivial
  | b :: r, k, X, h, _ => by
    have hb := h b (by simp)
    rw [List.cons_append]
    unfold uvGo
    by_cases h1 : (k = 8 ∧ 128 ≤ b.toNat) ∨ 9 ≤ k
    · rw [if_pos h1]; trivial
    · rw [if_neg h1, if_neg (by omega)]; exact uvGo_high0 r _ _ (fun c hc => h c (by simp [hc])) (by omega)

/-- Each byte of a varint but the last one says that one more follows; the last one does not. -/
theorem uvarint_split (x : Nat) : ∃ (pre : List UInt8) (c : UInt8), Lib.uvarint x = pre ++ [c] ∧ (∀ b ∈ pre, 128 ≤ b.toNat) ∧ c.toNat < 128 := by
  induction x using Nat.strongRecOn with
  | ind x ih =>
    by_cases hx : x < 128
    · refine ⟨[], x.toUInt8, by rw [Lib.uvarint_small hx]; rfl, fun b hb => by simp at hb, ?_⟩
      simp; omega
    · obtain ⟨pre, c, e, h1, h2⟩ := ih (x / 128) (by omega)
      refine ⟨(x % 128 + 128).toUInt8 :: pre, c, by rw [Lib.uvarint_big (by omega), e]; rfl, fun b hb => ?_, h2⟩
      simp only [List.mem_cons] at hb
      rcases hb with rfl | hb
      · simp; omega
      · exact h1 b hb

/-- What is cut off ahead of the last byte is no varint. -/
theorem uvDec_cut (x k : Nat) (hk : k < (Lib.uvarint x).length) : (uvDec ((Lib.uvarint x).take k)).no := by
  obtain ⟨pre, c, e, h1, _⟩ := uvarint_split x
  rw [e] at hk ⊢
  simp only [List.length_append, List.length_singleton] at hk
  rw [List.take_append_of_le_length (by omega)]
  exact uvGo_high _ _ _ fun b hb => h1 b (List.mem_of_mem_take hb)

end Go.Proofs.YthfgnhgijgjggaaDoor
namespace Go.Proofs.YthfgnhgijgjggaaDoor
open Go.RowKit

def UvR.val (E1 E2 E3 : Value) : UvR → Value
  | .ok x m => .tuple #[.int .u64 x, .int .i64 m, .nilIface]
  | .over => .tuple #[.int .u64 0, .int .i64 0, E1]
  | .notMin => .tuple #[.int .u64 0, .int .i64 0, E2]
  | .under => .tuple #[.int .u64 0, .int .i64 0, E3]

theorem UvR.ok_eq {E1 E2 E3 : Value} {Y M : Int} {x m : Nat} (h : Y = x) (h2 : M = m) : Ending.returned (.tuple #[.int .u64 Y, .int .i64 M, .nilIface]) = .returned ((UvR.ok x m).val E1 E2 E3) := by
  rw [h, h2]; rfl

set_option maxRecDepth 100000 in
set_option maxHeartbeats 1000000 in
theorem fromUv_any (b o n c : Nat) (l : List UInt8) (w : World) (hl : l.length = n) (hm : n ≤ 9223372036854775807)
    (hc : ∀ j (h : j < l.length), w.cell? ⟨b, o + j, none⟩ = some (.int .u8 (l[j].toNat)))
    (T : TypeId) (p1 p2 p3 : Value)
    (h1 : w.cell? ⟨2, 0, none⟩ = some (.iface T p1)) (h2 : w.cell? ⟨3, 0, none⟩ = some (.iface T p2)) (h3 : w.cell? ⟨4, 0, none⟩ = some (.iface T p3)) :
    Calls Tryd.prog 79 #[.slice (some ⟨b, o, none⟩) n c] w fun e w' =>
      e = .returned ((uvDec l).val (.iface T p1) (.iface T p2) (.iface T p3)) ∧ ∃ q, w' = w.drewN q := by
  go_enter Tryd.func79, Tryd.ntmps79
  go_wp2
  go_loop [5, 6, 11] (fun x sh i => ∃ (k X : Nat), k ≤ n ∧ k ≤ 9 ∧ X < 2 ^ (7 * k) ∧ i = .int .i64 k ∧ sh = .int .u64 (7 * k : Nat) ∧ x = .int .u64 X ∧ Hid (uvDec l = uvGo k X (l.drop k))) (fun _ _ i => n - (intOf i).toNat)
  case atStart => exact ⟨0, 0, by omega, by omega, by decide, rfl, rfl, rfl, Lib.hid rfl⟩
  case round =>
    obtain ⟨k, X, hk, hk10, hX, rfl, rfl, rfl, hd⟩ := hrel
    by_cases hlt : k < n
    · have hlt' : k < l.length := by omega
      have hcell := hc k hlt'
      have hb : l[k].toNat < 256 := UInt8.toNat_lt _
      obtain ⟨B, hB⟩ : ∃ B, B = l[k].toNat := ⟨_, rfl⟩
      rw [← hB] at hcell hb
      have HB := Lib.hid hB
      clear hB hc
      have hstep : uvGo k X (l.drop k) = (if (k = 8 ∧ 128 ≤ B) ∨ 9 ≤ k then .over
          else if B < 128 then (if B = 0 ∧ 0 < k then .notMin else .ok (X + B * 2 ^ (7 * k)) (k + 1))
          else uvGo (k + 1) (X + (B % 128) * 2 ^ (7 * k)) (l.drop (k + 1))) := by
        rw [List.drop_eq_getElem_cons hlt', uvGo, ← HB.out]
      by_cases h9 : k = 9
      · subst h9
        have hfin : Hid (uvDec l = .over) := Lib.hid (by rw [hd.out, hstep, if_pos (Or.inr (by omega))])
        clear hd hstep HB
        go_wp2
        go_quiet (fail)
        go_wp2
        go_ret3
        exact ⟨by rw [hfin.out]; rfl, _, rfl⟩
      by_cases hge : 128 ≤ B
      · by_cases h8 : k = 8
        · subst h8
          have hfin : Hid (uvDec l = .over) := Lib.hid (by rw [hd.out, hstep, if_pos (Or.inl ⟨rfl, hge⟩)])
          clear hd hstep HB
          go_wp2
          go_quiet (fail)
          go_wp2
          go_ret3
          exact ⟨by rw [hfin.out]; rfl, _, rfl⟩
        · have hfin : Hid (uvDec l = uvGo (k + 1) (X + (B % 128) * 2 ^ (7 * k)) (l.drop (k + 1))) := Lib.hid (by
            rw [hd.out, hstep, if_neg (by omega), if_neg (by omega)])
          clear hd hstep HB
          have hk8 : ((k : Int) == 8) = false := by simp; omega
          have hor := Lib.hid (uv_or_and k X B (by omega) hX hb)
          have hlt2 := uv_step_lt k X (B % 128) hX (by omega)
          go_wp2
          exact ⟨⟨k + 1, X + B % 128 * 2 ^ (7 * k), by omega, by omega, hlt2, by go_num, by go_num, by rw [hor.out], hfin⟩, by simp [intOf]; omega⟩
      · by_cases hz : B = 0 ∧ 0 < k
        · obtain ⟨rfl, hz⟩ := hz
          have hfin : Hid (uvDec l = .notMin) := Lib.hid (by rw [hd.out, hstep, if_neg (by omega), if_pos (by omega), if_pos ⟨rfl, hz⟩])
          clear hd hstep HB
          have hk9' : (k : Int) < 9 := by omega
          by_cases hk8 : k = 8
          · subst hk8
            go_wp2
            go_quiet (fail)
            go_wp2
            go_ret3
            exact ⟨by rw [hfin.out]; rfl, _, rfl⟩
          · have hk8' : ((k : Int) == 8) = false := by simp; omega
            go_wp2
            go_quiet (fail)
            go_wp2
            go_ret3
            exact ⟨by rw [hfin.out]; rfl, _, rfl⟩
        · have hfin : Hid (uvDec l = .ok (X + B * 2 ^ (7 * k)) (k + 1)) := Lib.hid (by rw [hd.out, hstep, if_neg (by omega), if_pos (by omega), if_neg hz])
          have hor := Lib.hid (uv_or k X B (by omega) hX (by omega))
          clear hd hstep HB
          have hk9' : (k : Int) < 9 := by omega
          by_cases hB0 : B = 0
          · subst hB0
            have hk0 : k = 0 := by omega
            subst hk0
            have hfin' : Hid (uvDec l = .ok X 1) := Lib.hid (by rw [hfin.out]; simp)
            simp only [Nat.add_zero, Int.natCast_zero] at hcell
            clear hor hfin
            have hor0 : Hid (bits .or .u64 (X : Int) 0 = (X : Nat)) := Lib.hid (by rw [u64_orv0 _ _ (by omega) (by omega) (by omega) (by omega) (by omega)]; omega)
            go_wp2
            go_ret3
            exact ⟨by rw [hfin'.out]; exact UvR.ok_eq hor0.out rfl, 0, rfl⟩
          · have hB0' : ((B : Int) == 0) = false := by simp; omega
            by_cases hk8 : k = 8
            · subst hk8
              have hor8 : Hid (bits .or .u64 (X : Int) ((B : Int) * 72057594037927936) = ((X + B * 2 ^ (7 * 8) : Nat) : Int)) := Lib.hid (by
                rw [← hor.out, IntWalk.u64_in _ (by omega)]; rfl)
              clear hor
              go_wp2
              go_ret3
              exact ⟨by rw [hfin.out]; exact UvR.ok_eq hor8.out rfl, 0, rfl⟩
            · have hk8' : ((k : Int) == 8) = false := by simp; omega
              go_wp2
              go_ret3
              exact ⟨by rw [hfin.out]; exact UvR.ok_eq hor.out (by omega), 0, rfl⟩
    · have hkn : k = l.length := by omega
      have hfin : Hid (uvDec l = .under) := Lib.hid (by rw [hd.out, hkn, List.drop_length]; rfl)
      clear hd hkn hc
      go_wp2
      go_quiet (fail)
      go_wp2
      go_ret3
      exact ⟨by rw [hfin.out]; rfl, _, rfl⟩
end Go.Proofs.YthfgnhgijgjggaaDoor
/- Contract: impl.bytesOf: the bytes of strings, one slice each. -/
namespace Go.Proofs.YthfgnhgijgjggaaDoor
open Go.RowKit

/-- The slice value v holds the strings ss. -/
def SS (w : World) (v : Value) (ss : List ByteArray) : Prop :=
  ∃ (A : Option Addr) (c : Nat), v = .slice A ss.length c ∧ ss.length ≤ c ∧ (0 < ss.length → ∃ b o, A = some ⟨b, o, none⟩ ∧ ∀ (j : Nat) (s : ByteArray), ss[j]? = some s → w.cell? ⟨b, o + j, none⟩ = some (.string s))
theorem SS.below {w w' : World} {v : Value} {ss : List ByteArray} (h : SS w v ss) (hb : Below w.heap.size w w') : SS w' v ss := by
  obtain ⟨A, c, e, hc, h⟩ := h
  refine ⟨A, c, e, hc, fun hl => ?_⟩
  obtain ⟨b, o, e, h⟩ := h hl
  exact ⟨b, o, e, fun j s hj => below_cell hb (h j s hj)⟩

/-- x is a slice, from block lo on and not in row r, of the bytes of s. -/
def PartN (w : World) (lo : Nat) (r : Option Nat) (x : Value) (s : ByteArray) : Prop :=
  ∃ b c, x = .slice (some ⟨b, 0, none⟩) s.size c ∧ s.size ≤ c ∧ lo ≤ b ∧ b < w.heap.size ∧ some b ≠ r ∧ ∀ i (h : i < s.data.toList.length), w.cell? ⟨b, 0 + i, none⟩ = some (.int .u8 (s.data.toList[i].toNat))

theorem PartN.grown {w w2 : World} {lo : Nat} {row r2 : Option Nat} {x : Value} {s : ByteArray} (h : PartN w lo row x s) (hg : w.grownBy w2 row) (hr : r2 = row ∨ r2 = some w.heap.size) : PartN w2 lo r2 x s := by
  obtain ⟨b, c, e, hc, h1, h2, h3, h4⟩ := h
  refine ⟨b, c, e, hc, h1, Nat.lt_of_lt_of_le h2 hg.size, ?_, fun i hi => ?_⟩
  · rcases hr with rfl | rfl
    · exact h3
    · intro e; injection e; omega
  · rw [World.cell?_of_block (hg.block b h2 h3)]; exact h4 i hi
theorem PartN.below {w w2 : World} {lo : Nat} {row : Option Nat} {x : Value} {s : ByteArray} (h : PartN w lo row x s) (hg : Below w.heap.size w w2) : PartN w2 lo row x s := by
  obtain ⟨b, c, e, hc, h1, h2, h3, h4⟩ := h
  exact ⟨b, c, e, hc, h1, Nat.lt_of_lt_of_le h2 hg.size, h3, fun i hi => below_cell hg (h4 i hi)⟩

theorem ownsRow_below {w w' : World} {B size n : Nat} {e : TypeId} {v : Value} {xs : List Value} (h : w.ownsRow B e size v n xs) (hb : Below w.heap.size w w') : w'.ownsRow B e size v n xs := by
  refine ⟨h.1, ?_⟩
  rcases h.2 with h | ⟨g, cap, cur, hv, hbg, hg, rest⟩
  · exact .inl h
  · exact .inr ⟨g, cap, cur, hv, hbg, (hb.block g (block_of_row hg)).trans hg, rest⟩

/-- The slice value v (nil, or a row from block lo on) holds slices of the bytes of the strings ss, that lie from block lo on. -/
def Parts (w : World) (lo : Nat) (v : Value) (ss : List ByteArray) : Prop :=
  ∃ (A : Option Addr) (c : Nat), v = .slice A ss.length c ∧ ss.length ≤ c ∧ (0 < ss.length → ∃ g, A = some ⟨g, 0, none⟩ ∧ lo ≤ g ∧ g < w.heap.size ∧ ∀ (j : Nat) (s : ByteArray), ss[j]? = some s → ∃ x, w.cell? ⟨g, 0 + j, none⟩ = some x ∧ PartN w lo none x s)
theorem Parts.below {w w' : World} {lo : Nat} {v : Value} {ss : List ByteArray} (h : Parts w lo v ss) (hb : Below w.heap.size w w') : Parts w' lo v ss := by
  obtain ⟨A, c, e, hc, h⟩ := h
  refine ⟨A, c, e, hc, fun hl => ?_⟩
  obtain ⟨g, e, h1, h2, h⟩ := h hl
  refine ⟨g, e, h1, Nat.lt_of_lt_of_le h2 hb.size, fun j s hj => ?_⟩
  obtain ⟨x, hx, hp⟩ := h j s hj
  exact ⟨x, below_cell hb hx, hp.below hb⟩

theorem parts_of_own {w : World} {lo : Nat} {v : Value} {n : Nat} {xs : List Value} {e : TypeId} {ss : List ByteArray} (hn : ss.length = n) (ho : w.ownsRow lo e 1 v n xs) (hp : ∀ (j : Nat) (x : Value) (s : ByteArray), xs[j]? = some x → ss[j]? = some s → PartN w lo v.ownBlock x s) : Parts w lo v ss := by
  subst hn
  obtain ⟨hl, ho⟩ := ho
  rcases ho with ⟨rfl, h0⟩ | ⟨g, cap, cur, rfl, hbg, hg, hnc, hcm, hcs, ht⟩
  · exact ⟨none, 0, by rw [h0], by omega, fun h => by omega⟩
  · refine ⟨_, cap, rfl, hnc, fun _ => ⟨g, rfl, hbg, block_of_row hg, fun j s hj => ?_⟩⟩
    have hjs : j < ss.length := by
      rcases Nat.lt_or_ge j ss.length with h | h
      · exact h
      · rw [List.getElem?_eq_none h] at hj; cases hj
    have hjx : j < xs.length := by omega
    refine ⟨xs[j], ?_, ?_⟩
    · have hadd : (⟨g, 0 + j, none⟩ : Addr) = ⟨g, j, none⟩ := by rw [Nat.zero_add]
      rw [hadd, cell_of_row w g j cur e (0, 0) hg]
      have h3 : xs[j]? = some xs[j] := List.getElem?_eq_getElem hjx
      generalize xs[j] = y at h3
      rw [← ht, List.getElem?_take] at h3
      split at h3
      · rw [← Array.getElem?_toList]; exact h3
      · cases h3
    · obtain ⟨b, c, e1, h1, h2, h3, _, h5⟩ := hp j _ _ (List.getElem?_eq_getElem hjx) hj
      exact ⟨b, c, e1, h1, h2, h3, by simp, h5⟩

theorem info_bsl : ∃ i, Tryd.prog.info? 43 = some i ∧ i.zero = some (.slice none 0 0) ∧ i.size = 1 ∧ i.bytes = 24 := by
  have h : (Tryd.prog.info? 43).map (fun i => (i.zero, i.size, i.bytes)) = some (some (.slice none 0 0), 1, 24) := by kernel_rfl
  obtain ⟨i, hi, h2⟩ := Option.map_eq_some_iff.1 h
  simp only [Prod.mk.injEq] at h2
  exact ⟨i, hi, h2.1, h2.2.1, h2.2.2⟩

set_option maxRecDepth 100000 in
set_option maxHeartbeats 4000000 in
theorem bytesOf_any (v : Value) (ss : List ByteArray) (w : World) (hs : SS w v ss) (hn : ss.length ≤ 1000) :
    Calls Tryd.prog 54 #[v] w fun e w' => (∃ v', e = .returned v' ∧ Parts w' w.heap.size v' ss) ∧ Below w.heap.size w w' := by
  obtain ⟨i0, hi, hz0, hz1, hz2⟩ := info_bsl
  obtain ⟨A, c, rfl, hc, hcells⟩ := hs
  obtain ⟨n, hN⟩ : ∃ n, n = ss.length := ⟨_, rfl⟩
  rw [← hN] at hc hn
  have HC := Lib.hid hcells
  have HN := Lib.hid hN
  rw [← hN]
  clear hcells hc hN
  go_enter Tryd.func54, Tryd.ntmps54
  go_wp2
  go_loopw [3, 8] (fun v i wr => ∃ (k : Nat) (xs : List Value), k ≤ n ∧ i = .int .i64 k ∧ Hid (xs.length = k) ∧ wr.ownsRow w.heap.size 43 1 v k xs ∧ Hid (∀ (j : Nat) (x : Value) (s : ByteArray), xs[j]? = some x → ss[j]? = some s → PartN wr w.heap.size v.ownBlock x s) ∧ Below w.heap.size w wr) (fun _ i _ => n - (intOf i).toNat)
  case atStart => exact ⟨0, [], Nat.zero_le _, rfl, Lib.hid rfl, ⟨rfl, .inl ⟨rfl, rfl⟩⟩, Lib.hid (fun j x s h => by simp at h), Below.refl _ _⟩
  case round =>
    obtain ⟨k, xs, hk, rfl, hxl, hown, hp, hb⟩ := hrel
    have hBw := hb.size
    by_cases hlt : k < n
    · obtain ⟨b, o, rfl, hcl⟩ := HC.out (by rw [← HN.out]; omega)
      have hks : k < ss.length := by rw [← HN.out]; exact hlt
      obtain ⟨s, hsv⟩ : ∃ s, ss[k]? = some s := ⟨_, List.getElem?_eq_getElem hks⟩
      have hc0 := below_cell hb (hcl k s hsv)
      obtain ⟨c1, w1, hconv, hc1, hb1, hsz1, -, hcells1⟩ := conv_bytes (P := Tryd.prog) Tryd.underlying9 Tryd.underlying43 Tryd.underlying5 wr s
      have HSV := Lib.hid hsv
      have HSZ := Lib.hid hsz1
      have HCE := Lib.hid hcells1
      have HKS := Lib.hid hks
      have hown1 := ownsRow_below hown hb1
      have hown0 := hown
      clear hcl hsv hsz1 hcells1 hown hks
      go_wp2_with (at_builtin; refine wpList_append_own_at _ rfl _ _ 111 rfl w.heap.size 43 i0 (.slice none 0 0) 1 24 Tryd.underlying111 hi hz0 hz1 hz2 rfl (by decide) _ _ _ rfl (hown1.alloc _) ⟨w1.heap.size, 0, none⟩ 1 1 [.slice (some ⟨wr.heap.size, 0, none⟩) s.size c1] rfl rfl ?c1 ?c2 ?c3 ?c4 ?c5 ?_)
      case c1 =>
        intro j u hj
        match j, hj with
        | 0, hj => simp at hj; subst hj; simp [Addr.add]
      case c2 => intro u hu; simp at hu; subst hu; rfl
      case c3 => unfold maxLen; omega
      case c4 => omega
      case c5 => have := hb1.size; simp; omega
      intro v' w2 hown' hgrow _ hat
      have hbw1 := hb1.size
      have hb01 : Below w.heap.size w w1 := hb.trans (hb1.mono hBw)
      have hb2 : Below w.heap.size w w2 := (hb01.alloc (by omega) _).grown hgrow (by simp; omega) (fun q hq => (hown1.lt q hq).1)
      have hpn : Hid (∀ (j : Nat) (x : Value) (s' : ByteArray), (xs ++ [Value.slice (some ⟨wr.heap.size, 0, none⟩) s.size c1])[j]? = some x → ss[j]? = some s' → PartN w2 w.heap.size v'.ownBlock x s') := by
        refine Lib.hid fun j x s' hx hs' => ?_
        have halc : Below w1.heap.size w1 (w1.alloc (.cells #[.slice (some ⟨wr.heap.size, 0, none⟩) s.size c1] 43)) := (Below.refl _ _).alloc (Nat.le_refl _) _
        by_cases hj : j < k
        · rw [List.getElem?_append_left (by rw [hxl.out]; exact hj)] at hx
          exact (((hp.out j x s' hx hs').below hb1).below halc).grown hgrow (by simpa using hat)
        · have hjk : j = k := by
            rcases Nat.lt_or_ge j (k + 1) with h | h
            · omega
            · rw [List.getElem?_eq_none (by rw [List.length_append, hxl.out]; simpa using h)] at hx; cases hx
          subst hjk
          rw [List.getElem?_append_right (by rw [hxl.out]; exact Nat.le_refl _), hxl.out, Nat.sub_self] at hx
          obtain rfl : Value.slice (some ⟨wr.heap.size, 0, none⟩) s.size c1 = x := by simpa using hx
          obtain rfl : s = s' := by have := HSV.out; rw [this] at hs'; injection hs'
          have hpn0 : PartN w1 w.heap.size u3.ownBlock (.slice (some ⟨wr.heap.size, 0, none⟩) s.size c1) s :=
            ⟨_, _, rfl, hc1, hBw, by rw [HSZ.out]; omega, fun e => by have := hown0.lt _ e.symm; omega, HCE.out⟩
          exact (hpn0.below halc).grown hgrow (by simpa using hat)
      have HO := Lib.hid hown'
      clear hown1 hgrow hown' hat
      go_wp2
      go_roundw
      case rel => exact ⟨k + 1, _, by omega, by go_num, Lib.hid (by rw [List.length_append, hxl.out]; rfl), HO.out, hpn, hb2⟩
      case measure => simp [intOf]; omega
    · obtain rfl : k = n := by omega
      have HO := Lib.hid hown
      clear hown
      go_wp2
      go_ret
      exact ⟨⟨_, rfl, parts_of_own HN.out.symm HO.out hp.out⟩, hb⟩
end Go.Proofs.YthfgnhgijgjggaaDoor
namespace Go.Proofs.YthfgnhgijgjggaaDoor
open Go.RowKit

set_option maxRecDepth 100000 in
set_option maxHeartbeats 1000000 in
theorem uvSize_any (x : Nat) (w : World) (hx : x < 18446744073709551616) :
    Calls Tryd.prog 81 #[.int .u64 x] w fun e w' => e = .returned (.int .i64 (Lib.uvarint x).length) ∧ w = w' := by
  have hs := uv_size x hx
  have hlen := Lib.uvarint_length64 hx
  have hb : Lib.bitLen x ≤ 80 := by omega
  obtain ⟨n, hn⟩ : ∃ n, n = Lib.bitLen x := ⟨_, rfl⟩
  rw [← hn] at hs hb
  have HS := Lib.hid hs
  clear hs hlen
  go_enter Tryd.func81, Tryd.ntmps81
  go_wp2_with fail
  refine (Tryd.bits_Len64 (x : Int) w (by omega) (by omega)).mono ?_
  rw [Int.toNat_natCast, ← hn]
  rintro e w' ⟨rfl, rfl⟩
  clear hn
  by_cases h7 : 0 < n % 7
  · have h7' : ((n : Int) % 7) > 0 := by omega
    go_wp2
    go_ret
    exact ⟨by rw [HS.out, if_pos (Or.inl h7)]; congr 2, rfl⟩
  · have h7' : ¬ ((n : Int) % 7) > 0 := by omega
    by_cases h0 : n / 7 = 0
    · have h0' : (((n : Int) / 7) == 0) = true := by simp; omega
      go_wp2
      go_ret
      exact ⟨by rw [HS.out, if_pos (Or.inr h0)]; congr 2, rfl⟩
    · have h0' : (((n : Int) / 7) == 0) = false := by simp; omega
      go_wp2
      go_ret
      exact ⟨by rw [HS.out, if_neg (by omega)]; congr 2, rfl⟩

theorem info_u8 : (Tryd.prog.info? 5).map (fun i => (i.zero, i.size, i.bytes)) = some (some (.int .u8 0), 1, 1) := by kernel_rfl

/-- binary.PutUvarint into a row that is known whole: the varint is laid over it. -/
theorem put_row (g o n c x : Nat) (cur : List Value) (t : TypeId) (w : World) (hx : x < 18446744073709551616) (hrow : w.heap[g]? = some (.cells cur.toArray t (0, 0)))
    (hfit : o + (Lib.uvarint x).length ≤ cur.length) (hn : (Lib.uvarint x).length ≤ n) :
    Calls Tryd.prog 102 #[.slice (some ⟨g, o, none⟩) n c, .int .u64 x] w fun e w' =>
      e = .returned (.int .i64 (Lib.uvarint x).length) ∧ Hid (w'.heap[g]? = some (.cells (splice cur o (Lib.byteCells (Lib.uvarint x))).toArray t (0, 0))) ∧ Turn g w w' := by
  refine (Tryd.binary_PutUvarint g o n c x hx w hn fun j hj => ⟨?_, frozen_of_row' hrow _⟩).mono ?_
  · rw [cell_of_row' hrow, List.getElem?_eq_getElem (by omega)]; rfl
  · rintro e w' ⟨rfl, rfl⟩
    exact ⟨rfl, Lib.hid (row_setCells _ _ _ _ hrow (by rw [Lib.byteCells_length]; exact hfit)), turn_setCells _ _ _ _⟩

/-- A byte list laid over a whole row. -/
theorem splice_all (n : Nat) (v : Value) (l : List Value) (h : l.length = n) : splice (List.replicate n v) 0 l = l := by
  subst h; simp [splice]


end Go.Proofs.YthfgnhgijgjggaaDoor
namespace Go.Proofs.YthfgnhgijgjggaaDoor
open Go.RowKit

set_option maxRecDepth 100000 in
set_option maxHeartbeats 1000000 in
theorem fromUv_none (A : Option Addr) (c : Nat) (w : World) (T : TypeId) (p3 : Value) (h3 : w.cell? ⟨4, 0, none⟩ = some (.iface T p3)) :
    Calls Tryd.prog 79 #[.slice A 0 c] w fun e w' =>
      e = .returned (.tuple #[.int .u64 0, .int .i64 0, .iface T p3]) ∧ ∃ q, w' = w.drewN q := by
  go_enter Tryd.func79, Tryd.ntmps79
  go_wp2
  refine wp_loop_rounds 1 ?_
  rw [rounds_succ]
  go_wp2
  go_quiet (fail)
  go_wp2
  go_ret3
  exact ⟨rfl, _, rfl⟩

/-- varint.FromUvarint at whatever slice: it reads as uvDec says; its errors are the three sentinels. -/
theorem fromUv (A : Option Addr) (n c : Nat) (l : List UInt8) (w : World) (hs : BS w (.slice A n c) l) (hm : l.length ≤ 9223372036854775807)
    (T : TypeId) (p1 p2 p3 : Value)
    (h1 : w.cell? ⟨2, 0, none⟩ = some (.iface T p1)) (h2 : w.cell? ⟨3, 0, none⟩ = some (.iface T p2)) (h3 : w.cell? ⟨4, 0, none⟩ = some (.iface T p3)) :
    Calls Tryd.prog 79 #[.slice A n c] w fun e w' =>
      e = .returned ((uvDec l).val (.iface T p1) (.iface T p2) (.iface T p3)) ∧ ∃ q, w' = w.drewN q := by
  obtain ⟨hn, _⟩ := hs.slice
  rcases Nat.eq_zero_or_pos n with h0 | h0
  · subst h0
    have hl : l = [] := List.eq_nil_of_length_eq_zero hn.symm
    subst hl
    exact fromUv_none A c w T p3 h3
  · obtain ⟨b, o, rfl, hc⟩ := hs.at_ h0
    exact fromUv_any b o n c l w hn.symm (by omega) hc T p1 p2 p3 h1 h2 h3



/-- What impl.UvRead answers. -/
def UvR.plain : UvR → Value
  | .ok x m => .tuple #[.int .u64 x, .int .i64 m, .bool true]
  | _ => .tuple #[.int .u64 0, .int .i64 0, .bool false]

end Go.Proofs.YthfgnhgijgjggaaDoor
