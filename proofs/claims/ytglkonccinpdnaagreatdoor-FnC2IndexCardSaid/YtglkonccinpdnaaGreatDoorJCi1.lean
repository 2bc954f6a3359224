/- Contracts, joined (Mem RdrMem UvPlain UvA UvB Rdr). -/
import Derived.Below
import Derived.Deep.Draws
import Derived.Lib.ConvBytes
import Derived.Laws.BytesArg
import Derived.Laws.IdiomCopy
import Derived.Laws.Rows
import Derived.Laws.MakeOwn
import Derived.Lib.VarintMem
import Derived.Lib.Hide
import Derived.Laws.CopyOwn
import Derived.Lib.BufferMore
import Derived.Laws.Slices
import Derived.Shelf.Bytes.SlSmallAll
import Derived.Laws.ResultCell
import Derived.Laws.CopyRow
import Derived.Lib.VarintBits
import Derived.Lib.Varint
import Derived.IntWalk
import Derived.Lib.BitFns
import Derived.Test.YtglkonccinpdnaaGreatDoorProg
import Derived.WalkKit
import Derived.Deep.QuietTactic
import Derived.BigQuiet
import Derived.Outline
import Derived.Test.YtglkonccinpdnaaGreatDoorShelf
import Derived.StillTailTactics
import Derived.Lib.BufferWrite
import Derived.LaidEql
/- Words on memory for the proofs of this seat: a slice that reads as bytes, what a call leaves as it was. No program in sight. -/
namespace Go.Proofs.YtglkonccinpdnaaGreatDoor
open Go.RowKit

theorem below_drewN (B : Nat) (w : World) (n : Nat) : Below B w (w.drewN n) := ⟨rfl, rfl, rfl, Nat.le_refl _, fun _ _ => rfl⟩
theorem _root_.Go.RowKit.Below.drewN {B : Nat} {a w : World} (h : Below B a w) (n : Nat) : Below B a (w.drewN n) := h.trans (below_drewN B w n)
/-- The frame from call to call: each call leaves below ITS heap's size all as it was. -/
theorem below_next {w a b : World} (h : Below w.heap.size w a) (k : Below a.heap.size a b) : Below w.heap.size w b := h.trans (k.mono h.size)
theorem below_cell {w w' : World} (h : Below w.heap.size w w') {p : Addr} {v : Value} (hc : w.cell? p = some v) : w'.cell? p = some v := by
  rcases Nat.lt_or_ge p.block w.heap.size with hp | hp
  · exact (h.cell hp).trans hc
  · unfold World.cell? at hc; rw [Array.getElem?_eq_none hp] at hc; cases hc
theorem block_of_cell {w : World} {p : Addr} {v : Value} (hc : w.cell? p = some v) : p.block < w.heap.size := by
  rcases Nat.lt_or_ge p.block w.heap.size with hp | hp
  · exact hp
  · unfold World.cell? at hc; rw [Array.getElem?_eq_none hp] at hc; cases hc

theorem ba_append (a b : ByteArray) : (a ++ b).data.toList = a.data.toList ++ b.data.toList := by
  obtain ⟨⟨l⟩⟩ := a
  obtain ⟨⟨r⟩⟩ := b
  simp
theorem ba_len (a : ByteArray) : a.data.toList.length = a.size := by rw [Array.length_toList]; rfl
theorem ba_mk (a : ByteArray) : (⟨a.data.toList.toArray⟩ : ByteArray) = a := by obtain ⟨⟨l⟩⟩ := a; rfl

/-- The slice value v holds the bytes l (nil and empty let in). -/
def BS (w : World) (v : Value) (l : List UInt8) : Prop :=
  ∃ (A : Option Addr) (c : Nat), v = .slice A l.length c ∧ l.length ≤ c ∧
    (0 < l.length → ∃ b o, A = some ⟨b, o, none⟩ ∧ ∀ j (h : j < l.length), w.cell? ⟨b, o + j, none⟩ = some (.int .u8 (l[j].toNat)))

theorem BS.keep {w w' : World} {v : Value} {l : List UInt8} (h : BS w v l) (hk : ∀ p u, w.cell? p = some u → w'.cell? p = some u) : BS w' v l := by
  obtain ⟨A, c, e, hc, h⟩ := h
  refine ⟨A, c, e, hc, fun hl => ?_⟩
  obtain ⟨b, o, e, h⟩ := h hl
  exact ⟨b, o, e, fun j hj => hk _ _ (h j hj)⟩
theorem BS.below {w w' : World} {v : Value} {l : List UInt8} (h : BS w v l) (hb : Below w.heap.size w w') : BS w' v l := h.keep fun _ _ hc => below_cell hb hc
theorem BS.drewN {w : World} {v : Value} {l : List UInt8} (h : BS w v l) (n : Nat) : BS (w.drewN n) v l := h
theorem BS.nil (w : World) (c : Nat) : BS w (.slice none 0 c) [] := ⟨none, c, rfl, Nat.zero_le _, fun h => absurd h (by simp)⟩
theorem BS.of_cells {w : World} {b o c : Nat} {l : List UInt8} (hc : l.length ≤ c) (h : ∀ j (h : j < l.length), w.cell? ⟨b, o + j, none⟩ = some (.int .u8 (l[j].toNat))) : BS w (.slice (some ⟨b, o, none⟩) l.length c) l :=
  ⟨_, c, rfl, hc, fun _ => ⟨b, o, rfl, h⟩⟩

section
variable {P : Program}
/-- '[]byte(s)': a new row with the bytes of s, told by what it is good for. -/
theorem conv_bytes {src dst e : TypeId} (hs : P.underlying src = some .string) (hd : P.underlying dst = some (.slice e)) (he : P.underlying e = some (.int .u8)) (w : World) (s : ByteArray) :
    ∃ c w1, (convert src dst (.string s)).run P w = .ok (.slice (some ⟨w.heap.size, 0, none⟩) s.size c) w1 ∧ s.size ≤ c ∧ Below w.heap.size w w1 ∧ w1.heap.size = w.heap.size + 1 ∧
      (∃ m, w1.heap[w.heap.size]? = some (.cells (Lib.bytesCells w e s) e m)) ∧
      ∀ j (h : j < s.data.toList.length), w1.cell? ⟨w.heap.size, 0 + j, none⟩ = some (.int .u8 (s.data.toList[j].toNat)) := by
  have hcap : s.size ≤ grownCap w s.size 0 e := grownCap_ge _ _ _ _
  refine ⟨_, _, Lib.run_convert_string_bytes w src dst e s hs hd he, hcap, ⟨?_, ?_, ?_, ?_, ?_⟩, Lib.bytesWorld_size w e s, ⟨_, Lib.bytesWorld_at_new w e s⟩, ?_⟩
  · simp [Lib.bytesWorld, World.freeze, World.alloc, World.drew, -World.alloc_eq, -World.drew_eq]
  · simp [Lib.bytesWorld, World.freeze, World.alloc, World.drew, -World.alloc_eq, -World.drew_eq]
  · simp [Lib.bytesWorld, World.freeze, World.alloc, World.drew, -World.alloc_eq, -World.drew_eq]
  · rw [Lib.bytesWorld_size]; omega
  · exact fun k hk => Lib.bytesWorld_at_old w e s k hk
  · intro j hj
    rw [Nat.zero_add, Lib.bytesWorld_cell w e s j (by show j < s.data.size; rw [← Array.length_toList]; exact hj)]
    rw [List.getD, List.getElem?_eq_getElem hj]; rfl
end
/-- Only block g has turned, and no block is new. -/
structure Turn (g : Nat) (w w' : World) : Prop where
  os : w'.os = w.os
  tape : w'.tape = w.tape
  output : w'.output = w.output
  size : w'.heap.size = w.heap.size
  block : ∀ k, k ≠ g → w'.heap[k]? = w.heap[k]?
theorem Turn.below {g B : Nat} {w w' : World} (h : Turn g w w') (hB : B ≤ g) : Below B w w' :=
  ⟨h.os, h.tape, h.output, by rw [h.size]; exact Nat.le_refl _, fun k hk => h.block k (by omega)⟩
theorem Turn.trans {g : Nat} {a b c : World} (h : Turn g a b) (k : Turn g b c) : Turn g a c :=
  ⟨k.os.trans h.os, k.tape.trans h.tape, k.output.trans h.output, k.size.trans h.size, fun i hi => (k.block i hi).trans (h.block i hi)⟩
theorem Turn.refl (g : Nat) (w : World) : Turn g w w := ⟨rfl, rfl, rfl, rfl, fun _ _ => rfl⟩
theorem turn_setCell (g o : Nat) (w : World) (v : Value) : Turn g w (w.setCell ⟨g, o, none⟩ v) :=
  ⟨rfl, rfl, rfl, by simp [World.setCell], fun k hk => Below.heap_setCell _ _ _ _ hk⟩
theorem turn_setCells (g : Nat) : ∀ (vs : List Value) (o : Nat) (w : World), Turn g w (w.setCells g o vs)
  | [], _, w => Turn.refl g w
  | v :: r, o, w => (turn_setCell g o w v).trans (turn_setCells g r (o + 1) _)
theorem Turn.cell {g : Nat} {w w' : World} (h : Turn g w w') {p : Addr} (hp : p.block ≠ g) : w'.cell? p = w.cell? p := World.cell?_of_block (w := w) (h.block p.block hp)

theorem splice_get {α : Type} (L : List α) (off : Nat) (cs : List α) (h : off + cs.length ≤ L.length) (i : Nat) :
    (splice L off cs)[i]? = if off ≤ i ∧ i < off + cs.length then cs[i - off]? else L[i]? := by
  have e : (L.take off).length = off := by rw [List.length_take]; omega
  unfold splice
  by_cases h1 : i < off
  · rw [List.getElem?_append_left (by omega), List.getElem?_take_of_lt h1, if_neg (by omega)]
  · rw [List.getElem?_append_right (by omega), e]
    by_cases h2 : i < off + cs.length
    · rw [List.getElem?_append_left (by omega), if_pos (by omega)]
    · rw [List.getElem?_append_right (by omega), if_neg (by omega), List.getElem?_drop]
      congr 1; omega

/-- Cells laid over a known row. -/
theorem row_setCells {g : Nat} {t : TypeId} {m : Nat × Nat} : ∀ (vs : List Value) (o : Nat) (cur : List Value) (w : World), w.heap[g]? = some (.cells cur.toArray t m) → o + vs.length ≤ cur.length →
    (w.setCells g o vs).heap[g]? = some (.cells (splice cur o vs).toArray t m)
  | [], o, cur, w, h, _ => by simpa [World.setCells, splice] using h
  | v :: r, o, cur, w, h, hf => by
    have h1 := Lib.heap_setCell_same (i := o) h v
    simp only [List.setIfInBounds_toArray] at h1
    simp only [List.length_cons] at hf
    have hl : o + 1 + r.length ≤ (cur.set o v).length := by rw [List.length_set]; omega
    have h2 := row_setCells r (o + 1) (cur.set o v) (w.setCell ⟨g, o, none⟩ v) h1 hl
    rw [World.setCells, h2]
    congr 3
    apply List.ext_getElem?
    intro i
    rw [splice_get _ _ _ hl, splice_get _ _ _ (by simp only [List.length_cons]; omega), List.getElem?_set]
    simp only [List.length_cons]
    by_cases h3 : i = o
    · subst h3
      rw [if_neg (by omega), if_pos rfl, if_pos (by omega), if_pos (by omega)]; simp
    · by_cases h4 : o + 1 ≤ i ∧ i < o + 1 + r.length
      · rw [if_pos h4, if_pos (by omega), show i - o = (i - (o + 1)) + 1 by omega]; simp
      · rw [if_neg h4, if_neg (by omega), if_neg (by omega)]

theorem cell_of_row' {w : World} {g : Nat} {cur : List Value} {t : TypeId} {m : Nat × Nat} (h : w.heap[g]? = some (.cells cur.toArray t m)) (i : Nat) : w.cell? ⟨g, i, none⟩ = cur[i]? := by
  simp [World.cell?, h]
theorem frozen_of_row' {w : World} {g : Nat} {cur : List Value} {t : TypeId} (h : w.heap[g]? = some (.cells cur.toArray t (0, 0))) (i : Nat) : w.frozen? ⟨g, i, none⟩ = false := by
  simp [World.frozen?, h]

section
variable {P : Program}
/-- 'make([]byte, n)': a new row of zeros. -/
theorem make_bytes {t e : TypeId} (ht : P.underlying t = some (.slice e)) (hinfo : (P.info? e).map (fun i => (i.zero, i.size, i.bytes)) = some (some (.int .u8 0), 1, 1)) (w : World) (n : Nat) (hn : n ≤ 281474976710656) :
    ∃ w1, (Instr.makeSlice t (.int .i64 (n : Int)) (.int .i64 (n : Int))).run P w = .ok (.slice (some ⟨w.heap.size, 0, none⟩) n n) w1 ∧ Below w.heap.size w w1 ∧ w1.heap.size = w.heap.size + 1 ∧
      w1.heap[w.heap.size]? = some (.cells (List.replicate n (Value.int .u8 0)).toArray e (0, 0)) := by
  obtain ⟨i, hi, h2⟩ := Option.map_eq_some_iff.1 hinfo
  simp only [Prod.mk.injEq] at h2
  obtain ⟨hz, hsz, hby⟩ := h2
  have hr := run_make (P := P) w t e i _ ht hi hz .i64 .i64 (n : Int) (n : Int) (by omega) (by omega) (by rw [hby]; omega) (by omega)
  simp only [Int.toNat_natCast, hsz, Nat.mul_one] at hr
  refine ⟨_, hr, (Below.refl _ _).alloc (Nat.le_refl _) _, by simp, ?_⟩
  rw [heap_alloc_new]
  congr 2
  apply Array.ext
  · simp [size_madeCells]
  · intro j h1 h2
    have h0 : [Value.int IntKind.u8 0][j % 1]?.getD default = Value.int IntKind.u8 0 := by rw [Nat.mod_one]; rfl
    simp [madeCells, Value.cells, h0]

theorem strOfNums_bytes (l : List UInt8) : strOfNums (l.map fun b => (b.toNat : Int)) = ⟨l.toArray⟩ := by
  unfold strOfNums
  congr 2
  rw [List.map_map]
  conv => rhs; rw [← List.map_id l]
  apply List.map_congr_left
  intro x _
  simp

/-- 'string(b)': the bytes that the slice holds. -/
theorem BS.str {src e dst : TypeId} (hs : P.underlying src = some (.slice e)) (he : P.underlying e = some (.int .u8)) (hd : P.underlying dst = some .string) {w : World} {A : Option Addr} {n c : Nat} {l : List UInt8}
    (h : BS w (.slice A n c) l) : (convert src dst (.slice A n c)).run P w = .ok (.string ⟨l.toArray⟩) w := by
  obtain ⟨A', c', e1, _, h⟩ := h
  injection e1 with e1 e2 e3
  subst e1 e2 e3
  rcases Nat.eq_zero_or_pos l.length with h0 | h0
  · have hl : l = [] := List.eq_nil_of_length_eq_zero h0
    subst hl
    exact run_convert_bytes_zero w src e hs he A c dst hd
  · obtain ⟨b, o, rfl, hcl⟩ := h h0
    have := run_convert_bytes_arg (P := P) w src e hs he b o l.length c (l.map fun b => (b.toNat : Int)) (by simp) (fun i hi => by
      rw [hcl i hi]; simp [List.getD, List.getElem?_map, List.getElem?_eq_getElem hi]) dst hd
    rw [this, strOfNums_bytes]
/-- A row of the call's own whose head holds the bytes. -/
theorem BS.of_row {w : World} {g c : Nat} {t : TypeId} {m : Nat × Nat} {l : List UInt8} (h : w.heap[g]? = some (.cells (Lib.byteCells l).toArray t m)) (hc : l.length ≤ c) : BS w (.slice (some ⟨g, 0, none⟩) l.length c) l :=
  BS.of_cells hc fun j hj => by rw [Nat.zero_add, cell_of_row' h]; simp [Lib.byteCells, List.getElem?_eq_getElem hj]
theorem BS.slice {w : World} {A : Option Addr} {n c : Nat} {l : List UInt8} (h : BS w (.slice A n c) l) : n = l.length ∧ l.length ≤ c := by
  obtain ⟨A', c', e1, h1, _⟩ := h
  injection e1 with e1 e2 e3
  exact ⟨e2, by rw [e3]; exact h1⟩
theorem BS.at_ {w : World} {A : Option Addr} {n c : Nat} {l : List UInt8} (h : BS w (.slice A n c) l) (h0 : 0 < n) :
    ∃ b o, A = some ⟨b, o, none⟩ ∧ ∀ j (h : j < l.length), w.cell? ⟨b, o + j, none⟩ = some (.int .u8 (l[j].toNat)) := by
  obtain ⟨A', c', e1, h1, h2⟩ := h
  injection e1 with e1 e2 e3
  subst e1
  exact h2 (by omega)

/-- 's[i]' of a string that is told by its bytes. -/
theorem idx_str {t : TypeId} (ht : P.underlying t = some .string) (u : List UInt8) (i : Nat) (c : UInt8) (h : u[i]? = some c) (x : Int) (hx : x = i) (W : World) :
    (Instr.index t (.string ⟨u.toArray⟩) (.int .i64 x)).run P W = .ok (.int .u8 (c.toNat : Int)) W := by
  subst hx
  obtain ⟨hi, hc⟩ := List.getElem?_eq_some_iff.1 h
  have hi' : (0 : Int) ≤ (i : Int) ∧ (i : Int) < ((⟨u.toArray⟩ : ByteArray).size : Int) := ⟨by omega, by show (i : Int) < ((u.toArray.size : Nat) : Int); simp; omega⟩
  rw [run_index_string (P := P) W t ⟨u.toArray⟩ .i64 (i : Int) ht, dif_pos hi']
  congr 3
  rw [← hc]; rfl

theorem run_size {e : TypeId} (hsz : (P.info? e).map (fun i => (i.zero, i.size, i.bytes)) = some (some (.int .u8 0), 1, 1)) (w : World) : (sizeOf e).run P w = .ok 1 w := by
  obtain ⟨i, hi, h2⟩ := Option.map_eq_some_iff.1 hsz
  simp only [Prod.mk.injEq] at h2
  simp [sizeOf, typeInfo, hi, h2.2.1]

/-- Where 's[k:]' begins. -/
def cutA (A : Option Addr) (c k : Nat) : Option Addr := if c = k then A else A.map (·.add (k * 1))

/-- 's[k:]'. -/
theorem BS.from_ {t e : TypeId} (ht : P.underlying t = some (.slice e)) (hsz : (P.info? e).map (fun i => (i.zero, i.size, i.bytes)) = some (some (.int .u8 0), 1, 1)) {w : World} {A : Option Addr} {n c : Nat} {l : List UInt8} (h : BS w (.slice A n c) l) (k : Nat) (hk : k ≤ n) :
    (∀ W, (Instr.slice t (.slice A n c) (some (.int .i64 (k : Int))) none none).run P W = .ok (.slice (cutA A c k) (n - k) (c - k)) W) ∧ BS w (.slice (cutA A c k) (n - k) (c - k)) (l.drop k) := by
  obtain ⟨hn, hc⟩ := h.slice
  have ht' : P.underlying t = some (.slice (P.elem t)) := by simp [Program.elem, ht]
  have he : P.elem t = e := by simp [Program.elem, ht]
  refine ⟨fun W => ?_, ?_⟩
  · rw [run_slice_l W t _ _ _ ht' .i64 _ (by omega) (by omega), he, run_size hsz, Int.toNat_natCast]; rfl
  · have e1 : n - k = (l.drop k).length := by simp; omega
    refine ⟨_, c - k, by rw [e1], by rw [← e1]; omega, fun h0 => ?_⟩
    obtain ⟨b, o, rfl, hcell⟩ := h.at_ (by omega)
    unfold cutA
    rw [if_neg (by omega)]
    refine ⟨b, o + k, ?_, fun j hj => ?_⟩
    · by_cases hk0 : k = 0
      · subst hk0; simp [Addr.add]
      · simp [Addr.add, hk0]
    · rw [Nat.add_assoc, hcell (k + j) (by simp at hj; omega), List.getElem_drop]

/-- 's[:k]'. -/
theorem BS.to_ {t e : TypeId} (ht : P.underlying t = some (.slice e)) (hsz : (P.info? e).map (fun i => (i.zero, i.size, i.bytes)) = some (some (.int .u8 0), 1, 1)) {w : World} {A : Option Addr} {n c : Nat} {l : List UInt8} (h : BS w (.slice A n c) l) (k : Nat) (hk : k ≤ n) :
    (∀ W, (Instr.slice t (.slice A n c) none (some (.int .i64 (k : Int))) none).run P W = .ok (.slice A k c) W) ∧ (∀ W, (Instr.slice t (.slice A n c) none (some (.int .u64 (k : Int))) none).run P W = .ok (.slice A k c) W) ∧ BS w (.slice A k c) (l.take k) := by
  obtain ⟨hn, hc⟩ := h.slice
  have ht' : P.underlying t = some (.slice (P.elem t)) := by simp [Program.elem, ht]
  have he : P.elem t = e := by simp [Program.elem, ht]
  have hz : sliced A 0 k c 1 = .slice A k c := by
    unfold sliced
    congr 1
    by_cases h0 : c = 0
    · rw [if_pos h0]
    · rw [if_neg h0]; cases A <;> simp [Addr.add]
  refine ⟨fun W => ?_, fun W => ?_, ?_⟩
  · rw [run_slice_h W t _ _ _ ht' .i64 _ (by omega) (by omega), he, run_size hsz, Int.toNat_natCast]; exact congrArg (fun v => Result.ok v W) hz
  · rw [run_slice_h W t _ _ _ ht' .u64 _ (by omega) (by omega), he, run_size hsz, Int.toNat_natCast]; exact congrArg (fun v => Result.ok v W) hz
  · have e1 : k = (l.take k).length := by simp; omega
    refine ⟨A, c, by rw [← e1], by rw [← e1]; omega, fun h0 => ?_⟩
    obtain ⟨b, o, rfl, hcell⟩ := h.at_ (by omega)
    exact ⟨b, o, rfl, fun j hj => by rw [hcell j (by simp at hj; omega), List.getElem_take]⟩

/-- Two results, the first a struct in a block that is known whole. -/
theorem results_row_tmp {fn : Func} {p u : Tmp} {ty : TypeId} (h : fn.results = #[.cell p ty, .tmp u]) (tmps : Array Value) (w : World) (g : Nat) (t : TypeId) (cs : Array Value) (fr : Nat × Nat) (d : TypeDesc)
    (hp : tmps.getD p undef = .pointer (some ⟨g, 0, none⟩)) (hg : w.heap[g]? = some (.cells cs t fr))
    (hu : P.underlying ty = some d) (hd : (match d with | .struct _ | .array _ _ => true | _ => false) = true) (hi : (P.info? ty).map (·.size) = some cs.size) :
    (results fn tmps).run P w = .ok (.tuple #[.agg cs, tmps.getD u undef]) w := by
  rw [results_cell_tmp h, hp]
  simp [asAddr, run_loadVar_row w g t ty cs fr d hg hu hd hi, Result.andThen]
/-- A row that a call below which it lies has left alone. -/
theorem row_below {w w' : World} {B g : Nat} {o : Obj} (hb : Below B w w') (hg : g < B) (h : w.heap[g]? = some o) : w'.heap[g]? = some o := (hb.block g hg).trans h

/-- 's[k:]', whatever it holds. -/
theorem run_from {t e : TypeId} (ht : P.underlying t = some (.slice e)) (hsz : (P.info? e).map (fun i => (i.zero, i.size, i.bytes)) = some (some (.int .u8 0), 1, 1)) (A : Option Addr) (n c k : Nat) (hk : k ≤ n) (W : World) :
    (Instr.slice t (.slice A n c) (some (.int .i64 (k : Int))) none none).run P W = .ok (.slice (cutA A c k) (n - k) (c - k)) W := by
  have ht' : P.underlying t = some (.slice (P.elem t)) := by simp [Program.elem, ht]
  have he : P.elem t = e := by simp [Program.elem, ht]
  rw [run_slice_l W t _ _ _ ht' .i64 _ (by omega) (by omega), he, run_size hsz, Int.toNat_natCast]; rfl
theorem cutA_own (g o c k : Nat) (h : k < c) : cutA (some ⟨g, o, none⟩) c k = some ⟨g, o + k, none⟩ := by
  unfold cutA
  rw [if_neg (by omega)]
  by_cases hk : k = 0 <;> simp [Addr.add, hk]
end
end Go.Proofs.YtglkonccinpdnaaGreatDoor
/- Words on memory for readers: what is kept but for some blocks; a slice and a reader that stands somewhere in it. -/
namespace Go.Proofs.YtglkonccinpdnaaGreatDoor
open Go.RowKit

/-- All blocks that were there, but those of S, are as they were. -/
structure Keep (S : Nat → Prop) (w w' : World) : Prop where
  os : w'.os = w.os
  tape : w'.tape = w.tape
  output : w'.output = w.output
  size : w.heap.size ≤ w'.heap.size
  block : ∀ k, k < w.heap.size → ¬ S k → w'.heap[k]? = w.heap[k]?

theorem Keep.refl (S : Nat → Prop) (w : World) : Keep S w w := ⟨rfl, rfl, rfl, Nat.le_refl _, fun _ _ _ => rfl⟩
theorem Keep.trans {S : Nat → Prop} {a b c : World} (h : Keep S a b) (k : Keep S b c) : Keep S a c :=
  ⟨k.os.trans h.os, k.tape.trans h.tape, k.output.trans h.output, Nat.le_trans h.size k.size, fun i hi hs => (k.block i (Nat.lt_of_lt_of_le hi h.size) hs).trans (h.block i hi hs)⟩
theorem Keep.mono {S T : Nat → Prop} {a b : World} (h : Keep S a b) (k : ∀ i, i < a.heap.size → S i → T i) : Keep T a b :=
  ⟨h.os, h.tape, h.output, h.size, fun i hi hs => h.block i hi fun hS => hs (k i hi hS)⟩
/-- What the second part may turn of old blocks, the first may. -/
theorem Keep.trans2 {S T : Nat → Prop} {a b c : World} (h : Keep S a b) (k : Keep T b c) (hT : ∀ i, i < a.heap.size → T i → S i) : Keep S a c :=
  ⟨k.os.trans h.os, k.tape.trans h.tape, k.output.trans h.output, Nat.le_trans h.size k.size, fun i hi hs => (k.block i (Nat.lt_of_lt_of_le hi h.size) fun hh => hs (hT i hi hh)).trans (h.block i hi hs)⟩
theorem _root_.Go.RowKit.Below.keep {S : Nat → Prop} {w w' : World} (h : Below w.heap.size w w') : Keep S w w' :=
  ⟨h.os, h.tape, h.output, h.size, fun k hk _ => h.block k hk⟩
theorem Keep.below {S : Nat → Prop} {B : Nat} {w w' : World} (h : Keep S w w') (hS : ∀ k, k < B → ¬ S k) (hB : B ≤ w.heap.size) : Below B w w' :=
  ⟨h.os, h.tape, h.output, h.size, fun k hk => h.block k (by omega) (hS k hk)⟩
theorem Keep.drewN {S : Nat → Prop} {a w : World} (h : Keep S a w) (n : Nat) : Keep S a (w.drewN n) := h.trans ⟨rfl, rfl, rfl, Nat.le_refl _, fun _ _ _ => rfl⟩
theorem keep_drewN (S : Nat → Prop) (w : World) (n : Nat) : Keep S w (w.drewN n) := (Keep.refl S w).drewN n
theorem Keep.cell {S : Nat → Prop} {w w' : World} (h : Keep S w w') {p : Addr} {u : Value} (hc : w.cell? p = some u) (hp : ¬ S p.block) : w'.cell? p = some u :=
  (World.cell?_of_block (w := w) (h.block p.block (block_of_cell hc) hp)).trans hc
theorem block_of_row {w : World} {g : Nat} {o : Obj} (h : w.heap[g]? = some o) : g < w.heap.size := by
  rcases Nat.lt_or_ge g w.heap.size with hp | hp
  · exact hp
  · rw [Array.getElem?_eq_none hp] at h; cases h
theorem Keep.row {S : Nat → Prop} {w w' : World} (h : Keep S w w') {g : Nat} {o : Obj} (hg : w.heap[g]? = some o) (hs : ¬ S g) : w'.heap[g]? = some o := (h.block g (block_of_row hg) hs).trans hg
theorem Keep.setCell {S : Nat → Prop} {a w : World} (h : Keep S a w) {p : Nat} (hp : S p) (o : Nat) (v : Value) : Keep S a (w.setCell ⟨p, o, none⟩ v) :=
  h.trans2 (S := S) (T := fun k => k = p) ⟨rfl, rfl, rfl, by simp [World.setCell], fun k _ hk => Below.heap_setCell _ _ _ _ hk⟩ (fun i _ e => e ▸ hp)
theorem Keep.setRow {S : Nat → Prop} {a w : World} (h : Keep S a w) {p : Nat} (hp : S p) (cs : Array Value) : Keep S a (w.setRow p cs) :=
  h.trans2 (S := S) (T := fun k => k = p) ⟨rfl, rfl, rfl, by simp [World.setRow], fun k _ hk => setRow_other w p k cs hk⟩ (fun i _ e => e ▸ hp)
theorem Keep.alloc {S : Nat → Prop} {a w : World} (h : Keep S a w) (o : Obj) : Keep S a (w.alloc o) :=
  h.trans (((Below.refl _ _).alloc (Nat.le_refl _) _).keep)

/-- The slice value v holds the bytes l, in a block that is not S. -/
structure BSo (S : Nat → Prop) (w : World) (v : Value) (l : List UInt8) : Prop where
  bs : BS w v l
  out : 0 < l.length → ∀ A n c a, v = .slice A n c → A = some a → ¬ S a.block
theorem BSo.keep {S : Nat → Prop} {w w' : World} {v : Value} {l : List UInt8} (h : BSo S w v l) (hk : Keep S w w') : BSo S w' v l := by
  obtain ⟨⟨A, c, rfl, hc, h⟩, ho⟩ := h
  refine ⟨⟨A, c, rfl, hc, fun hl => ?_⟩, ho⟩
  obtain ⟨b, o, e0, h2⟩ := h hl
  subst e0
  exact ⟨b, o, rfl, fun j hj => hk.cell (h2 j hj) (ho hl (some ⟨b, o, none⟩) _ _ ⟨b, o, none⟩ rfl rfl)⟩

/-- 'copy(dst, src)' into a row that is known whole: only that row has turned. -/
theorem wpList_copy_keep {P : Program} {w : World} {ops : Array Oper} {rest : List Oper} {o : Oper} {a : Act} {Q : Exit → Act → World → Prop} (hgd : o.guard = none) (d s : Operand) (dT sT : TypeId)
    (ho : o.op = .call { callee := .builtin .copy, args := #[d, s], argTypes := #[dT, sT] }) (elem : TypeId) (hu : P.underlying dT = some (.slice elem)) (hsz : (P.info? elem).map (·.size) = some 1)
    (dp sp : Option Addr) (dLen dCap sLen sCap : Nat) (hd : a.eval d = .slice dp dLen dCap) (hs : a.eval s = .slice sp sLen sCap)
    (g off : Nat) (cur : List Value) (t : TypeId) (hg : w.heap[g]? = some (.cells cur.toArray t (0, 0))) (cs : List Value) (hn : cs.length = Nat.min sLen dLen)
    (hpos : 0 < cs.length → dp = some ⟨g, off, none⟩ ∧ ∃ ad, sp = some ad ∧ ∀ j v, cs[j]? = some v → w.cell? (ad.add j) = some v)
    (hfit : off + cs.length ≤ cur.length) (h1 : ∀ v ∈ cs, v.oneCell' = true)
    (h : ∀ w', Hid (w'.heap[g]? = some (.cells (splice cur off cs).toArray t (0, 0))) → Keep (fun k => k = g) w w' → wpList P ops Q rest (a.put o.dst (goInt cs.length)) w') :
    wpList P ops Q (o :: rest) a w := by
  by_cases h0 : cs.length = 0
  · obtain rfl : cs = [] := List.eq_nil_of_length_eq_zero h0
    refine wpList_copy_nothing hgd d s dT sT ho elem hu hsz dp sp dLen dCap sLen sCap hd hs (by simpa using hn.symm) ?_
    exact h w (show _ = _ by simpa [splice] using hg) (Keep.refl _ _)
  · obtain ⟨rfl, ad, rfl, hsrc⟩ := hpos (by omega)
    refine wpList_copy_own hgd d s dT sT ho elem hu hsz g off dLen dCap ad sLen sCap hd hs cur.toArray t hg cs hn hsrc (by simpa using hfit) h1 ?_
    exact h _ (show _ = _ by simpa [splice] using setRow_heap w g _ _ t _ hg) ((Keep.refl (fun k => k = g) w).setRow (p := g) rfl _)

/-- A reader in block p (of type t) that stands at byte i of the bytes l of the slice v; l does not lie in blocks from p on. -/
structure RdrT (t : TypeId) (w : World) (p : Nat) (v : Value) (l : List UInt8) (i : Nat) : Prop where
  row : ∃ r : Int, w.heap[p]? = some (.cells #[v, .int .i64 i, .int .i64 r] t (0, 0))
  bs : BSo (fun k => p ≤ k) w v l
  le : i ≤ l.length
  fits : l.length ≤ 9223372036854775807
theorem RdrT.keep {t : TypeId} {w w' : World} {p : Nat} {v : Value} {l : List UInt8} {i : Nat} (h : RdrT t w p v l i) {S : Nat → Prop} (hk : Keep S w w') (hS : ∀ k, S k → p < k) : RdrT t w' p v l i := by
  obtain ⟨⟨r, hr⟩, hb, hl, hf⟩ := h
  exact ⟨⟨r, hk.row hr (fun hh => Nat.lt_irrefl _ (hS _ hh))⟩, hb.keep (hk.mono fun i _ h => Nat.le_of_lt (hS i h)), hl, hf⟩
/-- The slice v of the bytes l does not lie in block h. -/
def OffBlock (v : Value) (l : List UInt8) (h : Nat) : Prop := 0 < l.length → ∀ A n c a, v = .slice A n c → A = some a → a.block ≠ h
/-- .. where the turned block is another one, and not where the bytes lie. -/
theorem RdrT.keep' {t : TypeId} {w w' : World} {p : Nat} {v : Value} {l : List UInt8} {i : Nat} (h : RdrT t w p v l i) {g : Nat} (hk : Keep (fun k => k = g) w w') (hS : g ≠ p) (hv : OffBlock v l g) : RdrT t w' p v l i := by
  obtain ⟨⟨r, hr⟩, hb, hl, hf⟩ := h
  refine ⟨⟨r, hk.row hr (fun hh => hS hh.symm)⟩, ⟨(BSo.keep (S := fun k => k = g) ⟨hb.bs, fun h0 A n c a e1 e2 => hv h0 A n c a e1 e2⟩ hk).bs, hb.out⟩, hl, hf⟩
theorem RdrT.below {t : TypeId} {w w' : World} {p : Nat} {v : Value} {l : List UInt8} {i : Nat} (h : RdrT t w p v l i) (hk : Below w.heap.size w w') : RdrT t w' p v l i := h.keep (S := fun _ => False) hk.keep (fun _ h => h.elim)
theorem RdrT.drew {t : TypeId} {w : World} {p : Nat} {v : Value} {l : List UInt8} {i : Nat} (h : RdrT t w p v l i) : RdrT t w.drew p v l i := h.keep (S := fun _ => False) ((Keep.refl _ w).drewN 1) (fun _ h => h.elim)
theorem keep_drew (S : Nat → Prop) (w : World) : Keep S w w.drew := (Keep.refl _ w).drewN 1
theorem splice_whole {α : Type} (L cs : List α) (h : cs.length = L.length) : splice L 0 cs = cs := by
  unfold splice
  rw [Nat.zero_add, h, List.drop_length]; simp
end Go.Proofs.YtglkonccinpdnaaGreatDoor
/- The plain law of reading a varint of a list of bytes: what it is, no program in sight. -/
namespace Go.Proofs.YtglkonccinpdnaaGreatDoor
open Go.RowKit

/-- What reading a varint comes to. -/
inductive UvR where
  | ok (x m : Nat)
  | over
  | notMin
  | under

/-- One byte more, at place k. -/
def uvGo : Nat → Nat → List UInt8 → UvR
  | _, _, [] => .under
  | k, X, b :: r =>
    if (k = 8 ∧ 128 ≤ b.toNat) ∨ 9 ≤ k then .over
    else if b.toNat < 128 then (if b.toNat = 0 ∧ 0 < k then .notMin else .ok (X + b.toNat * 2 ^ (7 * k)) (k + 1))
    else uvGo (k + 1) (X + (b.toNat % 128) * 2 ^ (7 * k)) r
def uvDec (l : List UInt8) : UvR := uvGo 0 0 l

theorem uv_or (k X B : Nat) (hk : k ≤ 8) (hX : X < 2 ^ (7 * k)) (hB : B < 128) :
    bits .or .u64 (X : Int) (IntKind.u64.wrap ((B : Int) * 2 ^ (7 * k))) = ((X + B * 2 ^ (7 * k) : Nat) : Int) := by
  have h : k = 0 ∨ k = 1 ∨ k = 2 ∨ k = 3 ∨ k = 4 ∨ k = 5 ∨ k = 6 ∨ k = 7 ∨ k = 8 := by omega
  rcases h with rfl | rfl | rfl | rfl | rfl | rfl | rfl | rfl | rfl <;>
    simp only [Nat.reduceMul, Nat.reducePow, Int.reducePow, Nat.mul_zero, Nat.pow_zero, Int.pow_zero] at hX ⊢ <;>
    rw [IntWalk.u64_in _ (by omega)]
  · rw [u64_orv0 _ _ (by omega) (by omega) (by omega) (by omega) (by omega)]; omega
  · rw [u64_orv7 _ _ (by omega) (by omega) (by omega) (by omega) (by omega)]; omega
  · rw [u64_orv14 _ _ (by omega) (by omega) (by omega) (by omega) (by omega)]; omega
  · rw [u64_orv21 _ _ (by omega) (by omega) (by omega) (by omega) (by omega)]; omega
  · rw [u64_orv28 _ _ (by omega) (by omega) (by omega) (by omega) (by omega)]; omega
  · rw [u64_orv35 _ _ (by omega) (by omega) (by omega) (by omega) (by omega)]; omega
  · rw [u64_orv42 _ _ (by omega) (by omega) (by omega) (by omega) (by omega)]; omega
  · rw [u64_orv49 _ _ (by omega) (by omega) (by omega) (by omega) (by omega)]; omega
  · rw [u64_orv56 _ _ (by omega) (by omega) (by omega) (by omega) (by omega)]; omega

/-- The round's own word: the low seven bits laid on top. -/
theorem uv_or_and (k X B : Nat) (hk : k ≤ 8) (hX : X < 2 ^ (7 * k)) (hB : B < 256) :
    bits .or .u64 (X : Int) (IntKind.u64.wrap (IntKind.u64.wrap (bits .and .u8 (B : Int) 127) * 2 ^ (7 * k))) = ((X + B % 128 * 2 ^ (7 * k) : Nat) : Int) := by
  rw [u8_and127 _ (by omega) (by omega), IntWalk.u64_in ((B : Int) % 128) (by omega)]
  have := uv_or k X (B % 128) hk hX (by omega)
  rw [← this]; rfl

theorem uv_step_lt (k X B : Nat) (hX : X < 2 ^ (7 * k)) (hB : B < 128) : X + B * 2 ^ (7 * k) < 2 ^ (7 * (k + 1)) := by
  have : 2 ^ (7 * (k + 1)) = 128 * 2 ^ (7 * k) := by rw [Nat.mul_add, Nat.pow_add]; omega
  rw [this]
  have : B * 2 ^ (7 * k) ≤ 127 * 2 ^ (7 * k) := Nat.mul_le_mul_right _ (by omega)
  omega

theorem bitLen_lt128 : ∀ n : Fin 128, (n.val = 0 ∧ Lib.bitLen n.val = 0) ∨ (1 ≤ Lib.bitLen n.val ∧ Lib.bitLen n.val ≤ 7) := by decide +kernel

/-- A number's varint has one byte for each seven bits, one for 0. -/
theorem uv_size (x : Nat) (h : x < 18446744073709551616) :
    (Lib.uvarint x).length = Lib.bitLen x / 7 + (if 0 < Lib.bitLen x % 7 ∨ Lib.bitLen x / 7 = 0 then 1 else 0) := by
  induction x using Nat.strongRecOn with
  | ind x ih =>
    by_cases hx : x < 128
    · rw [Lib.uvarint_small hx, List.length_singleton]; clear ih
      rcases bitLen_lt128 ⟨x, hx⟩ with ⟨_, h0⟩ | ⟨h1, h2⟩
      · simp only at h0; rw [h0]; decide
      · simp only at h1 h2
        generalize Lib.bitLen x = n at h1 h2 ⊢
        have : n = 1 ∨ n = 2 ∨ n = 3 ∨ n = 4 ∨ n = 5 ∨ n = 6 ∨ n = 7 := by omega
        rcases this with rfl | rfl | rfl | rfl | rfl | rfl | rfl <;> decide
    · have h1 := ih (x / 128) (by omega) (by omega)
      have h2 := Lib.bitLen_shift 7 x (by omega) (by omega)
      rw [Lib.uvarint_big (by omega), List.length_cons, h1, h2, show x / 2 ^ 7 = x / 128 from rfl]
      generalize hn : Lib.bitLen (x / 128) = n
      have hn1 : 1 ≤ n := by
        rcases Nat.eq_zero_or_pos n with h0 | h0
        · exfalso
          by_cases hs : x / 128 < 128
          · rcases bitLen_lt128 ⟨x / 128, hs⟩ with ⟨h3, _⟩ | ⟨h3, _⟩
            · simp only at h3; omega
            · simp only at h3; omega
          · have := Lib.bitLen_shift 7 (x / 128) (by omega) (by omega)
            omega
        · exact h0
      by_cases h7 : 0 < n % 7
      · rw [if_pos (Or.inl h7), if_pos (Or.inl (by omega))]; omega
      · rw [if_neg (by omega), if_neg (by omega)]; omega

/-- What is read is what is written: the bytes that were read are the number's varint. -/
theorem uvGo_ok : ∀ (l : List UInt8) (k X x m : Nat), X < 2 ^ (7 * k) → uvGo k X l = .ok x m →
    k + 1 ≤ m ∧ m ≤ k + l.length ∧ m ≤ 9 ∧ X ≤ x ∧ x % 2 ^ (7 * k) = X ∧ x < 2 ^ (7 * m) ∧ l.take (m - k) = Lib.uvarint (x / 2 ^ (7 * k)) ∧ (0 < k → 0 < x / 2 ^ (7 * k))
  | [], k, X, x, m, _, h => by simp [uvGo] at h
  | b :: r, k, X, x, m, hX, h => by
    have hb : b.toNat < 256 := UInt8.toNat_lt _
    have hP : 0 < 2 ^ (7 * k) := Nat.pos_of_ne_zero (by simp)
    unfold uvGo at h
    by_cases h1 : (k = 8 ∧ 128 ≤ b.toNat) ∨ 9 ≤ k
    · rw [if_pos h1] at h; cases h
    rw [if_neg h1] at h
    by_cases h2 : b.toNat < 128
    · rw [if_pos h2] at h
      by_cases h3 : b.toNat = 0 ∧ 0 < k
      · rw [if_pos h3] at h; cases h
      · rw [if_neg h3] at h
        injection h with e1 e2
        have hd : x / 2 ^ (7 * k) = b.toNat := by
          rw [← e1, Nat.mul_comm, Nat.add_mul_div_left _ _ hP, Nat.div_eq_of_lt hX, Nat.zero_add]
        have hlt := uv_step_lt k X b.toNat hX h2
        refine ⟨by omega, by simp only [List.length_cons]; omega, by omega, by omega, ?_, by rw [← e2, ← e1]; exact hlt, ?_, ?_⟩
        · rw [← e1, Nat.mul_comm, Nat.add_mul_mod_self_left, Nat.mod_eq_of_lt hX]
        · rw [hd, ← e2, show k + 1 - k = 1 by omega, Lib.uvarint_small h2]
          simp
        · intro hk; rw [hd]; omega
    · rw [if_neg h2] at h
      have hlt := uv_step_lt k X (b.toNat % 128) hX (by omega)
      have ih := uvGo_ok r (k + 1) _ x m hlt h
      obtain ⟨g1, g2, g3, g4, g5, g6, g7, g8⟩ := ih
      have hp : 2 ^ (7 * (k + 1)) = 2 ^ (7 * k) * 128 := by rw [Nat.mul_add, Nat.pow_add]
      have hd : x / 2 ^ (7 * (k + 1)) = x / 2 ^ (7 * k) / 128 := by rw [hp, Nat.div_div_eq_div_mul]
      have hpos : 0 < x / 2 ^ (7 * k) / 128 := by rw [← hd]; exact g8 (by omega)
      have hm : x / 2 ^ (7 * k) % 128 = b.toNat % 128 := by
        have e1 : x % (2 ^ (7 * k) * 128) = X + b.toNat % 128 * 2 ^ (7 * k) := by rw [← hp]; exact g5
        have e2 : x % (2 ^ (7 * k) * 128) / 2 ^ (7 * k) = x / 2 ^ (7 * k) % 128 := Nat.mod_mul_right_div_self _ _ _
        rw [← e2, e1, Nat.mul_comm (b.toNat % 128), Nat.add_mul_div_left _ _ hP, Nat.div_eq_of_lt hX, Nat.zero_add]
      refine ⟨by omega, by simp only [List.length_cons]; omega, g3, ?_, ?_, g6, ?_, ?_⟩
      · have : 0 ≤ b.toNat % 128 * 2 ^ (7 * k) := Nat.zero_le _
        omega
      · have e3 : x % (2 ^ (7 * k) * 128) % 2 ^ (7 * k) = x % 2 ^ (7 * k) := Nat.mod_mul_right_mod _ _ _
        rw [← e3, ← hp, g5, Nat.mul_comm, Nat.add_mul_mod_self_left, Nat.mod_eq_of_lt hX]
      · rw [show m - k = (m - (k + 1)) + 1 by omega, List.take_succ_cons, g7, hd, Lib.uvarint_big (x := x / 2 ^ (7 * k)) (by omega), hm]
        congr 1
        apply UInt8.toNat_inj.1
        rw [show b.toNat % 128 + 128 = b.toNat by omega]
        simp
      · intro _; omega

theorem uvDec_ok {l : List UInt8} {x m : Nat} (h : uvDec l = .ok x m) : 1 ≤ m ∧ m ≤ l.length ∧ m ≤ 9 ∧ x < 2 ^ (7 * m) ∧ l.take m = Lib.uvarint x := by
  obtain ⟨h1, h2, h3, _, _, h4, h5, _⟩ := uvGo_ok l 0 0 x m (by decide) h
  refine ⟨by omega, by omega, h3, h4, ?_⟩
  simpa using h5
theorem uvDec_lt63 {l : List UInt8} {x m : Nat} (h : uvDec l = .ok x m) : x < 9223372036854775808 := by
  obtain ⟨_, _, h3, h4, _⟩ := uvDec_ok h
  exact Nat.lt_of_lt_of_le h4 (Nat.pow_le_pow_right (by decide) (by omega : 7 * m ≤ 63))

def UvR.no : UvR → Prop
  | .ok _ _ => False
  | _ => True
/-- Bytes of which each says that one more follows: no varint. -/
theorem uvGo_high : ∀ (l : List UInt8) (k X : Nat), (∀ b ∈ l, 128 ≤ b.toNat) → (uvGo k X l).no
  | [], _, _, _ => trivial
  | b :: r, k, X, h => by
    have hb := h b (by simp)
    unfold uvGo
    by_cases h1 : (k = 8 ∧ 128 ≤ b.toNat) ∨ 9 ≤ k
    · rw [if_pos h1]; trivial
    · rw [if_neg h1, if_neg (by omega)]; exact uvGo_high r _ _ (fun c hc => h c (by simp [hc]))
/-- .. nor with a needless zero behind. -/
theorem uvGo_high0 : ∀ (l : List UInt8) (k X : Nat), (∀ b ∈ l, 128 ≤ b.toNat) → 0 < k + l.length → (uvGo k X (l ++ [0])).no
  | [], k, X, _, hk => by
    simp only [List.length_nil, Nat.add_zero] at hk
    rw [List.nil_append]
    unfold uvGo
    by_cases h1 : (k = 8 ∧ 128 ≤ (0 : UInt8).toNat) ∨ 9 ≤ k
    · rw [if_pos h1]; trivial
    · rw [if_neg h1, if_pos (by decide), if_pos ⟨rfl, hk⟩]; trivial
  | b :: r, k, X, h, _ => by
    have hb := h b (by simp)
    rw [List.cons_append]
    unfold uvGo
    by_cases h1 : (k = 8 ∧ 128 ≤ b.toNat) ∨ 9 ≤ k
    · rw [if_pos h1]; trivial
    · rw [if_neg h1, if_neg (by omega)]; exact uvGo_high0 r _ _ (fun c hc => h c (by simp [hc])) (by omega)

/-- Each byte of a varint but the last one says that one more follows; the last one does not. -/
theorem uvarint_split (x : Nat) : ∃ (pre : List UInt8) (c : UInt8), Lib.uvarint x = pre ++ [c] ∧ (∀ b ∈ pre, 128 ≤ b.toNat) ∧ c.toNat < 128 := by
  induction x using Nat.strongRecOn with
  | ind x ih =>
    by_cases hx : x < 128
    · refine ⟨[], x.toUInt8, by rw [Lib.uvarint_small hx]; rfl, fun b hb => by simp at hb, ?_⟩
      simp; omega
    · obtain ⟨pre, c, e, h1, h2⟩ := ih (x / 128) (by omega)
      refine ⟨(x % 128 + 128).toUInt8 :: pre, c, by rw [Lib.uvarint_big (by omega), e]; rfl, fun b hb => ?_, h2⟩
      simp only [List.mem_cons] at hb
      rcases hb with rfl | hb
      · simp; omega
      · exact h1 b hb

/-- What is cut off ahead of the last byte is no varint. -/
theorem uvDec_cut (x k : Nat) (hk : k < (Lib.uvarint x).length) : (uvDec ((Lib.uvarint x).take k)).no := by
  obtain ⟨pre, c, e, h1, _⟩ := uvarint_split x
  rw [e] at hk ⊢
  simp only [List.length_append, List.length_singleton] at hk
  rw [List.take_append_of_le_length (by omega)]
  exact uvGo_high _ _ _ fun b hb => h1 b (List.mem_of_mem_take hb)

end Go.Proofs.YtglkonccinpdnaaGreatDoor
namespace Go.Proofs.YtglkonccinpdnaaGreatDoor
open Go.RowKit

def UvR.val (E1 E2 E3 : Value) : UvR → Value
  | .ok x m => .tuple #[.int .u64 x, .int .i64 m, .nilIface]
  | .over => .tuple #[.int .u64 0, .int .i64 0, E1]
  | .notMin => .tuple #[.int .u64 0, .int .i64 0, E2]
  | .under => .tuple #[.int .u64 0, .int .i64 0, E3]

theorem UvR.ok_eq {E1 E2 E3 : Value} {Y M : Int} {x m : Nat} (h : Y = x) (h2 : M = m) : Ending.returned (.tuple #[.int .u64 Y, .int .i64 M, .nilIface]) = .returned ((UvR.ok x m).val E1 E2 E3) := by
  rw [h, h2]; rfl

set_option maxRecDepth 100000 in
set_option maxHeartbeats 1000000 in
theorem fromUv_any (b o n c : Nat) (l : List UInt8) (w : World) (hl : l.length = n) (hm : n ≤ 9223372036854775807)
    (hc : ∀ j (h : j < l.length), w.cell? ⟨b, o + j, none⟩ = some (.int .u8 (l[j].toNat)))
    (T : TypeId) (p1 p2 p3 : Value)
    (h1 : w.cell? ⟨6, 0, none⟩ = some (.iface T p1)) (h2 : w.cell? ⟨7, 0, none⟩ = some (.iface T p2)) (h3 : w.cell? ⟨8, 0, none⟩ = some (.iface T p3)) :
    Calls Tryz.prog 88 #[.slice (some ⟨b, o, none⟩) n c] w fun e w' =>
      e = .returned ((uvDec l).val (.iface T p1) (.iface T p2) (.iface T p3)) ∧ ∃ q, w' = w.drewN q := by
  go_enter Tryz.func88, Tryz.ntmps88
  go_wp2
  go_loop [5, 6, 11] (fun x sh i => ∃ (k X : Nat), k ≤ n ∧ k ≤ 9 ∧ X < 2 ^ (7 * k) ∧ i = .int .i64 k ∧ sh = .int .u64 (7 * k : Nat) ∧ x = .int .u64 X ∧ Hid (uvDec l = uvGo k X (l.drop k))) (fun _ _ i => n - (intOf i).toNat)
  case atStart => exact ⟨0, 0, by omega, by omega, by decide, rfl, rfl, rfl, Lib.hid rfl⟩
  case round =>
    obtain ⟨k, X, hk, hk10, hX, rfl, rfl, rfl, hd⟩ := hrel
    by_cases hlt : k < n
    · have hlt' : k < l.length := by omega
      have hcell := hc k hlt'
      have hb : l[k].toNat < 256 := UInt8.toNat_lt _
      obtain ⟨B, hB⟩ : ∃ B, B = l[k].toNat := ⟨_, rfl⟩
      rw [← hB] at hcell hb
      have HB := Lib.hid hB
      clear hB hc
      have hstep : uvGo k X (l.drop k) = (if (k = 8 ∧ 128 ≤ B) ∨ 9 ≤ k then .over
          else if B < 128 then (if B = 0 ∧ 0 < k then .notMin else .ok (X + B * 2 ^ (7 * k)) (k + 1))
          else uvGo (k + 1) (X + (B % 128) * 2 ^ (7 * k)) (l.drop (k + 1))) := by
        rw [List.drop_eq_getElem_cons hlt', uvGo, ← HB.out]
      by_cases h9 : k = 9
      · subst h9
        have hfin : Hid (uvDec l = .over) := Lib.hid (by rw [hd.out, hstep, if_pos (Or.inr (by omega))])
        clear hd hstep HB
        go_wp2
        go_quiet (fail)
        go_wp2
        go_ret3
        exact ⟨by rw [hfin.out]; rfl, _, rfl⟩
      by_cases hge : 128 ≤ B
      · by_cases h8 : k = 8
        · subst h8
          have hfin : Hid (uvDec l = .over) := Lib.hid (by rw [hd.out, hstep, if_pos (Or.inl ⟨rfl, hge⟩)])
          clear hd hstep HB
          go_wp2
          go_quiet (fail)
          go_wp2
          go_ret3
          exact ⟨by rw [hfin.out]; rfl, _, rfl⟩
        · have hfin : Hid (uvDec l = uvGo (k + 1) (X + (B % 128) * 2 ^ (7 * k)) (l.drop (k + 1))) := Lib.hid (by
            rw [hd.out, hstep, if_neg (by omega), if_neg (by omega)])
          clear hd hstep HB
          have hk8 : ((k : Int) == 8) = false := by simp; omega
          have hor := Lib.hid (uv_or_and k X B (by omega) hX hb)
          have hlt2 := uv_step_lt k X (B % 128) hX (by omega)
          go_wp2
          exact ⟨⟨k + 1, X + B % 128 * 2 ^ (7 * k), by omega, by omega, hlt2, by go_num, by go_num, by rw [hor.out], hfin⟩, by simp [intOf]; omega⟩
      · by_cases hz : B = 0 ∧ 0 < k
        · obtain ⟨rfl, hz⟩ := hz
          have hfin : Hid (uvDec l = .notMin) := Lib.hid (by rw [hd.out, hstep, if_neg (by omega), if_pos (by omega), if_pos ⟨rfl, hz⟩])
          clear hd hstep HB
          have hk9' : (k : Int) < 9 := by omega
          by_cases hk8 : k = 8
          · subst hk8
            go_wp2
            go_quiet (fail)
            go_wp2
            go_ret3
            exact ⟨by rw [hfin.out]; rfl, _, rfl⟩
          · have hk8' : ((k : Int) == 8) = false := by simp; omega
            go_wp2
            go_quiet (fail)
            go_wp2
            go_ret3
            exact ⟨by rw [hfin.out]; rfl, _, rfl⟩
        · have hfin : Hid (uvDec l = .ok (X + B * 2 ^ (7 * k)) (k + 1)) := Lib.hid (by rw [hd.out, hstep, if_neg (by omega), if_pos (by omega), if_neg hz])
          have hor := Lib.hid (uv_or k X B (by omega) hX (by omega))
          clear hd hstep HB
          have hk9' : (k : Int) < 9 := by omega
          by_cases hB0 : B = 0
          · subst hB0
            have hk0 : k = 0 := by omega
            subst hk0
            have hfin' : Hid (uvDec l = .ok X 1) := Lib.hid (by rw [hfin.out]; simp)
            simp only [Nat.add_zero, Int.natCast_zero] at hcell
            clear hor hfin
            have hor0 : Hid (bits .or .u64 (X : Int) 0 = (X : Nat)) := Lib.hid (by rw [u64_orv0 _ _ (by omega) (by omega) (by omega) (by omega) (by omega)]; omega)
            go_wp2
            go_ret3
            exact ⟨by rw [hfin'.out]; exact UvR.ok_eq hor0.out rfl, 0, rfl⟩
          · have hB0' : ((B : Int) == 0) = false := by simp; omega
            by_cases hk8 : k = 8
            · subst hk8
              have hor8 : Hid (bits .or .u64 (X : Int) ((B : Int) * 72057594037927936) = ((X + B * 2 ^ (7 * 8) : Nat) : Int)) := Lib.hid (by
                rw [← hor.out, IntWalk.u64_in _ (by omega)]; rfl)
              clear hor
              go_wp2
              go_ret3
              exact ⟨by rw [hfin.out]; exact UvR.ok_eq hor8.out rfl, 0, rfl⟩
            · have hk8' : ((k : Int) == 8) = false := by simp; omega
              go_wp2
              go_ret3
              exact ⟨by rw [hfin.out]; exact UvR.ok_eq hor.out (by omega), 0, rfl⟩
    · have hkn : k = l.length := by omega
      have hfin : Hid (uvDec l = .under) := Lib.hid (by rw [hd.out, hkn, List.drop_length]; rfl)
      clear hd hkn hc
      go_wp2
      go_quiet (fail)
      go_wp2
      go_ret3
      exact ⟨by rw [hfin.out]; rfl, _, rfl⟩
end Go.Proofs.YtglkonccinpdnaaGreatDoor
namespace Go.Proofs.YtglkonccinpdnaaGreatDoor
open Go.RowKit

theorem info_u8 : (Tryz.prog.info? 5).map (fun i => (i.zero, i.size, i.bytes)) = some (some (.int .u8 0), 1, 1) := by kernel_rfl

/-- A byte list laid over a whole row. -/
theorem splice_all (n : Nat) (v : Value) (l : List Value) (h : l.length = n) : splice (List.replicate n v) 0 l = l := by
  subst h; simp [splice]


end Go.Proofs.YtglkonccinpdnaaGreatDoor
/- Contracts of a reader over bytes: (*bytes.Reader).Read, and io.ReadAtLeast, io.ReadFull over one, into a row that is known whole. -/
namespace Go.Proofs.YtglkonccinpdnaaGreatDoor
open Go.RowKit

abbrev Rdr (w : World) (p : Nat) (v : Value) (l : List UInt8) (i : Nat) : Prop := RdrT 121 w p v l i
abbrev errV (a : Addr) : Value := .iface 155 (.pointer (some a))
/-- Variable g holds the error a, an object of its own; both lie below B. -/
structure ErrAt (B : Nat) (w : World) (g : Nat) (a : Addr) : Prop where
  lt : g < B
  lta : a.block < B
  cell : w.cell? ⟨g, 0, none⟩ = some (errV a)
  row : ∃ cs t, w.heap[a.block]? = some (.cells cs t (0, 0))
theorem ErrAt.keep {B : Nat} {S : Nat → Prop} {w w' : World} {g : Nat} {a : Addr} (h : ErrAt B w g a) (hb : Keep S w w') (hS : ∀ k, S k → B ≤ k) : ErrAt B w' g a := by
  obtain ⟨cs, t, hr⟩ := h.row
  exact ⟨h.lt, h.lta, hb.cell h.cell (fun hh => by have h1 := hS _ hh; have h2 := h.lt; exact absurd h1 (Nat.not_le.2 h2)), cs, t, hb.row hr (fun hh => by have h1 := hS _ hh; have h2 := h.lta; exact absurd h1 (Nat.not_le.2 h2))⟩
theorem ErrAt.below {B : Nat} {w w' : World} {g : Nat} {a : Addr} (h : ErrAt B w g a) (hb : Below w.heap.size w w') : ErrAt B w' g a := h.keep (S := fun _ => False) hb.keep (fun _ h => h.elim)
theorem ErrAt.drew {B : Nat} {w : World} {g : Nat} {a : Addr} (h : ErrAt B w g a) : ErrAt B w.drew g a := h.keep (keep_drew (fun _ => False) w) (fun _ h => h.elim)
theorem ErrAt.mono {B C : Nat} {w : World} {g : Nat} {a : Addr} (h : ErrAt B w g a) (hB : B ≤ C) : ErrAt C w g a := ⟨Nat.lt_of_lt_of_le h.lt hB, Nat.lt_of_lt_of_le h.lta hB, h.cell, h.row⟩
theorem ErrAt.size {B : Nat} {w : World} {g : Nat} {a : Addr} (h : ErrAt B w g a) : ErrAt w.heap.size w g a := by
  obtain ⟨cs, t, hr⟩ := h.row
  exact ⟨block_of_cell h.cell, block_of_row hr, h.cell, cs, t, hr⟩
theorem errInfo : ∃ i, Tryz.prog.info? 155 = some i ∧ i.comparable = true := by
  have h : (Tryz.prog.info? 155).map (·.comparable) = some true := by kernel_rfl
  obtain ⟨i, hi, h2⟩ := Option.map_eq_some_iff.1 h
  exact ⟨i, hi, h2⟩
theorem errInfo2 : ∃ i, Tryz.prog.info? 157 = some i ∧ i.size ≠ 0 := by
  have h : (Tryz.prog.info? 157).map (·.size) = some 1 := by kernel_rfl
  obtain ⟨i, hi, h2⟩ := Option.map_eq_some_iff.1 h
  exact ⟨i, hi, by omega⟩
/-- '==' of errors: one and the same; two. -/
theorem run_eqErr_same (a : Addr) (w : World) : (binOp .eql 55 (errV a) (errV a)).run Tryz.prog w = .ok (.bool true) w := by
  obtain ⟨i, hi, hc⟩ := errInfo
  obtain ⟨j, hj, _⟩ := errInfo2
  exact run_eql_iface_ptr_same w a Tryz.underlying55 Tryz.underlying155 hi hc hj
theorem run_eqErr_other {a b : Addr} {w : World} (hne : a ≠ b) (ha : ∃ cs t, w.heap[a.block]? = some (.cells cs t (0, 0))) (hb : ∃ cs t, w.heap[b.block]? = some (.cells cs t (0, 0))) :
    (binOp .eql 55 (errV a) (errV b)).run Tryz.prog w = .ok (.bool false) w := by
  obtain ⟨i, hi, hc⟩ := errInfo
  obtain ⟨j, hj, hz⟩ := errInfo2
  obtain ⟨ca, ta, ha⟩ := ha
  obtain ⟨cb, tb, hb⟩ := hb
  exact run_eql_iface_ptr_other w Tryz.underlying55 Tryz.underlying155 hi hc hj hz hne ha hb

theorem hsz1 : (Tryz.prog.info? 5).map (·.size) = some 1 := by kernel_rfl

set_option maxRecDepth 100000 in
set_option maxHeartbeats 1000000 in
/-- Bytes that are there are read. -/
theorem rdRead_some (p g o m c : Nat) (v : Value) (l : List UInt8) (i : Nat) (cur : List Value) (t : TypeId) (A : Option Addr) (w : World) (hr : Rdr w p v l i) (hi : i < l.length) (hpg : p < g)
    (hg : w.heap[g]? = some (.cells cur.toArray t (0, 0))) (hA : 0 < m → A = some ⟨g, o, none⟩) (hfit : o + m ≤ cur.length) :
    Calls Tryz.prog 148 #[.pointer (some ⟨p, 0, none⟩), .slice A m c] w fun e w' => e = .returned (.tuple #[.int .i64 (min m (l.length - i) : Nat), .nilIface]) ∧ Rdr w' p v l (i + min m (l.length - i)) ∧
      Hid (w'.heap[g]? = some (.cells (splice cur o (Lib.byteCells ((l.drop i).take m))).toArray t (0, 0))) ∧ Keep (fun k => k = p ∨ k = g) w w' := by
  obtain ⟨⟨r, hrow⟩, ⟨⟨A0, c0, rfl, hc0, hcl⟩, hout⟩, hle, hfits⟩ := hr
  have h0 : w.cell? ⟨p, 0, none⟩ = some (.slice A0 l.length c0) := by rw [cell_of_row' (cur := [_, _, _]) hrow]; rfl
  have h1 : w.cell? ⟨p, 1, none⟩ = some (.int .i64 i) := by rw [cell_of_row' (cur := [_, _, _]) hrow]; rfl
  have h2 : w.cell? ⟨p, 2, none⟩ = some (.int .i64 r) := by rw [cell_of_row' (cur := [_, _, _]) hrow]; rfl
  have f2 : w.frozen? ⟨p, 2, none⟩ = false := frozen_of_row' (cur := [_, _, _]) hrow 2
  have f1 : w.frozen? ⟨p, 1, none⟩ = false := frozen_of_row' (cur := [_, _, _]) hrow 1
  have hsl := fun W => run_from (P := Tryz.prog) Tryz.underlying58 info_u8 A0 l.length c0 i (by omega) W
  obtain ⟨N, hN⟩ : ∃ N, N = l.length := ⟨_, rfl⟩
  have HN := Lib.hid hN
  have HG := Lib.hid hg
  have HC := Lib.hid hcl
  have HO := Lib.hid hout
  have HF := Lib.hid hfit
  have HROW := Lib.hid hrow
  have HC0 := Lib.hid hc0
  rw [← hN] at hsl h0 hi hfits
  clear hg hcl hout hfit hle hc0 hrow hN
  go_enter Tryz.func148, Tryz.ntmps148
  go_wp2
  go_quiet (fail)
  go_wp2
  have k1 : Keep (fun k => k = p) w ((w.drewN nq).setCell ⟨p, 2, none⟩ (.int .i64 (-1))) := Keep.setCell (S := fun k => k = p) (keep_drewN _ w nq) (show p = p from rfl) _ _
  have hrow2 := Lib.heap_setCell_same (i := 2) (w := w.drewN nq) (HROW.out : (w.drewN nq).heap[p]? = _) (.int .i64 (-1))
  generalize (w.drewN nq).setCell ⟨p, 2, none⟩ (.int .i64 (-1)) = w2 at k1 hrow2 ⊢
  clear h0 h1 h2 f2 f1
  have hrow3 : w2.heap[p]? = some (.cells #[.slice A0 l.length c0, .int .i64 i, .int .i64 (-1)] 121 (0, 0)) := hrow2
  rw [← HN.out] at hrow3
  have h0 : w2.cell? ⟨p, 0, none⟩ = some (.slice A0 N c0) := by rw [cell_of_row' (cur := [_, _, _]) hrow3]; rfl
  have h1 : w2.cell? ⟨p, 1, none⟩ = some (.int .i64 i) := by rw [cell_of_row' (cur := [_, _, _]) hrow3]; rfl
  have f1 : w2.frozen? ⟨p, 1, none⟩ = false := frozen_of_row' (cur := [_, _, _]) hrow3 1
  have HROW3 := Lib.hid hrow3
  clear hrow2 hrow3
  go_still_tail 10, (by kernel_rfl)
  change wpList _ _ _ _ _ w2.drew
  have k2 : Keep (fun k => k = p) w w2.drew := k1.drewN 1
  have hrow3 : w2.drew.heap[p]? = some (.cells #[.slice A0 N c0, .int .i64 i, .int .i64 (-1)] 121 (0, 0)) := HROW3.out
  generalize w2.drew = w3 at k2 hrow3 ⊢
  clear h0 h1 f1 k1 HROW3
  have hg3 := k2.row HG.out (by omega)
  have hb3 : BSo (fun k => p ≤ k) w3 (.slice A0 l.length c0) l := BSo.keep ⟨⟨A0, c0, rfl, by have := HC0.out; omega, HC.out⟩, HO.out⟩ (k2.mono fun _ _ e => by omega)
  have hfrom := (hb3.bs.from_ (P := Tryz.prog) Tryz.underlying58 info_u8 i (by rw [← HN.out]; omega)).2
  have hlenD : (l.drop i).length = N - i := by rw [List.length_drop, HN.out]
  obtain ⟨K, hK⟩ : ∃ K, K = min m (N - i) := ⟨_, rfl⟩
  have hlen : (Lib.byteCells ((l.drop i).take m)).length = K := by rw [Lib.byteCells_length, List.length_take, hlenD, hK]
  have hpos : 0 < (Lib.byteCells ((l.drop i).take m)).length → A = some ⟨g, o, none⟩ ∧ ∃ ad, cutA A0 c0 i = some ad ∧ ∀ j v, (Lib.byteCells ((l.drop i).take m))[j]? = some v → w3.cell? (ad.add j) = some v := by
    intro hp
    rw [hlen] at hp
    refine ⟨hA (by omega), ?_⟩
    rw [← HN.out] at hfrom
    obtain ⟨b, o', e, hcell⟩ := hfrom.at_ (by omega)
    refine ⟨_, e, fun j v hv => ?_⟩
    have hj : j < ((l.drop i).take m).length := by
      rcases Nat.lt_or_ge j ((l.drop i).take m).length with h | h
      · exact h
      · rw [List.getElem?_eq_none (by rw [Lib.byteCells_length]; exact h)] at hv; cases hv
    have ead : (⟨b, o', none⟩ : Addr).add j = ⟨b, o' + j, none⟩ := by by_cases h : j = 0 <;> simp [Addr.add, h]
    have hj2 : j < (l.drop i).length := by rw [List.length_take] at hj; omega
    rw [ead, hcell j hj2]
    simp only [Lib.byteCells, List.getElem?_map, List.getElem?_eq_getElem hj, Option.map_some, Option.some.injEq] at hv
    rw [← hv, List.getElem_take]
  have hn : (Lib.byteCells ((l.drop i).take m)).length = Nat.min (N - i) m := by rw [hlen, hK]; exact Nat.min_comm _ _
  have hfit2 : o + (Lib.byteCells ((l.drop i).take m)).length ≤ cur.length := by rw [hlen]; have := HF.out; omega
  have h1c := Lib.byteCells_one ((l.drop i).take m)
  have hrow4 : ∀ w4, Keep (fun k => k = g) w3 w4 → w4.heap[p]? = some (.cells #[.slice A0 N c0, .int .i64 i, .int .i64 (-1)] 121 (0, 0)) := fun w4 hk => hk.row hrow3 (by omega)
  refine wpList_copy_keep rfl (.tmp 20) (.tmp 29) 58 58 rfl 5 Tryz.underlying58 hsz1 A (cutA A0 c0 i) m c (N - i) (c0 - i) rfl rfl g o cur t hg3 _ hn hpos hfit2 h1c ?_
  intro w4 hg4 hk4
  have hr4 := hrow4 w4 hk4
  have h1 : w4.cell? ⟨p, 1, none⟩ = some (.int .i64 i) := by rw [cell_of_row' (cur := [_, _, _]) hr4]; rfl
  have f1 : w4.frozen? ⟨p, 1, none⟩ = false := frozen_of_row' (cur := [_, _, _]) hr4 1
  rw [hlen]
  have HR4 := Lib.hid hr4
  have HB3 := Lib.hid hb3
  have HK := Lib.hid hK
  have hKN : i + K ≤ N := by omega
  clear hr4 hrow4 hb3 hfrom hlenD hlen hpos hn hfit2 h1c hg3 hrow3 hA hK
  go_wp2
  go_ret2
  have eK2 : min m (l.length - i) = K := by rw [← HN.out, HK.out]
  rw [eK2]
  have hk5 : Keep (fun k => k = p ∨ k = g) w4 (w4.setCell ⟨p, 1, none⟩ (.int .i64 ((i : Int) + K))) := Keep.setCell (Keep.refl _ _) (Or.inl rfl) _ _
  have hk3 : Keep (fun k => k = p ∨ k = g) w3 (w4.setCell ⟨p, 1, none⟩ (.int .i64 ((i : Int) + K))) := (hk4.mono fun _ _ h => Or.inr h).trans hk5
  refine ⟨rfl, ⟨⟨-1, ?_⟩, ?_, ?_, ?_⟩, Lib.hid ?_, ?_⟩
  · have h := Lib.heap_setCell_same (i := 1) HR4.out (.int .i64 ((i : Int) + K))
    rw [← HN.out]
    rw [h]; rfl
  · exact HB3.out.keep (hk3.mono fun _ _ h => by omega)
  · rw [← HN.out]; exact hKN
  · rw [← HN.out]; exact hfits
  · rw [← hg4.out]; exact Below.heap_setCell _ _ _ _ (by show g ≠ p; omega)
  · exact (k2.mono fun _ _ h => Or.inl h).trans hk3

set_option maxRecDepth 100000 in
set_option maxHeartbeats 1000000 in
/-- Behind the last byte the end is told. -/
theorem rdRead_end (p m c : Nat) (v : Value) (l : List UInt8) (i : Nat) (A : Option Addr) (w : World) (hr : Rdr w p v l i) (hi : i = l.length) (e0 : Addr) (he : ErrAt p w 0 e0) :
    Calls Tryz.prog 148 #[.pointer (some ⟨p, 0, none⟩), .slice A m c] w fun e w' => e = .returned (.tuple #[.int .i64 0, errV e0]) ∧ Keep (fun _ => False) w w' := by
  obtain ⟨⟨r, hrow⟩, ⟨⟨A0, c0, rfl, hc0, hcl⟩, hout⟩, hle, hfits⟩ := hr
  have h0 : w.cell? ⟨p, 0, none⟩ = some (.slice A0 l.length c0) := by rw [cell_of_row' (cur := [_, _, _]) hrow]; rfl
  have h1 : w.cell? ⟨p, 1, none⟩ = some (.int .i64 i) := by rw [cell_of_row' (cur := [_, _, _]) hrow]; rfl
  have he := he.cell
  clear hcl hout hle hc0 hrow
  go_enter Tryz.func148, Tryz.ntmps148
  go_wp2
  go_quiet (fail)
  go_wp2
  go_quiet (fail)
  go_wp2
  go_ret2
  exact ⟨rfl, (keep_drewN _ _ _).drewN _⟩

theorem nil_rdRead (a : Addr) (w : World) : (nilAhead 381 72 (.pointer (some a)) "Read").run Tryz.prog w = .ok (some false) w := by kernel_rfl
theorem method_rdRead (a : Addr) (w : World) : (method 381 72 (.pointer (some a)) "Read").run Tryz.prog w = .ok (148, .pointer (some a)) w := by kernel_rfl

abbrev rdV (p : Nat) : Value := .iface 72 (.pointer (some ⟨p, 0, none⟩))

set_option maxRecDepth 100000 in
set_option maxHeartbeats 1000000 in
theorem rdAtLeast_ok (p g n c : Nat) (v : Value) (l : List UInt8) (i : Nat) (cur : List Value) (t : TypeId) (w : World) (hr : Rdr w p v l i) (hpg : p < g)
    (hg : w.heap[g]? = some (.cells cur.toArray t (0, 0))) (hn0 : 0 < n) (hn : cur.length = n) (hi : i + n ≤ l.length) :
    Calls Tryz.prog 93 #[rdV p, .slice (some ⟨g, 0, none⟩) n c, .int .i64 n] w fun e w' => e = .returned (.tuple #[.int .i64 n, .nilIface]) ∧ Rdr w' p v l (i + n) ∧
      Hid (w'.heap[g]? = some (.cells (Lib.byteCells ((l.drop i).take n)).toArray t (0, 0))) ∧ Keep (fun k => k = p ∨ k = g) w w' := by
  have hL := hr.fits
  have HR := Lib.hid (rdRead_some p g 0 n c v l i cur t (some ⟨g, 0, none⟩) w.drew hr.drew (by omega) hpg hg (fun _ => rfl) (by omega))
  have HRd := Lib.hid hr
  have b1 : n ≤ 9223372036854775807 := by omega
  have hmin : min n (l.length - i) = n := by omega
  have HMIN := Lib.hid hmin
  have hlen : (Lib.byteCells ((l.drop i).take n)).length = cur.length := by rw [Lib.byteCells_length, List.length_take, List.length_drop]; omega
  have HLEN := Lib.hid hlen
  clear hlen
  have hsl := fun W => run_from (P := Tryz.prog) Tryz.underlying58 info_u8 (some ⟨g, 0, none⟩) n c 0 (by omega) W
  have hmf : ∀ (fn : Fn) (first cap : Array Value) (w : World), (Instr.makeFunc fn first cap).run Tryz.prog w = .ok (.func fn first cap) w := fun _ _ _ _ => rfl
  clear hr hg hn hmin hi hL
  go_enter Tryz.func93, Tryz.ntmps93
  go_wp2
  refine wp_loop_rounds 2 ?_
  rw [rounds_succ]
  go_wp2_with fail
  have hna := fun w => nil_rdRead ⟨p, 0, none⟩ w
  have hme := fun w => method_rdRead ⟨p, 0, none⟩ w
  go_region_with (go_at_call 148; refine HR.out.mono ?_; rw [HMIN.out]; rintro e w1 ⟨rfl, hr1, hg1, hk1⟩)
  go_wp2
  rw [rounds_succ]
  go_wp2
  go_ret2
  refine ⟨rfl, hr1, ?_, (keep_drew _ w).trans hk1⟩
  rw [splice_whole _ _ HLEN.out] at hg1
  exact hg1

set_option maxRecDepth 100000 in
set_option maxHeartbeats 1000000 in
theorem rdAtLeast_end (p n c g : Nat) (v : Value) (l : List UInt8) (i : Nat) (w : World) (hr : Rdr w p v l i) (hn0 : 0 < n) (b1 : n ≤ 9223372036854775807) (hi : i = l.length) (e0 : Addr) (he : ErrAt p w 0 e0) :
    Calls Tryz.prog 93 #[rdV p, .slice (some ⟨g, 0, none⟩) n c, .int .i64 n] w fun e w' => e = .returned (.tuple #[.int .i64 0, errV e0]) ∧ Keep (fun _ => False) w w' := by
  have HR := Lib.hid (rdRead_end p n c v l i (some ⟨g, 0, none⟩) w.drew hr.drew hi e0 he.drew)
  have hsl := fun W => run_from (P := Tryz.prog) Tryz.underlying58 info_u8 (some ⟨g, 0, none⟩) n c 0 (by omega) W
  have hmf : ∀ (fn : Fn) (first cap : Array Value) (w : World), (Instr.makeFunc fn first cap).run Tryz.prog w = .ok (.func fn first cap) w := fun _ _ _ _ => rfl
  have hna := fun w => nil_rdRead ⟨p, 0, none⟩ w
  have hme := fun w => method_rdRead ⟨p, 0, none⟩ w
  have he := he.cell
  clear hr hi
  go_enter Tryz.func93, Tryz.ntmps93
  go_wp2
  refine wp_loop_rounds 2 ?_
  rw [rounds_succ]
  go_wp2_with fail
  go_region_with (go_at_call 148; refine HR.out.mono ?_; rintro e w1 ⟨rfl, hk1⟩)
  go_wp2
  rw [rounds_succ]
  go_wp2
  go_ret2
  exact ⟨rfl, (keep_drew _ w).trans hk1⟩
end Go.Proofs.YtglkonccinpdnaaGreatDoor
