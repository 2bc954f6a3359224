/- Contracts, joined (Mem RdrMem IiPlain IiA). -/
import Derived.Below
import Derived.Deep.Draws
import Derived.Lib.ConvBytes
import Derived.Laws.BytesArg
import Derived.Laws.IdiomCopy
import Derived.Laws.Rows
import Derived.Laws.MakeOwn
import Derived.Lib.VarintMem
import Derived.Lib.Hide
import Derived.Laws.CopyOwn
import Derived.Lib.BufferMore
import Derived.Laws.Slices
import Derived.Shelf.Bytes.SlSmallAll
import Derived.Laws.ResultCell
import Derived.Laws.CopyRow
import Derived.Test.YthehmnpbepmnpaaGreatDoorRProg
import Derived.WalkKit
import Derived.RegionTactic
import Derived.ChangeAlike
import Derived.Deep.QuietTactic
import Derived.BigQuiet
import Derived.Outline
/- Words on memory for the proofs of this seat: a slice that reads as bytes, what a call leaves as it was. No program in sight. -/
namespace Go.Proofs.YthehmnpbepmnpaaGreatDoorR
open Go.RowKit

theorem below_drewN (B : Nat) (w : World) (n : Nat) : Below B w (w.drewN n) := ⟨rfl, rfl, rfl, Nat.le_refl _, fun _ _ => rfl⟩
theorem _root_.Go.RowKit.Below.drewN {B : Nat} {a w : World} (h : Below B a w) (n : Nat) : Below B a (w.drewN n) := h.trans (below_drewN B w n)
/-- The frame from call to call: each call leaves below ITS heap's size all as it was. -/
theorem below_next {w a b : World} (h : Below w.heap.size w a) (k : Below a.heap.size a b) : Below w.heap.size w b := h.trans (k.mono h.size)
theorem below_cell {w w' : World} (h : Below w.heap.size w w') {p : Addr} {v : Value} (hc : w.cell? p = some v) : w'.cell? p = some v := by
  rcases Nat.lt_or_ge p.block w.heap.size with hp | hp
  · exact (h.cell hp).trans hc
  · unfold World.cell? at hc; rw [Array.getElem?_eq_none hp] at hc; cases hc
theorem block_of_cell {w : World} {p : Addr} {v : Value} (hc : w.cell? p = some v) : p.block < w.heap.size := by
  rcases Nat.lt_or_ge p.block w.heap.size with hp | hp
  · exact hp
  · unfold World.cell? at hc; rw [Array.getElem?_eq_none hp] at hc; cases hc

theorem ba_append (a b : ByteArray) : (a ++ b).data.toList = a.data.toList ++ b.data.toList := by
  obtain ⟨⟨l⟩⟩ := a
  obtain ⟨⟨r⟩⟩ := b
  simp
theorem ba_len (a : ByteArray) : a.data.toList.length = a.size := by rw [Array.length_toList]; rfl
theorem ba_mk (a : ByteArray) : (⟨a.data.toList.toArray⟩ : ByteArray) = a := by obtain ⟨⟨l⟩⟩ := a; rfl

/-- The slice value v holds the bytes l (nil and empty let in). -/
def BS (w : World) (v : Value) (l : List UInt8) : Prop :=
  ∃ (A : Option Addr) (c : Nat), v = .slice A l.length c ∧ l.length ≤ c ∧
    (0 < l.length → ∃ b o, A = some ⟨b, o, none⟩ ∧ ∀ j (h : j < l.length), w.cell? ⟨b, o + j, none⟩ = some (.int .u8 (l[j].toNat)))

theorem BS.keep {w w' : World} {v : Value} {l : List UInt8} (h : BS w v l) (hk : ∀ p u, w.cell? p = some u → w'.cell? p = some u) : BS w' v l := by
  obtain ⟨A, c, e, hc, h⟩ := h
  refine ⟨A, c, e, hc, fun hl => ?_⟩
  obtain ⟨b, o, e, h⟩ := h hl
  exact ⟨b, o, e, fun j hj => hk _ _ (h j hj)⟩
theorem BS.below {w w' : World} {v : Value} {l : List UInt8} (h : BS w v l) (hb : Below w.heap.size w w') : BS w' v l := h.keep fun _ _ hc => below_cell hb hc
theorem BS.drewN {w : World} {v : Value} {l : List UInt8} (h : BS w v l) (n : Nat) : BS (w.drewN n) v l := h
theorem BS.nil (w : World) (c : Nat) : BS w (.slice none 0 c) [] := ⟨none, c, rfl, Nat.zero_le _, fun h => absurd h (by simp)⟩
theorem BS.of_cells {w : World} {b o c : Nat} {l : List UInt8} (hc : l.length ≤ c) (h : ∀ j (h : j < l.length), w.cell? ⟨b, o + j, none⟩ = some (.int .u8 (l[j].toNat))) : BS w (.slice (some ⟨b, o, none⟩) l.length c) l :=
  ⟨_, c, rfl, hc, fun _ => ⟨b, o, rfl, h⟩⟩

section
variable {P : Program}
/-- '[]byte(s)': a new row with the bytes of s, told by what it is good for. -/
theorem conv_bytes {src dst e : TypeId} (hs : P.underlying src = some .string) (hd : P.underlying dst = some (.slice e)) (he : P.underlying e = some (.int .u8)) (w : World) (s : ByteArray) :
    ∃ c w1, (convert src dst (.string s)).run P w = .ok (.slice (some ⟨w.heap.size, 0, none⟩) s.size c) w1 ∧ s.size ≤ c ∧ Below w.heap.size w w1 ∧ w1.heap.size = w.heap.size + 1 ∧
      (∃ m, w1.heap[w.heap.size]? = some (.cells (Lib.bytesCells w e s) e m)) ∧
      ∀ j (h : j < s.data.toList.length), w1.cell? ⟨w.heap.size, 0 + j, none⟩ = some (.int .u8 (s.data.toList[j].toNat)) := by
  have hcap : s.size ≤ grownCap w s.size 0 e := grownCap_ge _ _ _ _
  refine ⟨_, _, Lib.run_convert_string_bytes w src dst e s hs hd he, hcap, ⟨?_, ?_, ?_, ?_, ?_⟩, Lib.bytesWorld_size w e s, ⟨_, Lib.bytesWorld_at_new w e s⟩, ?_⟩
  · simp [Lib.bytesWorld, World.freeze, World.alloc, World.drew, -World.alloc_eq, -World.drew_eq]
  · simp [Lib.bytesWorld, World.freeze, World.alloc, World.drew, -World.alloc_eq, -World.drew_eq]
  · simp [Lib.bytesWorld, World.freeze, World.alloc, World.drew, -World.alloc_eq, -World.drew_eq]
  · rw [Lib.bytesWorld_size]; omega
  · exact fun k hk => Lib.bytesWorld_at_old w e s k hk
  · intro j hj
    rw [Nat.zero_add, Lib.bytesWorld_cell w e s j (by show j < s.data.size; rw [← Array.length_toList]; exact hj)]
    rw [List.getD, List.getElem?_eq_getElem hj]; rfl
end
/-- Only block g has turned, and no block is new. -/
structure Turn (g : Nat) (w w' : World) : Prop where
  os : w'.os = w.os
  tape : w'.tape = w.tape
  output : w'.output = w.output
  size : w'.heap.size = w.heap.size
  block : ∀ k, k ≠ g → w'.heap[k]? = w.heap[k]?
theorem Turn.below {g B : Nat} {w w' : World} (h : Turn g w w') (hB : B ≤ g) : Below B w w' :=
  ⟨h.os, h.tape, h.output, by rw [h.size]; exact Nat.le_refl _, fun k hk => h.block k (by omega)⟩
theorem Turn.trans {g : Nat} {a b c : World} (h : Turn g a b) (k : Turn g b c) : Turn g a c :=
  ⟨k.os.trans h.os, k.tape.trans h.tape, k.output.trans h.output, k.size.trans h.size, fun i hi => (k.block i hi).trans (h.block i hi)⟩
theorem Turn.refl (g : Nat) (w : World) : Turn g w w := ⟨rfl, rfl, rfl, rfl, fun _ _ => rfl⟩
theorem turn_setCell (g o : Nat) (w : World) (v : Value) : Turn g w (w.setCell ⟨g, o, none⟩ v) :=
  ⟨rfl, rfl, rfl, by simp [World.setCell], fun k hk => Below.heap_setCell _ _ _ _ hk⟩
theorem turn_setCells (g : Nat) : ∀ (vs : List Value) (o : Nat) (w : World), Turn g w (w.setCells g o vs)
  | [], _, w => Turn.refl g w
  | v :: r, o, w => (turn_setCell g o w v).trans (turn_setCells g r (o + 1) _)
theorem Turn.cell {g : Nat} {w w' : World} (h : Turn g w w') {p : Addr} (hp : p.block ≠ g) : w'.cell? p = w.cell? p := World.cell?_of_block (w := w) (h.block p.block hp)

theorem splice_get {α : Type} (L : List α) (off : Nat) (cs : List α) (h : off + cs.length ≤ L.length) (i : Nat) :
    (splice L off cs)[i]? = if off ≤ i ∧ i < off + cs.length then cs[i - off]? else L[i]? := by
  have e : (L.take off).length = off := by rw [List.length_take]; omega
  unfold splice
  by_cases h1 : i < off
  · rw [List.getElem?_append_left (by omega), List.getElem?_take_of_lt h1, if_neg (by omega)]
  · rw [List.getElem?_append_right (by omega), e]
    by_cases h2 : i < off + cs.length
    · rw [List.getElem?_append_left (by omega), if_pos (by omega)]
    · rw [List.getElem?_append_right (by omega), if_neg (by omega), List.getElem?_drop]
      congr 1; omega

/-- Cells laid over a known row. -/
theorem row_setCells {g : Nat} {t : TypeId} {m : Nat × Nat} : ∀ (vs : List Value) (o : Nat) (cur : List Value) (w : World), w.heap[g]? = some (.cells cur.toArray t m) → o + vs.length ≤ cur.length →
    (w.setCells g o vs).heap[g]? = some (.cells (splice cur o vs).toArray t m)
  | [], o, cur, w, h, _ => by simpa [World.setCells, splice] using h
  | v :: r, o, cur, w, h, hf => by
    have h1 := Lib.heap_setCell_same (i := o) h v
    simp only [List.setIfInBounds_toArray] at h1
    simp only [List.length_cons] at hf
    have hl : o + 1 + r.length ≤ (cur.set o v).length := by rw [List.length_set]; omega
    have h2 := row_setCells r (o + 1) (cur.set o v) (w.setCell ⟨g, o, none⟩ v) h1 hl
    rw [World.setCells, h2]
    congr 3
    apply List.ext_getElem?
    intro i
    rw [splice_get _ _ _ hl, splice_get _ _ _ (by simp only [List.length_cons]; omega), List.getElem?_set]
    simp only [List.length_cons]
    by_cases h3 : i = o
    · subst h3
      rw [if_neg (by omega), if_pos rfl, if_pos (by omega), if_pos (by omega)]; simp
    · by_cases h4 : o + 1 ≤ i ∧ i < o + 1 + r.length
      · rw [if_pos h4, if_pos (by omega), show i - o = (i - (o + 1)) + 1 by omega]; simp
      · rw [if_neg h4, if_neg (by omega), if_neg (by omega)]

theorem cell_of_row' {w : World} {g : Nat} {cur : List Value} {t : TypeId} {m : Nat × Nat} (h : w.heap[g]? = some (.cells cur.toArray t m)) (i : Nat) : w.cell? ⟨g, i, none⟩ = cur[i]? := by
  simp [World.cell?, h]
theorem frozen_of_row' {w : World} {g : Nat} {cur : List Value} {t : TypeId} (h : w.heap[g]? = some (.cells cur.toArray t (0, 0))) (i : Nat) : w.frozen? ⟨g, i, none⟩ = false := by
  simp [World.frozen?, h]

section
variable {P : Program}
/-- 'make([]byte, n)': a new row of zeros. -/
theorem make_bytes {t e : TypeId} (ht : P.underlying t = some (.slice e)) (hinfo : (P.info? e).map (fun i => (i.zero, i.size, i.bytes)) = some (some (.int .u8 0), 1, 1)) (w : World) (n : Nat) (hn : n ≤ 281474976710656) :
    ∃ w1, (Instr.makeSlice t (.int .i64 (n : Int)) (.int .i64 (n : Int))).run P w = .ok (.slice (some ⟨w.heap.size, 0, none⟩) n n) w1 ∧ Below w.heap.size w w1 ∧ w1.heap.size = w.heap.size + 1 ∧
      w1.heap[w.heap.size]? = some (.cells (List.replicate n (Value.int .u8 0)).toArray e (0, 0)) := by
  obtain ⟨i, hi, h2⟩ := Option.map_eq_some_iff.1 hinfo
  simp only [Prod.mk.injEq] at h2
  obtain ⟨hz, hsz, hby⟩ := h2
  have hr := run_make (P := P) w t e i _ ht hi hz .i64 .i64 (n : Int) (n : Int) (by omega) (by omega) (by rw [hby]; omega) (by omega)
  simp only [Int.toNat_natCast, hsz, Nat.mul_one] at hr
  refine ⟨_, hr, (Below.refl _ _).alloc (Nat.le_refl _) _, by simp, ?_⟩
  rw [heap_alloc_new]
  congr 2
  apply Array.ext
  · simp [size_madeCells]
  · intro j h1 h2
    have h0 : [Value.int IntKind.u8 0][j % 1]?.getD default = Value.int IntKind.u8 0 := by rw [Nat.mod_one]; rfl
    simp [madeCells, Value.cells, h0]

theorem strOfNums_bytes (l : List UInt8) : strOfNums (l.map fun b => (b.toNat : Int)) = ⟨l.toArray⟩ := by
  unfold strOfNums
  congr 2
  rw [List.map_map]
  conv => rhs; rw [← List.map_id l]
  apply List.map_congr_left
  intro x _
  simp

/-- 'string(b)': the bytes that the slice holds. -/
theorem BS.str {src e dst : TypeId} (hs : P.underlying src = some (.slice e)) (he : P.underlying e = some (.int .u8)) (hd : P.underlying dst = some .string) {w : World} {A : Option Addr} {n c : Nat} {l : List UInt8}
    (h : BS w (.slice A n c) l) : (convert src dst (.slice A n c)).run P w = .ok (.string ⟨l.toArray⟩) w := by
  obtain ⟨A', c', e1, _, h⟩ := h
  injection e1 with e1 e2 e3
  subst e1 e2 e3
  rcases Nat.eq_zero_or_pos l.length with h0 | h0
  · have hl : l = [] := List.eq_nil_of_length_eq_zero h0
    subst hl
    exact run_convert_bytes_zero w src e hs he A c dst hd
  · obtain ⟨b, o, rfl, hcl⟩ := h h0
    have := run_convert_bytes_arg (P := P) w src e hs he b o l.length c (l.map fun b => (b.toNat : Int)) (by simp) (fun i hi => by
      rw [hcl i hi]; simp [List.getD, List.getElem?_map, List.getElem?_eq_getElem hi]) dst hd
    rw [this, strOfNums_bytes]
/-- A row of the call's own whose head holds the bytes. -/
theorem BS.of_row {w : World} {g c : Nat} {t : TypeId} {m : Nat × Nat} {l : List UInt8} (h : w.heap[g]? = some (.cells (Lib.byteCells l).toArray t m)) (hc : l.length ≤ c) : BS w (.slice (some ⟨g, 0, none⟩) l.length c) l :=
  BS.of_cells hc fun j hj => by rw [Nat.zero_add, cell_of_row' h]; simp [Lib.byteCells, List.getElem?_eq_getElem hj]
theorem BS.slice {w : World} {A : Option Addr} {n c : Nat} {l : List UInt8} (h : BS w (.slice A n c) l) : n = l.length ∧ l.length ≤ c := by
  obtain ⟨A', c', e1, h1, _⟩ := h
  injection e1 with e1 e2 e3
  exact ⟨e2, by rw [e3]; exact h1⟩
theorem BS.at_ {w : World} {A : Option Addr} {n c : Nat} {l : List UInt8} (h : BS w (.slice A n c) l) (h0 : 0 < n) :
    ∃ b o, A = some ⟨b, o, none⟩ ∧ ∀ j (h : j < l.length), w.cell? ⟨b, o + j, none⟩ = some (.int .u8 (l[j].toNat)) := by
  obtain ⟨A', c', e1, h1, h2⟩ := h
  injection e1 with e1 e2 e3
  subst e1
  exact h2 (by omega)

/-- 's[i]' of a string that is told by its bytes. -/
theorem idx_str {t : TypeId} (ht : P.underlying t = some .string) (u : List UInt8) (i : Nat) (c : UInt8) (h : u[i]? = some c) (x : Int) (hx : x = i) (W : World) :
    (Instr.index t (.string ⟨u.toArray⟩) (.int .i64 x)).run P W = .ok (.int .u8 (c.toNat : Int)) W := by
  subst hx
  obtain ⟨hi, hc⟩ := List.getElem?_eq_some_iff.1 h
  have hi' : (0 : Int) ≤ (i : Int) ∧ (i : Int) < ((⟨u.toArray⟩ : ByteArray).size : Int) := ⟨by omega, by show (i : Int) < ((u.toArray.size : Nat) : Int); simp; omega⟩
  rw [run_index_string (P := P) W t ⟨u.toArray⟩ .i64 (i : Int) ht, dif_pos hi']
  congr 3
  rw [← hc]; rfl

theorem run_size {e : TypeId} (hsz : (P.info? e).map (fun i => (i.zero, i.size, i.bytes)) = some (some (.int .u8 0), 1, 1)) (w : World) : (sizeOf e).run P w = .ok 1 w := by
  obtain ⟨i, hi, h2⟩ := Option.map_eq_some_iff.1 hsz
  simp only [Prod.mk.injEq] at h2
  simp [sizeOf, typeInfo, hi, h2.2.1]

/-- Where 's[k:]' begins. -/
def cutA (A : Option Addr) (c k : Nat) : Option Addr := if c = k then A else A.map (·.add (k * 1))

/-- 's[k:]'. -/
theorem BS.from_ {t e : TypeId} (ht : P.underlying t = some (.slice e)) (hsz : (P.info? e).map (fun i => (i.zero, i.size, i.bytes)) = some (some (.int .u8 0), 1, 1)) {w : World} {A : Option Addr} {n c : Nat} {l : List UInt8} (h : BS w (.slice A n c) l) (k : Nat) (hk : k ≤ n) :
    (∀ W, (Instr.slice t (.slice A n c) (some (.int .i64 (k : Int))) none none).run P W = .ok (.slice (cutA A c k) (n - k) (c - k)) W) ∧ BS w (.slice (cutA A c k) (n - k) (c - k)) (l.drop k) := by
  obtain ⟨hn, hc⟩ := h.slice
  have ht' : P.underlying t = some (.slice (P.elem t)) := by simp [Program.elem, ht]
  have he : P.elem t = e := by simp [Program.elem, ht]
  refine ⟨fun W => ?_, ?_⟩
  · rw [run_slice_l W t _ _ _ ht' .i64 _ (by omega) (by omega), he, run_size hsz, Int.toNat_natCast]; rfl
  · have e1 : n - k = (l.drop k).length := by simp; omega
    refine ⟨_, c - k, by rw [e1], by rw [← e1]; omega, fun h0 => ?_⟩
    obtain ⟨b, o, rfl, hcell⟩ := h.at_ (by omega)
    unfold cutA
    rw [if_neg (by omega)]
    refine ⟨b, o + k, ?_, fun j hj => ?_⟩
    · by_cases hk0 : k = 0
      · subst hk0; simp [Addr.add]
      · simp [Addr.add, hk0]
    · rw [Nat.add_assoc, hcell (k + j) (by simp at hj; omega), List.getElem_drop]

/-- 's[:k]'. -/
theorem BS.to_ {t e : TypeId} (ht : P.underlying t = some (.slice e)) (hsz : (P.info? e).map (fun i => (i.zero, i.size, i.bytes)) = some (some (.int .u8 0), 1, 1)) {w : World} {A : Option Addr} {n c : Nat} {l : List UInt8} (h : BS w (.slice A n c) l) (k : Nat) (hk : k ≤ n) :
    (∀ W, (Instr.slice t (.slice A n c) none (some (.int .i64 (k : Int))) none).run P W = .ok (.slice A k c) W) ∧ (∀ W, (Instr.slice t (.slice A n c) none (some (.int .u64 (k : Int))) none).run P W = .ok (.slice A k c) W) ∧ BS w (.slice A k c) (l.take k) := by
  obtain ⟨hn, hc⟩ := h.slice
  have ht' : P.underlying t = some (.slice (P.elem t)) := by simp [Program.elem, ht]
  have he : P.elem t = e := by simp [Program.elem, ht]
  have hz : sliced A 0 k c 1 = .slice A k c := by
    unfold sliced
    congr 1
    by_cases h0 : c = 0
    · rw [if_pos h0]
    · rw [if_neg h0]; cases A <;> simp [Addr.add]
  refine ⟨fun W => ?_, fun W => ?_, ?_⟩
  · rw [run_slice_h W t _ _ _ ht' .i64 _ (by omega) (by omega), he, run_size hsz, Int.toNat_natCast]; exact congrArg (fun v => Result.ok v W) hz
  · rw [run_slice_h W t _ _ _ ht' .u64 _ (by omega) (by omega), he, run_size hsz, Int.toNat_natCast]; exact congrArg (fun v => Result.ok v W) hz
  · have e1 : k = (l.take k).length := by simp; omega
    refine ⟨A, c, by rw [← e1], by rw [← e1]; omega, fun h0 => ?_⟩
    obtain ⟨b, o, rfl, hcell⟩ := h.at_ (by omega)
    exact ⟨b, o, rfl, fun j hj => by rw [hcell j (by simp at hj; omega), List.getElem_take]⟩

/-- Two results, the first a struct in a block that is known whole. -/
theorem results_row_tmp {fn : Func} {p u : Tmp} {ty : TypeId} (h : fn.results = #[.cell p ty, .tmp u]) (tmps : Array Value) (w : World) (g : Nat) (t : TypeId) (cs : Array Value) (fr : Nat × Nat) (d : TypeDesc)
    (hp : tmps.getD p undef = .pointer (some ⟨g, 0, none⟩)) (hg : w.heap[g]? = some (.cells cs t fr))
    (hu : P.underlying ty = some d) (hd : (match d with | .struct _ | .array _ _ => true | _ => false) = true) (hi : (P.info? ty).map (·.size) = some cs.size) :
    (results fn tmps).run P w = .ok (.tuple #[.agg cs, tmps.getD u undef]) w := by
  rw [results_cell_tmp h, hp]
  simp [asAddr, run_loadVar_row w g t ty cs fr d hg hu hd hi, Result.andThen]
/-- A row that a call below which it lies has left alone. -/
theorem row_below {w w' : World} {B g : Nat} {o : Obj} (hb : Below B w w') (hg : g < B) (h : w.heap[g]? = some o) : w'.heap[g]? = some o := (hb.block g hg).trans h

/-- 's[k:]', whatever it holds. -/
theorem run_from {t e : TypeId} (ht : P.underlying t = some (.slice e)) (hsz : (P.info? e).map (fun i => (i.zero, i.size, i.bytes)) = some (some (.int .u8 0), 1, 1)) (A : Option Addr) (n c k : Nat) (hk : k ≤ n) (W : World) :
    (Instr.slice t (.slice A n c) (some (.int .i64 (k : Int))) none none).run P W = .ok (.slice (cutA A c k) (n - k) (c - k)) W := by
  have ht' : P.underlying t = some (.slice (P.elem t)) := by simp [Program.elem, ht]
  have he : P.elem t = e := by simp [Program.elem, ht]
  rw [run_slice_l W t _ _ _ ht' .i64 _ (by omega) (by omega), he, run_size hsz, Int.toNat_natCast]; rfl
theorem cutA_own (g o c k : Nat) (h : k < c) : cutA (some ⟨g, o, none⟩) c k = some ⟨g, o + k, none⟩ := by
  unfold cutA
  rw [if_neg (by omega)]
  by_cases hk : k = 0 <;> simp [Addr.add, hk]
end
end Go.Proofs.YthehmnpbepmnpaaGreatDoorR
/- Words on memory for readers: what is kept but for some blocks; a slice and a reader that stands somewhere in it. -/
namespace Go.Proofs.YthehmnpbepmnpaaGreatDoorR
open Go.RowKit

/-- All blocks that were there, but those of S, are as they were. -/
structure Keep (S : Nat → Prop) (w w' : World) : Prop where
  os : w'.os = w.os
  tape : w'.tape = w.tape
  output : w'.output = w.output
  size : w.heap.size ≤ w'.heap.size
  block : ∀ k, k < w.heap.size → ¬ S k → w'.heap[k]? = w.heap[k]?

theorem Keep.refl (S : Nat → Prop) (w : World) : Keep S w w := ⟨rfl, rfl, rfl, Nat.le_refl _, fun _ _ _ => rfl⟩
theorem Keep.trans {S : Nat → Prop} {a b c : World} (h : Keep S a b) (k : Keep S b c) : Keep S a c :=
  ⟨k.os.trans h.os, k.tape.trans h.tape, k.output.trans h.output, Nat.le_trans h.size k.size, fun i hi hs => (k.block i (Nat.lt_of_lt_of_le hi h.size) hs).trans (h.block i hi hs)⟩
theorem Keep.mono {S T : Nat → Prop} {a b : World} (h : Keep S a b) (k : ∀ i, i < a.heap.size → S i → T i) : Keep T a b :=
  ⟨h.os, h.tape, h.output, h.size, fun i hi hs => h.block i hi fun hS => hs (k i hi hS)⟩
/-- What the second part may turn of old blocks, the first may. -/
theorem Keep.trans2 {S T : Nat → Prop} {a b c : World} (h : Keep S a b) (k : Keep T b c) (hT : ∀ i, i < a.heap.size → T i → S i) : Keep S a c :=
  ⟨k.os.trans h.os, k.tape.trans h.tape, k.output.trans h.output, Nat.le_trans h.size k.size, fun i hi hs => (k.block i (Nat.lt_of_lt_of_le hi h.size) fun hh => hs (hT i hi hh)).trans (h.block i hi hs)⟩
theorem _root_.Go.RowKit.Below.keep {S : Nat → Prop} {w w' : World} (h : Below w.heap.size w w') : Keep S w w' :=
  ⟨h.os, h.tape, h.output, h.size, fun k hk _ => h.block k hk⟩
theorem Keep.below {S : Nat → Prop} {B : Nat} {w w' : World} (h : Keep S w w') (hS : ∀ k, k < B → ¬ S k) (hB : B ≤ w.heap.size) : Below B w w' :=
  ⟨h.os, h.tape, h.output, h.size, fun k hk => h.block k (by omega) (hS k hk)⟩
theorem Keep.drewN {S : Nat → Prop} {a w : World} (h : Keep S a w) (n : Nat) : Keep S a (w.drewN n) := h.trans ⟨rfl, rfl, rfl, Nat.le_refl _, fun _ _ _ => rfl⟩
theorem keep_drewN (S : Nat → Prop) (w : World) (n : Nat) : Keep S w (w.drewN n) := (Keep.refl S w).drewN n
theorem Keep.cell {S : Nat → Prop} {w w' : World} (h : Keep S w w') {p : Addr} {u : Value} (hc : w.cell? p = some u) (hp : ¬ S p.block) : w'.cell? p = some u :=
  (World.cell?_of_block (w := w) (h.block p.block (block_of_cell hc) hp)).trans hc
theorem block_of_row {w : World} {g : Nat} {o : Obj} (h : w.heap[g]? = some o) : g < w.heap.size := by
  rcases Nat.lt_or_ge g w.heap.size with hp | hp
  · exact hp
  · rw [Array.getElem?_eq_none hp] at h; cases h
theorem Keep.row {S : Nat → Prop} {w w' : World} (h : Keep S w w') {g : Nat} {o : Obj} (hg : w.heap[g]? = some o) (hs : ¬ S g) : w'.heap[g]? = some o := (h.block g (block_of_row hg) hs).trans hg
theorem Keep.setCell {S : Nat → Prop} {a w : World} (h : Keep S a w) {p : Nat} (hp : S p) (o : Nat) (v : Value) : Keep S a (w.setCell ⟨p, o, none⟩ v) :=
  h.trans2 (S := S) (T := fun k => k = p) ⟨rfl, rfl, rfl, by simp [World.setCell], fun k _ hk => Below.heap_setCell _ _ _ _ hk⟩ (fun i _ e => e ▸ hp)
theorem Keep.setRow {S : Nat → Prop} {a w : World} (h : Keep S a w) {p : Nat} (hp : S p) (cs : Array Value) : Keep S a (w.setRow p cs) :=
  h.trans2 (S := S) (T := fun k => k = p) ⟨rfl, rfl, rfl, by simp [World.setRow], fun k _ hk => setRow_other w p k cs hk⟩ (fun i _ e => e ▸ hp)
theorem Keep.alloc {S : Nat → Prop} {a w : World} (h : Keep S a w) (o : Obj) : Keep S a (w.alloc o) :=
  h.trans (((Below.refl _ _).alloc (Nat.le_refl _) _).keep)

/-- The slice value v holds the bytes l, in a block that is not S. -/
structure BSo (S : Nat → Prop) (w : World) (v : Value) (l : List UInt8) : Prop where
  bs : BS w v l
  out : 0 < l.length → ∀ A n c a, v = .slice A n c → A = some a → ¬ S a.block
theorem BSo.keep {S : Nat → Prop} {w w' : World} {v : Value} {l : List UInt8} (h : BSo S w v l) (hk : Keep S w w') : BSo S w' v l := by
  obtain ⟨⟨A, c, rfl, hc, h⟩, ho⟩ := h
  refine ⟨⟨A, c, rfl, hc, fun hl => ?_⟩, ho⟩
  obtain ⟨b, o, e0, h2⟩ := h hl
  subst e0
  exact ⟨b, o, rfl, fun j hj => hk.cell (h2 j hj) (ho hl (some ⟨b, o, none⟩) _ _ ⟨b, o, none⟩ rfl rfl)⟩

/-- 'copy(dst, src)' into a row that is known whole: only that row has turned. -/
theorem wpList_copy_keep {P : Program} {w : World} {ops : Array Oper} {rest : List Oper} {o : Oper} {a : Act} {Q : Exit → Act → World → Prop} (hgd : o.guard = none) (d s : Operand) (dT sT : TypeId)
    (ho : o.op = .call { callee := .builtin .copy, args := #[d, s], argTypes := #[dT, sT] }) (elem : TypeId) (hu : P.underlying dT = some (.slice elem)) (hsz : (P.info? elem).map (·.size) = some 1)
    (dp sp : Option Addr) (dLen dCap sLen sCap : Nat) (hd : a.eval d = .slice dp dLen dCap) (hs : a.eval s = .slice sp sLen sCap)
    (g off : Nat) (cur : List Value) (t : TypeId) (hg : w.heap[g]? = some (.cells cur.toArray t (0, 0))) (cs : List Value) (hn : cs.length = Nat.min sLen dLen)
    (hpos : 0 < cs.length → dp = some ⟨g, off, none⟩ ∧ ∃ ad, sp = some ad ∧ ∀ j v, cs[j]? = some v → w.cell? (ad.add j) = some v)
    (hfit : off + cs.length ≤ cur.length) (h1 : ∀ v ∈ cs, v.oneCell' = true)
    (h : ∀ w', Hid (w'.heap[g]? = some (.cells (splice cur off cs).toArray t (0, 0))) → Keep (fun k => k = g) w w' → wpList P ops Q rest (a.put o.dst (goInt cs.length)) w') :
    wpList P ops Q (o :: rest) a w := by
  by_cases h0 : cs.length = 0
  · obtain rfl : cs = [] := List.eq_nil_of_length_eq_zero h0
    refine wpList_copy_nothing hgd d s dT sT ho elem hu hsz dp sp dLen dCap sLen sCap hd hs (by simpa using hn.symm) ?_
    exact h w (show _ = _ by simpa [splice] using hg) (Keep.refl _ _)
  · obtain ⟨rfl, ad, rfl, hsrc⟩ := hpos (by omega)
    refine wpList_copy_own hgd d s dT sT ho elem hu hsz g off dLen dCap ad sLen sCap hd hs cur.toArray t hg cs hn hsrc (by simpa using hfit) h1 ?_
    exact h _ (show _ = _ by simpa [splice] using setRow_heap w g _ _ t _ hg) ((Keep.refl (fun k => k = g) w).setRow (p := g) rfl _)

/-- A reader in block p (of type t) that stands at byte i of the bytes l of the slice v; l does not lie in blocks from p on. -/
structure RdrT (t : TypeId) (w : World) (p : Nat) (v : Value) (l : List UInt8) (i : Nat) : Prop where
  row : ∃ r : Int, w.heap[p]? = some (.cells #[v, .int .i64 i, .int .i64 r] t (0, 0))
  bs : BSo (fun k => p ≤ k) w v l
  le : i ≤ l.length
  fits : l.length ≤ 9223372036854775807
theorem RdrT.keep {t : TypeId} {w w' : World} {p : Nat} {v : Value} {l : List UInt8} {i : Nat} (h : RdrT t w p v l i) {S : Nat → Prop} (hk : Keep S w w') (hS : ∀ k, S k → p < k) : RdrT t w' p v l i := by
  obtain ⟨⟨r, hr⟩, hb, hl, hf⟩ := h
  exact ⟨⟨r, hk.row hr (fun hh => Nat.lt_irrefl _ (hS _ hh))⟩, hb.keep (hk.mono fun i _ h => Nat.le_of_lt (hS i h)), hl, hf⟩
/-- The slice v of the bytes l does not lie in block h. -/
def OffBlock (v : Value) (l : List UInt8) (h : Nat) : Prop := 0 < l.length → ∀ A n c a, v = .slice A n c → A = some a → a.block ≠ h
/-- .. where the turned block is another one, and not where the bytes lie. -/
theorem RdrT.keep' {t : TypeId} {w w' : World} {p : Nat} {v : Value} {l : List UInt8} {i : Nat} (h : RdrT t w p v l i) {g : Nat} (hk : Keep (fun k => k = g) w w') (hS : g ≠ p) (hv : OffBlock v l g) : RdrT t w' p v l i := by
  obtain ⟨⟨r, hr⟩, hb, hl, hf⟩ := h
  refine ⟨⟨r, hk.row hr (fun hh => hS hh.symm)⟩, ⟨(BSo.keep (S := fun k => k = g) ⟨hb.bs, fun h0 A n c a e1 e2 => hv h0 A n c a e1 e2⟩ hk).bs, hb.out⟩, hl, hf⟩
theorem RdrT.below {t : TypeId} {w w' : World} {p : Nat} {v : Value} {l : List UInt8} {i : Nat} (h : RdrT t w p v l i) (hk : Below w.heap.size w w') : RdrT t w' p v l i := h.keep (S := fun _ => False) hk.keep (fun _ h => h.elim)
theorem RdrT.drew {t : TypeId} {w : World} {p : Nat} {v : Value} {l : List UInt8} {i : Nat} (h : RdrT t w p v l i) : RdrT t w.drew p v l i := h.keep (S := fun _ => False) ((Keep.refl _ w).drewN 1) (fun _ h => h.elim)
theorem keep_drew (S : Nat → Prop) (w : World) : Keep S w w.drew := (Keep.refl _ w).drewN 1
theorem splice_whole {α : Type} (L cs : List α) (h : cs.length = L.length) : splice L 0 cs = cs := by
  unfold splice
  rw [Nat.zero_add, h, List.drop_length]; simp
end Go.Proofs.YthehmnpbepmnpaaGreatDoorR
/- Plain law: trees that are turned as an LLRB tree turns them; an item put in; the items from a pivot on. -/
namespace Go.Proofs.YthehmnpbepmnpaaGreatDoorR

/-- Bytes ahead of bytes. -/
def blt : List UInt8 → List UInt8 → Bool
  | _, [] => false
  | [], _ :: _ => true
  | a :: al, b :: bs => if a < b then true else if b < a then false else blt al bs

theorem blt_nil_right (a : List UInt8) : blt a [] = false := by cases a <;> rfl
theorem blt_irrefl : ∀ a : List UInt8, blt a a = false
  | [] => rfl
  | a :: al => by
    rw [blt, if_neg (UInt8.lt_irrefl a), if_neg (UInt8.lt_irrefl a)]
    exact blt_irrefl al
theorem blt_asymm : ∀ a b : List UInt8, blt a b = true → blt b a = false
  | _, [], h => by rw [blt_nil_right] at h; cases h
  | [], _ :: _, _ => blt_nil_right _
  | a :: al, b :: bs, h => by
    rw [blt] at h ⊢
    by_cases h1 : a < b
    · rw [if_neg (fun h2 => UInt8.lt_irrefl a (UInt8.lt_trans h1 h2)), if_pos h1]
    · rw [if_neg h1] at h
      by_cases h2 : b < a
      · rw [if_pos h2] at h; cases h
      · rw [if_neg h2] at h
        rw [if_neg h2, if_neg h1]
        exact blt_asymm al bs h
theorem blt_total : ∀ a b : List UInt8, blt a b = false → blt b a = false → a = b
  | [], [], _, _ => rfl
  | [], _ :: _, h, _ => by cases h
  | _ :: _, [], _, h => by cases h
  | a :: al, b :: bs, h, k => by
    rw [blt] at h k
    by_cases h1 : a < b
    · rw [if_pos h1] at h; cases h
    · by_cases h2 : b < a
      · rw [if_pos h2] at k; cases k
      · rw [if_neg h1, if_neg h2] at h
        rw [if_neg h2, if_neg h1] at k
        have e : a = b := by
          have h1' := UInt8.not_lt.1 h1
          have h2' := UInt8.not_lt.1 h2
          exact UInt8.le_antisymm h2' h1'
        rw [e, blt_total al bs h k]
theorem blt_trans : ∀ a b c : List UInt8, blt a b = true → blt b c = true → blt a c = true
  | _, [], _, h, _ => by rw [blt_nil_right] at h; cases h
  | _, _ :: _, [], _, k => by rw [blt_nil_right] at k; cases k
  | [], _ :: _, _ :: _, _, _ => rfl
  | a :: al, b :: bs, c :: cs, h, k => by
    rw [blt] at h k ⊢
    by_cases h1 : a < b
    · by_cases k1 : b < c
      · rw [if_pos (UInt8.lt_trans h1 k1)]
      · rw [if_neg k1] at k
        by_cases k2 : c < b
        · rw [if_pos k2] at k; cases k
        · have e : b = c := UInt8.le_antisymm (UInt8.not_lt.1 k2) (UInt8.not_lt.1 k1)
          rw [← e, if_pos h1]
    · rw [if_neg h1] at h
      by_cases h2 : b < a
      · rw [if_pos h2] at h; cases h
      · rw [if_neg h2] at h
        have e : a = b := UInt8.le_antisymm (UInt8.not_lt.1 h2) (UInt8.not_lt.1 h1)
        by_cases k1 : b < c
        · rw [e, if_pos k1]
        · rw [if_neg k1] at k
          by_cases k2 : c < b
          · rw [if_pos k2] at k; cases k
          · rw [if_neg k2] at k
            rw [e, if_neg k1, if_neg k2]
            exact blt_trans al bs cs h k
/-- Not behind is transitive. -/
theorem ble_trans {a b c : List UInt8} (h : blt b a = false) (k : blt c b = false) : blt c a = false := by
  cases hc : blt c a with
  | false => rfl
  | true =>
    cases hab : blt a b with
    | true => rw [blt_trans _ _ _ hc hab] at k; cases k
    | false => rw [blt_total _ _ hab h] at hc; rw [hc] at k; cases k
theorem blt_of_lt_le {a b c : List UInt8} (h : blt a b = true) (k : blt c b = false) : blt a c = true := by
  cases hc : blt a c with
  | true => rfl
  | false => rw [ble_trans k hc] at h; cases h
theorem blt_of_le_lt {a b c : List UInt8} (h : blt b a = false) (k : blt b c = true) : blt a c = true := by
  cases hc : blt a c with
  | true => rfl
  | false => rw [ble_trans hc h] at k; cases k

/-- A tree: a node's number, its left side, its item, its right side, whether it is black. -/
inductive Tr (α : Type) where
  | nil : Tr α
  | node (p : Nat) (l : Tr α) (x : α) (r : Tr α) (b : Bool) : Tr α

namespace Tr
variable {α : Type}
def toList : Tr α → List α
  | nil => []
  | node _ l x r _ => l.toList ++ x :: r.toList
def blocks : Tr α → List Nat
  | nil => []
  | node p l _ r _ => p :: (l.blocks ++ r.blocks)
def red : Tr α → Bool
  | nil => false
  | node _ _ _ _ b => !b
def left : Tr α → Tr α
  | nil => nil
  | node _ l _ _ _ => l
def right : Tr α → Tr α
  | nil => nil
  | node _ _ _ r _ => r
def rotL : Tr α → Tr α
  | node p l x (node q rl y rr _) b => node q (node p l x rl false) y rr b
  | t => t
def rotR : Tr α → Tr α
  | node p (node q ll y lr _) x r b => node q ll y (node p lr x r false) b
  | t => t
def turn : Tr α → Tr α
  | nil => nil
  | node p l x r b => node p l x r (!b)
def flip : Tr α → Tr α
  | node p l x r b => node p l.turn x r.turn (!b)
  | t => t
def up1 (t : Tr α) : Tr α := if t.right.red = true ∧ t.left.red = false then t.rotL else t
def up2 (t : Tr α) : Tr α := if t.left.red = true ∧ t.left.left.red = true then t.rotR else t
def up3 (t : Tr α) : Tr α := if t.left.red = true ∧ t.right.red = true then t.flip else t
def up (t : Tr α) : Tr α := t.up1.up2.up3
def ins (lt : α → α → Bool) (q : Nat) (x : α) : Tr α → Tr α
  | nil => node q nil x nil false
  | node p l y r b => (if lt x y = true then node p (l.ins lt q x) y r b else node p l y (r.ins lt q x) b).up
/-- The root is black. -/
def blacken : Tr α → Tr α
  | nil => nil
  | node p l x r _ => node p l x r true

theorem toList_rotL (t : Tr α) : t.rotL.toList = t.toList := by
  unfold rotL
  split <;> simp [toList]
theorem toList_rotR (t : Tr α) : t.rotR.toList = t.toList := by
  unfold rotR
  split <;> simp [toList]
theorem toList_turn (t : Tr α) : t.turn.toList = t.toList := by
  cases t <;> rfl
theorem toList_flip (t : Tr α) : t.flip.toList = t.toList := by
  cases t with
  | nil => rfl
  | node p l x r b => simp [flip, toList, toList_turn]
theorem toList_up (t : Tr α) : t.up.toList = t.toList := by
  have h1 : ∀ u : Tr α, u.up1.toList = u.toList := fun u => by unfold up1; split; exact toList_rotL u; rfl
  have h2 : ∀ u : Tr α, u.up2.toList = u.toList := fun u => by unfold up2; split; exact toList_rotR u; rfl
  have h3 : ∀ u : Tr α, u.up3.toList = u.toList := fun u => by unfold up3; split; exact toList_flip u; rfl
  unfold up
  rw [h3, h2, h1]
theorem toList_blacken (t : Tr α) : t.blacken.toList = t.toList := by cases t <;> rfl

theorem blocks_rotL (t : Tr α) : t.rotL.blocks.Perm t.blocks := by
  unfold rotL
  split
  · rename_i p l x q rl y rr c b
    simp only [blocks, List.cons_append, List.append_assoc]
    exact (List.Perm.swap p q _).trans (List.Perm.cons p List.perm_middle.symm)
  · exact List.Perm.refl _
theorem blocks_rotR (t : Tr α) : t.rotR.blocks.Perm t.blocks := by
  unfold rotR
  split
  · rename_i p q ll y lr c x r b
    simp only [blocks, List.cons_append, List.append_assoc]
    exact (List.Perm.cons q List.perm_middle).trans (List.Perm.swap p q _)
  · exact List.Perm.refl _
theorem blocks_turn (t : Tr α) : t.turn.blocks = t.blocks := by
  cases t <;> rfl
theorem blocks_flip (t : Tr α) : t.flip.blocks = t.blocks := by
  cases t with
  | nil => rfl
  | node p l x r b => simp [flip, blocks, blocks_turn]
theorem blocks_up1 (t : Tr α) : t.up1.blocks.Perm t.blocks := by unfold up1; split; exact blocks_rotL t; exact List.Perm.refl _
theorem blocks_up2 (t : Tr α) : t.up2.blocks.Perm t.blocks := by unfold up2; split; exact blocks_rotR t; exact List.Perm.refl _
theorem blocks_up3 (t : Tr α) : t.up3.blocks.Perm t.blocks := by unfold up3; split; rw [blocks_flip]; exact List.Perm.refl _
theorem blocks_up (t : Tr α) : t.up.blocks.Perm t.blocks := (blocks_up3 _).trans ((blocks_up2 _).trans (blocks_up1 _))
theorem blocks_blacken (t : Tr α) : t.blacken.blocks = t.blocks := by cases t <;> rfl
theorem blocks_ins (lt : α → α → Bool) (q : Nat) (x : α) : ∀ t : Tr α, (t.ins lt q x).blocks.Perm (q :: t.blocks)
  | nil => List.Perm.refl _
  | node p l y r b => by
    unfold ins
    refine (blocks_up _).trans ?_
    split
    · refine List.Perm.trans (List.Perm.cons p (List.Perm.append_right _ (blocks_ins lt q x l))) ?_
      exact List.Perm.swap q p _
    · refine List.Perm.trans (List.Perm.cons p (List.Perm.append_left _ (blocks_ins lt q x r))) ?_
      exact (List.Perm.cons p List.perm_middle).trans (List.Perm.swap q p _)
theorem length_toList : ∀ t : Tr α, t.toList.length = t.blocks.length
  | nil => rfl
  | node p l x r b => by simp [toList, blocks, length_toList l, length_toList r]; omega

/-- In order. -/
def Sorted (k : α → List UInt8) (l : List α) : Prop := l.Pairwise fun a b => blt (k b) (k a) = false

/-- An item that is put in stands behind those that are not behind it. -/
theorem ins_split (k : α → List UInt8) (q : Nat) (x : α) : ∀ t : Tr α, Sorted k t.toList →
    ∃ a b, t.toList = a ++ b ∧ (t.ins (fun x y => blt (k x) (k y)) q x).toList = a ++ x :: b ∧ (∀ y ∈ a, blt (k x) (k y) = false) ∧ (∀ y ∈ b, blt (k x) (k y) = true)
  | nil, _ => ⟨[], [], rfl, rfl, by simp, by simp⟩
  | node p l y r c, hs => by
    unfold ins
    rw [toList_up]
    have hs' : Sorted k (l.toList ++ y :: r.toList) := hs
    obtain ⟨hl, hyr, hc⟩ := List.pairwise_append.1 hs'
    obtain ⟨hy, hr⟩ := List.pairwise_cons.1 hyr
    by_cases h : blt (k x) (k y) = true
    · rw [if_pos h]
      obtain ⟨a, b, e1, e2, e3, e4⟩ := ins_split k q x l hl
      refine ⟨a, b ++ y :: r.toList, by simp [toList, e1], by simp [toList, e2], e3, fun z hz => ?_⟩
      rcases List.mem_append.1 hz with hz | hz
      · exact e4 z hz
      · rcases List.mem_cons.1 hz with rfl | hz
        · exact h
        · exact blt_of_lt_le h (hy z hz)
    · rw [if_neg h]
      have h' : blt (k x) (k y) = false := by simpa using h
      obtain ⟨a, b, e1, e2, e3, e4⟩ := ins_split k q x r hr
      refine ⟨l.toList ++ y :: a, b, by simp [toList, e1], by simp [toList, e2], fun z hz => ?_, e4⟩
      rcases List.mem_append.1 hz with hz | hz
      · exact ble_trans (hc z hz y (by simp)) h'
      · rcases List.mem_cons.1 hz with rfl | hz
        · exact h'
        · exact e3 z hz
theorem ins_sorted (k : α → List UInt8) (q : Nat) (x : α) (t : Tr α) (h : Sorted k t.toList) : Sorted k (t.ins (fun x y => blt (k x) (k y)) q x).toList := by
  obtain ⟨a, b, e1, e2, e3, e4⟩ := ins_split k q x t h
  rw [e2]
  rw [e1] at h
  obtain ⟨ha, hb, hc⟩ := List.pairwise_append.1 h
  refine List.pairwise_append.2 ⟨ha, List.pairwise_cons.2 ⟨fun y hy => blt_asymm _ _ (e4 y hy), hb⟩, fun y hy z hz => ?_⟩
  rcases List.mem_cons.1 hz with rfl | hz
  · exact e3 y hy
  · exact hc y hy z hz
theorem ins_mem (k : α → List UInt8) (q : Nat) (x : α) (t : Tr α) (h : Sorted k t.toList) (z : α) : z ∈ (t.ins (fun x y => blt (k x) (k y)) q x).toList ↔ z = x ∨ z ∈ t.toList := by
  obtain ⟨a, b, e1, e2, e3, e4⟩ := ins_split k q x t h
  rw [e2, e1]
  simp only [List.mem_append, List.mem_cons]
  constructor
  · rintro (h | h | h)
    · exact .inr (.inl h)
    · exact .inl h
    · exact .inr (.inr h)
  · rintro (h | h | h)
    · exact .inr (.inl h)
    · exact .inl h
    · exact .inr (.inr h)

/-- The items from a pivot on, as the code visits them. -/
def asc (ltp : α → Bool) : Tr α → List α
  | nil => []
  | node _ l x r _ => if ltp x = true then r.asc ltp else l.asc ltp ++ x :: r.asc ltp
theorem asc_eq (k : α → List UInt8) (u : List UInt8) : ∀ t : Tr α, Sorted k t.toList → t.asc (fun x => blt (k x) u) = t.toList.filter (fun x => !blt (k x) u)
  | nil, _ => rfl
  | node p l y r c, hs => by
    have hs' : Sorted k (l.toList ++ y :: r.toList) := hs
    obtain ⟨hl, hyr, hc⟩ := List.pairwise_append.1 hs'
    obtain ⟨hy, hr⟩ := List.pairwise_cons.1 hyr
    unfold asc toList
    rw [List.filter_append, List.filter_cons, asc_eq k u r hr, asc_eq k u l hl]
    cases h : blt (k y) u with
    | false => simp
    | true =>
      have hn : l.toList.filter (fun x => !blt (k x) u) = [] := by
        rw [List.filter_eq_nil_iff]
        intro z hz
        have := hc z hz y (by simp)
        rw [blt_of_le_lt this h]
        simp
      rw [hn]
      simp
end Tr

/-- A walk over items that stops where a step says so: whether it goes on, and the state. -/
def scan {σ α : Type} (step : σ → α → Bool × σ) : σ → List α → Bool × σ
  | s, [] => (true, s)
  | s, x :: xs => if (step s x).1 = true then scan step (step s x).2 xs else (false, (step s x).2)
theorem scan_append {σ α : Type} (step : σ → α → Bool × σ) : ∀ (a b : List α) (s : σ), scan step s (a ++ b) = if (scan step s a).1 = true then scan step (scan step s a).2 b else (false, (scan step s a).2)
  | [], b, s => by simp [scan]
  | x :: a, b, s => by
    simp only [List.cons_append, scan]
    split
    · exact scan_append step a b _
    · simp

/-- What a walk finds that looks, from a pivot on, at the items of one key. -/
def findStep {α : Type} (k : α → List UInt8) (u : List UInt8) (hit : α → Bool) (_ : Bool) (x : α) : Bool × Bool := if k x = u then (if hit x = true then (false, true) else (true, false)) else (false, false)
theorem find_scan {α : Type} (k : α → List UInt8) (u : List UInt8) (hit : α → Bool) : ∀ l : List α, Tr.Sorted k l → (∀ x ∈ l, blt (k x) u = false) → (scan (findStep k u hit) false l).2 = l.any (fun x => decide (k x = u) && hit x)
  | [], _, _ => rfl
  | x :: l, hs, hg => by
    obtain ⟨hx, hl⟩ := List.pairwise_cons.1 hs
    unfold scan
    rw [List.any_cons]
    by_cases hk : k x = u
    · by_cases hh : hit x = true
      · simp [findStep, hk, hh]
      · have ih := find_scan k u hit l hl (fun z hz => hg z (by simp [hz]))
        simp only [findStep, hk, hh, if_true] at ih ⊢
        simp [ih]
    · have hno : ∀ z ∈ l, (decide (k z = u) && hit z) = false := by
        intro z hz
        have h1 := hx z hz
        have h2 := hg x (by simp)
        have : k z ≠ u := fun e => by
          rw [e] at h1
          exact hk (blt_total _ _ h2 h1)
        simp [this]
      have ha : (l.any fun x => decide (k x = u) && hit x) = false := by
        rw [List.any_eq_false]
        intro z hz
        rw [hno z hz]
        simp
      rw [ha]
      simp [findStep, hk]
end Go.Proofs.YthehmnpbepmnpaaGreatDoorR
/- Contracts: an LLRB tree in memory: isRed, newNode, rotateLeft, rotateRight, flip. -/
namespace Go.Proofs.YthehmnpbepmnpaaGreatDoorR
open Go.RowKit

section
variable {α : Type}
/-- Where a tree lies. -/
def Tr.addr : Tr α → Option Addr
  | .nil => none
  | .node p _ _ _ _ => some ⟨p, 0, none⟩
/-- A node in memory. -/
abbrev ndO (v : Value) (l r : Option Addr) (b : Bool) : Obj := .cells #[.iface 154 v, .pointer l, .pointer r, .bool b] 207 (0, 0)
/-- The tree lies in memory. -/
def Tr.At (it : α → Value) (w : World) : Tr α → Prop
  | .nil => True
  | .node p l x r b => w.heap[p]? = some (ndO (it x) l.addr r.addr b) ∧ l.At it w ∧ r.At it w
theorem Tr.At.keep {it : α → Value} {S : Nat → Prop} {w w' : World} (hk : Keep S w w') : ∀ {t : Tr α}, t.At it w → (∀ p ∈ t.blocks, ¬ S p) → t.At it w'
  | .nil, _, _ => trivial
  | .node p l x r b, ⟨h, hl, hr⟩, hS => ⟨hk.row h (hS p (by simp [Tr.blocks])), Tr.At.keep hk hl (fun q hq => hS q (by simp [Tr.blocks, hq])), Tr.At.keep hk hr (fun q hq => hS q (by simp [Tr.blocks, hq]))⟩
theorem Tr.At.lt {it : α → Value} {w : World} : ∀ {t : Tr α}, t.At it w → ∀ p ∈ t.blocks, p < w.heap.size
  | .nil, _, _, hp => by simp [Tr.blocks] at hp
  | .node q l x r b, ⟨h, hl, hr⟩, p, hp => by
    simp only [Tr.blocks, List.mem_cons, List.mem_append] at hp
    rcases hp with rfl | hp | hp
    · exact block_of_row h
    · exact Tr.At.lt hl p hp
    · exact Tr.At.lt hr p hp
theorem Tr.At.below {it : α → Value} {w w' : World} {t : Tr α} (h : t.At it w) (hb : Below w.heap.size w w') : t.At it w' := h.keep (S := fun _ => False) hb.keep (fun _ _ h => h)
end

/-- The cells of a node. -/
theorem node_cells {w : World} {p : Nat} {v : Value} {l r : Option Addr} {b : Bool} (h : w.heap[p]? = some (ndO v l r b)) :
    (w.cell? ⟨p, 0, none⟩ = some (.iface 154 v) ∧ w.cell? ⟨p, 1, none⟩ = some (.pointer l) ∧ w.cell? ⟨p, 2, none⟩ = some (.pointer r) ∧ w.cell? ⟨p, 3, none⟩ = some (.bool b)) ∧
    (w.frozen? ⟨p, 0, none⟩ = false ∧ w.frozen? ⟨p, 1, none⟩ = false ∧ w.frozen? ⟨p, 2, none⟩ = false ∧ w.frozen? ⟨p, 3, none⟩ = false) :=
  ⟨⟨cell_of_row' (cur := [_, _, _, _]) h 0, cell_of_row' (cur := [_, _, _, _]) h 1, cell_of_row' (cur := [_, _, _, _]) h 2, cell_of_row' (cur := [_, _, _, _]) h 3⟩,
   ⟨frozen_of_row' (cur := [_, _, _, _]) h 0, frozen_of_row' (cur := [_, _, _, _]) h 1, frozen_of_row' (cur := [_, _, _, _]) h 2, frozen_of_row' (cur := [_, _, _, _]) h 3⟩⟩
theorem node_set {w : World} {p : Nat} {v : Value} {l r : Option Addr} {b : Bool} (h : w.heap[p]? = some (ndO v l r b)) :
    (∀ x, (w.setCell ⟨p, 1, none⟩ (.pointer x)).heap[p]? = some (ndO v x r b)) ∧ (∀ x, (w.setCell ⟨p, 2, none⟩ (.pointer x)).heap[p]? = some (ndO v l x b)) ∧ (∀ x, (w.setCell ⟨p, 3, none⟩ (.bool x)).heap[p]? = some (ndO v l r x)) :=
  ⟨fun x => Lib.heap_setCell_same (i := 1) h (.pointer x), fun x => Lib.heap_setCell_same (i := 2) h (.pointer x), fun x => Lib.heap_setCell_same (i := 3) h (.bool x)⟩
theorem node_far {w : World} {p q o : Nat} {v : Value} {l r : Option Addr} {b : Bool} (h : w.heap[p]? = some (ndO v l r b)) (hne : q ≠ p) (x : Value) : (w.setCell ⟨q, o, none⟩ x).heap[p]? = some (ndO v l r b) :=
  (Keep.setCell (S := fun k => k = q) (Keep.refl _ w) rfl o x).row h (fun e => hne e.symm)

section
variable {α : Type} (it : α → Value)

set_option maxRecDepth 100000 in
theorem isRed_any (t : Tr α) (w : World) (h : t.At it w) : Calls Tryz.prog 172 #[.pointer t.addr] w fun e w' => e = .returned (.bool t.red) ∧ w' = w := by
  cases t with
  | nil =>
    clear h
    show Calls Tryz.prog 172 #[.pointer none] w fun e w' => e = .returned (.bool false) ∧ w' = w
    go_enter Tryz.func172, Tryz.ntmps172
    go_wp2
    go_ret
    exact ⟨rfl, rfl⟩
  | node p l x r b =>
    obtain ⟨⟨_, _, _, c3⟩, _⟩ := node_cells h.1
    clear h
    show Calls Tryz.prog 172 #[.pointer (some ⟨p, 0, none⟩)] w fun e w' => e = .returned (.bool !b) ∧ w' = w
    go_enter Tryz.func172, Tryz.ntmps172
    go_wp2
    go_ret
    exact ⟨rfl, rfl⟩

set_option maxRecDepth 100000 in
theorem newNode_any (v : Value) (w : World) : Calls Tryz.prog 152 #[.iface 154 v] w fun e w' => e = .returned (.pointer (some ⟨w.heap.size, 0, none⟩)) ∧ w' = w.alloc (ndO v none none false) := by
  go_enter Tryz.func152, Tryz.ntmps152
  go_wp2
  go_ret
  exact ⟨rfl, rfl⟩

/-- Two nodes turned to the left. -/
theorem rotL_at {p q : Nat} {l rl rr : Tr α} {x y : α} {b c : Bool} {w : World} (h : (Tr.node p l x (.node q rl y rr c) b).At it w) (hn : (Tr.node p l x (.node q rl y rr c) b).blocks.Nodup) :
    ((Tr.node p l x (.node q rl y rr c) b).rotL).At it ((((w.setCell ⟨p, 2, none⟩ (.pointer rl.addr)).setCell ⟨q, 1, none⟩ (.pointer (some ⟨p, 0, none⟩))).setCell ⟨q, 3, none⟩ (.bool b)).setCell ⟨p, 3, none⟩ (.bool false)) ∧
      Keep (fun k => k = p ∨ k = q) w ((((w.setCell ⟨p, 2, none⟩ (.pointer rl.addr)).setCell ⟨q, 1, none⟩ (.pointer (some ⟨p, 0, none⟩))).setCell ⟨q, 3, none⟩ (.bool b)).setCell ⟨p, 3, none⟩ (.bool false)) := by
  obtain ⟨hp, hl, hq, hrl, hrr⟩ := h
  simp only [Tr.blocks, List.nodup_cons, List.mem_append, List.mem_cons, List.nodup_append, not_or] at hn
  obtain ⟨⟨np1, np2, np3, np4⟩, n1, ⟨⟨nq1, nq2⟩, n2⟩, n3⟩ := hn
  have hpq : p ≠ q := np2
  have hk : Keep (fun k => k = p ∨ k = q) w ((((w.setCell ⟨p, 2, none⟩ (.pointer rl.addr)).setCell ⟨q, 1, none⟩ (.pointer (some ⟨p, 0, none⟩))).setCell ⟨q, 3, none⟩ (.bool b)).setCell ⟨p, 3, none⟩ (.bool false)) :=
    ((((Keep.refl _ w).setCell (.inl rfl) _ _).setCell (.inr rfl) _ _).setCell (.inr rfl) _ _).setCell (.inl rfl) _ _
  refine ⟨⟨?_, ⟨?_, hl.keep hk fun k hm => ?_, hrl.keep hk fun k hm => ?_⟩, hrr.keep hk fun k hm => ?_⟩, hk⟩
  · exact node_far ((node_set ((node_set (node_far hq hpq _)).1 _)).2.2 b) hpq _
  · exact (node_set (node_far (node_far ((node_set hp).2.1 _) hpq.symm _) hpq.symm _)).2.2 false
  · rintro (rfl | rfl)
    · exact np1 hm
    · exact n3 _ hm _ (.inl rfl) rfl
  · rintro (rfl | rfl)
    · exact np3 hm
    · exact nq1 hm
  · rintro (rfl | rfl)
    · exact np4 hm
    · exact nq2 hm

set_option maxRecDepth 100000 in
set_option maxHeartbeats 1000000 in
theorem rotateLeft_any (p q : Nat) (l rl rr : Tr α) (x y : α) (b : Bool) (w : World) (h : (Tr.node p l x (.node q rl y rr false) b).At it w) (hn : (Tr.node p l x (.node q rl y rr false) b).blocks.Nodup) :
    Calls Tryz.prog 173 #[.pointer (some ⟨p, 0, none⟩)] w fun e w' => e = .returned (.pointer (Tr.node p l x (.node q rl y rr false) b).rotL.addr) ∧ (Tr.node p l x (.node q rl y rr false) b).rotL.At it w' ∧ Keep (fun k => k = p ∨ k = q) w w' := by
  have H := Lib.hid (rotL_at it h hn)
  have hpq : p ≠ q := by
    simp only [Tr.blocks, List.nodup_cons, List.mem_append, List.mem_cons, not_or] at hn
    exact hn.1.2.1
  have hqp : q ≠ p := hpq.symm
  obtain ⟨hp, _, hq, _, _⟩ := h
  obtain ⟨⟨p0, p1, p2, p3⟩, fp0, fp1, fp2, fp3⟩ := node_cells hp
  obtain ⟨⟨q0, q1, q2, q3⟩, fq0, fq1, fq2, fq3⟩ := node_cells hq
  have p2' : w.cell? ⟨p, 2, none⟩ = some (.pointer (some ⟨q, 0, none⟩)) := p2
  clear hn hp hq p2
  show Calls _ _ _ _ fun e w' => e = .returned (.pointer (some ⟨q, 0, none⟩)) ∧ _
  go_enter Tryz.func173, Tryz.ntmps173
  go_wp2
  go_ret
  exact ⟨rfl, H.out⟩

/-- Two nodes turned to the right. -/
theorem rotR_at {p q : Nat} {r ll lr : Tr α} {x y : α} {b c : Bool} {w : World} (h : (Tr.node p (.node q ll y lr c) x r b).At it w) (hn : (Tr.node p (.node q ll y lr c) x r b).blocks.Nodup) :
    ((Tr.node p (.node q ll y lr c) x r b).rotR).At it ((((w.setCell ⟨p, 1, none⟩ (.pointer lr.addr)).setCell ⟨q, 2, none⟩ (.pointer (some ⟨p, 0, none⟩))).setCell ⟨q, 3, none⟩ (.bool b)).setCell ⟨p, 3, none⟩ (.bool false)) ∧
      Keep (fun k => k = p ∨ k = q) w ((((w.setCell ⟨p, 1, none⟩ (.pointer lr.addr)).setCell ⟨q, 2, none⟩ (.pointer (some ⟨p, 0, none⟩))).setCell ⟨q, 3, none⟩ (.bool b)).setCell ⟨p, 3, none⟩ (.bool false)) := by
  obtain ⟨hp, ⟨hq, hll, hlr⟩, hr⟩ := h
  simp only [Tr.blocks, List.nodup_cons, List.mem_append, List.mem_cons, List.nodup_append, List.cons_append, not_or] at hn
  obtain ⟨⟨np1, ⟨np2, np3⟩, np4⟩, ⟨⟨nq1, nq2⟩, nq3⟩, ⟨n1, n2, n3⟩, n4, n5⟩ := hn
  have hpq : p ≠ q := np1
  have hk : Keep (fun k => k = p ∨ k = q) w ((((w.setCell ⟨p, 1, none⟩ (.pointer lr.addr)).setCell ⟨q, 2, none⟩ (.pointer (some ⟨p, 0, none⟩))).setCell ⟨q, 3, none⟩ (.bool b)).setCell ⟨p, 3, none⟩ (.bool false)) :=
    ((((Keep.refl _ w).setCell (.inl rfl) _ _).setCell (.inr rfl) _ _).setCell (.inr rfl) _ _).setCell (.inl rfl) _ _
  refine ⟨⟨?_, hll.keep hk fun k hm => ?_, ?_, hlr.keep hk fun k hm => ?_, hr.keep hk fun k hm => ?_⟩, hk⟩
  · exact node_far ((node_set ((node_set (node_far hq hpq _)).2.1 _)).2.2 b) hpq _
  · rintro (rfl | rfl)
    · exact np2 hm
    · exact nq1 hm
  · exact (node_set (node_far (node_far ((node_set hp).1 _) hpq.symm _) hpq.symm _)).2.2 false
  · rintro (rfl | rfl)
    · exact np3 hm
    · exact nq2 hm
  · rintro (rfl | rfl)
    · exact np4 hm
    · exact nq3 hm

set_option maxRecDepth 100000 in
set_option maxHeartbeats 1000000 in
theorem rotateRight_any (p q : Nat) (r ll lr : Tr α) (x y : α) (b : Bool) (w : World) (h : (Tr.node p (.node q ll y lr false) x r b).At it w) (hn : (Tr.node p (.node q ll y lr false) x r b).blocks.Nodup) :
    Calls Tryz.prog 174 #[.pointer (some ⟨p, 0, none⟩)] w fun e w' => e = .returned (.pointer (Tr.node p (.node q ll y lr false) x r b).rotR.addr) ∧ (Tr.node p (.node q ll y lr false) x r b).rotR.At it w' ∧ Keep (fun k => k = p ∨ k = q) w w' := by
  have H := Lib.hid (rotR_at it h hn)
  have hpq : p ≠ q := by
    simp only [Tr.blocks, List.nodup_cons, List.mem_append, List.mem_cons, List.cons_append, not_or] at hn
    exact hn.1.1
  have hqp : q ≠ p := hpq.symm
  obtain ⟨hp, ⟨hq, _, _⟩, _⟩ := h
  obtain ⟨⟨p0, p1, p2, p3⟩, fp0, fp1, fp2, fp3⟩ := node_cells hp
  obtain ⟨⟨q0, q1, q2, q3⟩, fq0, fq1, fq2, fq3⟩ := node_cells hq
  have p1' : w.cell? ⟨p, 1, none⟩ = some (.pointer (some ⟨q, 0, none⟩)) := p1
  clear hn hp hq p1
  show Calls _ _ _ _ fun e w' => e = .returned (.pointer (some ⟨q, 0, none⟩)) ∧ _
  go_enter Tryz.func174, Tryz.ntmps174
  go_wp2
  go_ret
  exact ⟨rfl, H.out⟩

/-- Three nodes whose colours are turned. -/
theorem flip_at {p q s : Nat} {ll lr rl rr : Tr α} {x y z : α} {b c d : Bool} {w : World} (h : (Tr.node p (.node q ll y lr c) x (.node s rl z rr d) b).At it w) (hn : (Tr.node p (.node q ll y lr c) x (.node s rl z rr d) b).blocks.Nodup) :
    ((Tr.node p (.node q ll y lr c) x (.node s rl z rr d) b).flip).At it (((w.setCell ⟨p, 3, none⟩ (.bool !b)).setCell ⟨q, 3, none⟩ (.bool !c)).setCell ⟨s, 3, none⟩ (.bool !d)) ∧
      Keep (fun k => k = p ∨ k = q ∨ k = s) w (((w.setCell ⟨p, 3, none⟩ (.bool !b)).setCell ⟨q, 3, none⟩ (.bool !c)).setCell ⟨s, 3, none⟩ (.bool !d)) := by
  obtain ⟨hp, ⟨hq, hll, hlr⟩, hs, hrl, hrr⟩ := h
  simp only [Tr.blocks, List.nodup_cons, List.mem_append, List.mem_cons, List.nodup_append, List.cons_append, not_or] at hn
  obtain ⟨⟨np1, ⟨np2, np3⟩, np4, np5, np6⟩, ⟨⟨nq1, nq2⟩, nq3, nq4, nq5⟩, ⟨n1, n2, n3⟩, ⟨⟨ns1, ns2⟩, n4⟩, n5⟩ := hn
  have hpq : p ≠ q := np1
  have hps : p ≠ s := np4
  have hqs : q ≠ s := nq3
  have hk : Keep (fun k => k = p ∨ k = q ∨ k = s) w (((w.setCell ⟨p, 3, none⟩ (.bool !b)).setCell ⟨q, 3, none⟩ (.bool !c)).setCell ⟨s, 3, none⟩ (.bool !d)) :=
    (((Keep.refl _ w).setCell (.inl rfl) _ _).setCell (.inr (.inl rfl)) _ _).setCell (.inr (.inr rfl)) _ _
  refine ⟨⟨?_, ⟨?_, hll.keep hk fun k hm => ?_, hlr.keep hk fun k hm => ?_⟩, ?_, hrl.keep hk fun k hm => ?_, hrr.keep hk fun k hm => ?_⟩, hk⟩
  · exact node_far (node_far ((node_set hp).2.2 _) hpq.symm _) hps.symm _
  · exact node_far ((node_set (node_far hq hpq _)).2.2 _) hqs.symm _
  · rintro (rfl | rfl | rfl)
    · exact np2 hm
    · exact nq1 hm
    · exact n5 _ (.inl hm) _ (.inl rfl) rfl
  · rintro (rfl | rfl | rfl)
    · exact np3 hm
    · exact nq2 hm
    · exact n5 _ (.inr hm) _ (.inl rfl) rfl
  · exact (node_set (node_far (node_far hs hps _) hqs _)).2.2 _
  · rintro (rfl | rfl | rfl)
    · exact np5 hm
    · exact nq4 hm
    · exact ns1 hm
  · rintro (rfl | rfl | rfl)
    · exact np6 hm
    · exact nq5 hm
    · exact ns2 hm

set_option maxRecDepth 100000 in
set_option maxHeartbeats 1000000 in
theorem flip_any (p q s : Nat) (ll lr rl rr : Tr α) (x y z : α) (b c d : Bool) (w : World) (h : (Tr.node p (.node q ll y lr c) x (.node s rl z rr d) b).At it w) (hn : (Tr.node p (.node q ll y lr c) x (.node s rl z rr d) b).blocks.Nodup) :
    Calls Tryz.prog 175 #[.pointer (some ⟨p, 0, none⟩)] w fun e w' => e = .returned (.tuple #[]) ∧ (Tr.node p (.node q ll y lr c) x (.node s rl z rr d) b).flip.At it w' ∧ Keep (fun k => k = p ∨ k = q ∨ k = s) w w' := by
  have H := Lib.hid (flip_at it h hn)
  obtain ⟨hpq, hps, hqs⟩ : p ≠ q ∧ p ≠ s ∧ q ≠ s := by
    simp only [Tr.blocks, List.nodup_cons, List.mem_append, List.mem_cons, List.cons_append, not_or] at hn
    exact ⟨hn.1.1, hn.1.2.2.1, hn.2.1.2.1⟩
  have hqp := hpq.symm
  have hsp := hps.symm
  have hsq := hqs.symm
  obtain ⟨hp, ⟨hq, _, _⟩, hs, _, _⟩ := h
  obtain ⟨⟨p0, p1, p2, p3⟩, fp0, fp1, fp2, fp3⟩ := node_cells hp
  obtain ⟨⟨q0, q1, q2, q3⟩, fq0, fq1, fq2, fq3⟩ := node_cells hq
  obtain ⟨⟨s0, s1, s2, s3⟩, fs0, fs1, fs2, fs3⟩ := node_cells hs
  have p1' : w.cell? ⟨p, 1, none⟩ = some (.pointer (some ⟨q, 0, none⟩)) := p1
  have p2' : w.cell? ⟨p, 2, none⟩ = some (.pointer (some ⟨s, 0, none⟩)) := p2
  clear hn hp hq hs p1 p2 p0 q0 q1 q2 s0 s1 s2
  go_enter Tryz.func175, Tryz.ntmps175
  go_wp2
  go_region
  all_goals
    go_wp2
    go_region
  all_goals
    go_end0
    exact ⟨rfl, (H.out.1.keep (keep_drew (fun _ => False) _) (fun _ _ h => h)).keep (keep_drew (fun _ => False) _) (fun _ _ h => h), (H.out.2.trans (keep_drew _ _)).trans (keep_drew _ _)⟩
end
end Go.Proofs.YthehmnpbepmnpaaGreatDoorR
