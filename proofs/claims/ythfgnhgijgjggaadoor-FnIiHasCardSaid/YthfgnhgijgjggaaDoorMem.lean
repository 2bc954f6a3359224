/- Words on memory for the proofs of this seat: a slice that reads as bytes, what a call leaves as it was. No program in sight. -/
import Derived.Below
import Derived.Deep.Draws
import Derived.Lib.ConvBytes
import Derived.Laws.BytesArg
import Derived.Laws.IdiomCopy
import Derived.Laws.Rows
import Derived.Laws.MakeOwn
import Derived.Lib.VarintMem
import Derived.Lib.Hide
import Derived.Laws.CopyOwn
import Derived.Lib.BufferMore
import Derived.Laws.Slices
import Derived.Shelf.Bytes.SlSmallAll
import Derived.Laws.ResultCell
namespace Go.Proofs.YthfgnhgijgjggaaDoor
open Go.RowKit

theorem below_drewN (B : Nat) (w : World) (n : Nat) : Below B w (w.drewN n) := ⟨rfl, rfl, rfl, Nat.le_refl _, fun _ _ => rfl⟩
theorem _root_.Go.RowKit.Below.drewN {B : Nat} {a w : World} (h : Below B a w) (n : Nat) : Below B a (w.drewN n) := h.trans (below_drewN B w n)
/-- The frame from call to call: each call leaves below ITS heap's size all as it was. -/
theorem below_next {w a b : World} (h : Below w.heap.size w a) (k : Below a.heap.size a b) : Below w.heap.size w b := h.trans (k.mono h.size)
theorem below_cell {w w' : World} (h : Below w.heap.size w w') {p : Addr} {v : Value} (hc : w.cell? p = some v) : w'.cell? p = some v := by
  rcases Nat.lt_or_ge p.block w.heap.size with hp | hp
  · exact (h.cell hp).trans hc
  · unfold World.cell? at hc; rw [Array.getElem?_eq_none hp] at hc; cases hc
theorem block_of_cell {w : World} {p : Addr} {v : Value} (hc : w.cell? p = some v) : p.block < w.heap.size := by
  rcases Nat.lt_or_ge p.block w.heap.size with hp | hp
  · exact hp
  · unfold World.cell? at hc; rw [Array.getElem?_eq_none hp] at hc; cases hc

theorem ba_append (a b : ByteArray) : (a ++ b).data.toList = a.data.toList ++ b.data.toList := by
  obtain ⟨⟨l⟩⟩ := a
  obtain ⟨⟨r⟩⟩ := b
  simp
theorem ba_len (a : ByteArray) : a.data.toList.length = a.size := by rw [Array.length_toList]; rfl
theorem ba_mk (a : ByteArray) : (⟨a.data.toList.toArray⟩ : ByteArray) = a := by obtain ⟨⟨l⟩⟩ := a; rfl

/-- The slice value v holds the bytes l (nil and empty let in). -/
def BS (w : World) (v : Value) (l : List UInt8) : Prop :=
  ∃ (A : Option Addr) (c : Nat), v = .slice A l.length c ∧ l.length ≤ c ∧
    (0 < l.length → ∃ b o, A = some ⟨b, o, none⟩ ∧ ∀ j (h : j < l.length), w.cell? ⟨b, o + j, none⟩ = some (.int .u8 (l[j].toNat)))

theorem BS.keep {w w' : World} {v : Value} {l : List UInt8} (h : BS w v l) (hk : ∀ p u, w.cell? p = some u → w'.cell? p = some u) : BS w' v l := by
  obtain ⟨A, c, e, hc, h⟩ := h
  refine ⟨A, c, e, hc, fun hl => ?_⟩
  obtain ⟨b, o, e, h⟩ := h hl
  exact ⟨b, o, e, fun j hj => hk _ _ (h j hj)⟩
theorem BS.below {w w' : World} {v : Value} {l : List UInt8} (h : BS w v l) (hb : Below w.heap.size w w') : BS w' v l := h.keep fun _ _ hc => below_cell hb hc
theorem BS.drewN {w : World} {v : Value} {l : List UInt8} (h : BS w v l) (n : Nat) : BS (w.drewN n) v l := h
theorem BS.nil (w : World) (c : Nat) : BS w (.slice none 0 c) [] := ⟨none, c, rfl, Nat.zero_le _, fun h => absurd h (by simp)⟩
theorem BS.of_cells {w : World} {b o c : Nat} {l : List UInt8} (hc : l.length ≤ c) (h : ∀ j (h : j < l.length), w.cell? ⟨b, o + j, none⟩ = some (.int .u8 (l[j].toNat))) : BS w (.slice (some ⟨b, o, none⟩) l.length c) l :=
  ⟨_, c, rfl, hc, fun _ => ⟨b, o, rfl, h⟩⟩

section
variable {P : Program}
/-- '[]byte(s)': a new row with the bytes of s, told by what it is good for. -/
theorem conv_bytes {src dst e : TypeId} (hs : P.underlying src = some .string) (hd : P.underlying dst = some (.slice e)) (he : P.underlying e = some (.int .u8)) (w : World) (s : ByteArray) :
    ∃ c w1, (convert src dst (.string s)).run P w = .ok (.slice (some ⟨w.heap.size, 0, none⟩) s.size c) w1 ∧ s.size ≤ c ∧ Below w.heap.size w w1 ∧ w1.heap.size = w.heap.size + 1 ∧
      (∃ m, w1.heap[w.heap.size]? = some (.cells (Lib.bytesCells w e s) e m)) ∧
      ∀ j (h : j < s.data.toList.length), w1.cell? ⟨w.heap.size, 0 + j, none⟩ = some (.int .u8 (s.data.toList[j].toNat)) := by
  have hcap : s.size ≤ grownCap w s.size 0 e := grownCap_ge _ _ _ _
  refine ⟨_, _, Lib.run_convert_string_bytes w src dst e s hs hd he, hcap, ⟨?_, ?_, ?_, ?_, ?_⟩, Lib.bytesWorld_size w e s, ⟨_, Lib.bytesWorld_at_new w e s⟩, ?_⟩
  · simp [Lib.bytesWorld, World.freeze, World.alloc, World.drew, -World.alloc_eq, -World.drew_eq]
  · simp [Lib.bytesWorld, World.freeze, World.alloc, World.drew, -World.alloc_eq, -World.drew_eq]
  · simp [Lib.bytesWorld, World.freeze, World.alloc, World.drew, -World.alloc_eq, -World.drew_eq]
  · rw [Lib.bytesWorld_size]; omega
  · exact fun k hk => Lib.bytesWorld_at_old w e s k hk
  · intro j hj
    rw [Nat.zero_add, Lib.bytesWorld_cell w e s j (by show j < s.data.size; rw [← Array.length_toList]; exact hj)]
    rw [List.getD, List.getElem?_eq_getElem hj]; rfl
end
/-- Only block g has turned, and no block is new. -/
structure Turn (g : Nat) (w w' : World) : Prop where
  os : w'.os = w.os
  tape : w'.tape = w.tape
  output : w'.output = w.output
  size : w'.heap.size = w.heap.size
  block : ∀ k, k ≠ g → w'.heap[k]? = w.heap[k]?
theorem Turn.below {g B : Nat} {w w' : World} (h : Turn g w w') (hB : B ≤ g) : Below B w w' :=
  ⟨h.os, h.tape, h.output, by rw [h.size]; exact Nat.le_refl _, fun k hk => h.block k (by omega)⟩
theorem Turn.trans {g : Nat} {a b c : World} (h : Turn g a b) (k : Turn g b c) : Turn g a c :=
  ⟨k.os.trans h.os, k.tape.trans h.tape, k.output.trans h.output, k.size.trans h.size, fun i hi => (k.block i hi).trans (h.block i hi)⟩
theorem Turn.refl (g : Nat) (w : World) : Turn g w w := ⟨rfl, rfl, rfl, rfl, fun _ _ => rfl⟩
theorem turn_setCell (g o : Nat) (w : World) (v : Value) : Turn g w (w.setCell ⟨g, o, none⟩ v) :=
  ⟨rfl, rfl, rfl, by simp [World.setCell], fun k hk => Below.heap_setCell _ _ _ _ hk⟩
theorem turn_setCells (g : Nat) : ∀ (vs : List Value) (o : Nat) (w : World), Turn g w (w.setCells g o vs)
  | [], _, w => Turn.refl g w
  | v :: r, o, w => (turn_setCell g o w v).trans (turn_setCells g r (o + 1) _)
theorem Turn.cell {g : Nat} {w w' : World} (h : Turn g w w') {p : Addr} (hp : p.block ≠ g) : w'.cell? p = w.cell? p := World.cell?_of_block (w := w) (h.block p.block hp)

theorem splice_get {α : Type} (L : List α) (off : Nat) (cs : List α) (h : off + cs.length ≤ L.length) (i : Nat) :
    (splice L off cs)[i]? = if off ≤ i ∧ i < off + cs.length then cs[i - off]? else L[i]? := by
  have e : (L.take off).length = off := by rw [List.length_take]; omega
  unfold splice
  by_cases h1 : i < off
  · rw [List.getElem?_append_left (by omega), List.getElem?_take_of_lt h1, if_neg (by omega)]
  · rw [List.getElem?_append_right (by omega), e]
    by_cases h2 : i < off + cs.length
    · rw [List.getElem?_append_left (by omega), if_pos (by omega)]
    · rw [List.getElem?_append_right (by omega), if_neg (by omega), List.getElem?_drop]
      congr 1; omega

/-- Cells laid over a known row. -/
theorem row_setCells {g : Nat} {t : TypeId} {m : Nat × Nat} : ∀ (vs : List Value) (o : Nat) (cur : List Value) (w : World), w.heap[g]? = some (.cells cur.toArray t m) → o + vs.length ≤ cur.length →
    (w.setCells g o vs).heap[g]? = some (.cells (splice cur o vs).toArray t m)
  | [], o, cur, w, h, _ => by simpa [World.setCells, splice] using h
  | v :: r, o, cur, w, h, hf => by
    have h1 := Lib.heap_setCell_same (i := o) h v
    simp only [List.setIfInBounds_toArray] at h1
    simp only [List.length_cons] at hf
    have hl : o + 1 + r.length ≤ (cur.set o v).length := by rw [List.length_set]; omega
    have h2 := row_setCells r (o + 1) (cur.set o v) (w.setCell ⟨g, o, none⟩ v) h1 hl
    rw [World.setCells, h2]
    congr 3
    apply List.ext_getElem?
    intro i
    rw [splice_get _ _ _ hl, splice_get _ _ _ (by simp only [List.length_cons]; omega), List.getElem?_set]
    simp only [List.length_cons]
    by_cases h3 : i = o
    · subst h3
      rw [if_neg (by omega), if_pos rfl, if_pos (by omega), if_pos (by omega)]; simp
    · by_cases h4 : o + 1 ≤ i ∧ i < o + 1 + r.length
      · rw [if_pos h4, if_pos (by omega), show i - o = (i - (o + 1)) + 1 by omega]; simp
      · rw [if_neg h4, if_neg (by omega), if_neg (by omega)]

theorem cell_of_row' {w : World} {g : Nat} {cur : List Value} {t : TypeId} {m : Nat × Nat} (h : w.heap[g]? = some (.cells cur.toArray t m)) (i : Nat) : w.cell? ⟨g, i, none⟩ = cur[i]? := by
  simp [World.cell?, h]
theorem frozen_of_row' {w : World} {g : Nat} {cur : List Value} {t : TypeId} (h : w.heap[g]? = some (.cells cur.toArray t (0, 0))) (i : Nat) : w.frozen? ⟨g, i, none⟩ = false := by
  simp [World.frozen?, h]

section
variable {P : Program}
/-- 'make([]byte, n)': a new row of zeros. -/
theorem make_bytes {t e : TypeId} (ht : P.underlying t = some (.slice e)) (hinfo : (P.info? e).map (fun i => (i.zero, i.size, i.bytes)) = some (some (.int .u8 0), 1, 1)) (w : World) (n : Nat) (hn : n ≤ 281474976710656) :
    ∃ w1, (Instr.makeSlice t (.int .i64 (n : Int)) (.int .i64 (n : Int))).run P w = .ok (.slice (some ⟨w.heap.size, 0, none⟩) n n) w1 ∧ Below w.heap.size w w1 ∧ w1.heap.size = w.heap.size + 1 ∧
      w1.heap[w.heap.size]? = some (.cells (List.replicate n (Value.int .u8 0)).toArray e (0, 0)) := by
  obtain ⟨i, hi, h2⟩ := Option.map_eq_some_iff.1 hinfo
  simp only [Prod.mk.injEq] at h2
  obtain ⟨hz, hsz, hby⟩ := h2
  have hr := run_make (P := P) w t e i _ ht hi hz .i64 .i64 (n : Int) (n : Int) (by omega) (by omega) (by rw [hby]; omega) (by omega)
  simp only [Int.toNat_natCast, hsz, Nat.mul_one] at hr
  refine ⟨_, hr, (Below.refl _ _).alloc (Nat.le_refl _) _, by simp, ?_⟩
  rw [heap_alloc_new]
  congr 2
  apply Array.ext
  · simp [size_madeCells]
  · intro j h1 h2
    have h0 : [Value.int IntKind.u8 0][j % 1]?.getD default = Value.int IntKind.u8 0 := by rw [Nat.mod_one]; rfl
    simp [madeCells, Value.cells, h0]

theorem strOfNums_bytes (l : List UInt8) : strOfNums (l.map fun b => (b.toNat : Int)) = ⟨l.toArray⟩ := by
  unfold strOfNums
  congr 2
  rw [List.map_map]
  conv => rhs; rw [← List.map_id l]
  apply List.map_congr_left
  intro x _
  simp

/-- 'string(b)': the bytes that the slice holds. -/
theorem BS.str {src e dst : TypeId} (hs : P.underlying src = some (.slice e)) (he : P.underlying e = some (.int .u8)) (hd : P.underlying dst = some .string) {w : World} {A : Option Addr} {n c : Nat} {l : List UInt8}
    (h : BS w (.slice A n c) l) : (convert src dst (.slice A n c)).run P w = .ok (.string ⟨l.toArray⟩) w := by
  obtain ⟨A', c', e1, _, h⟩ := h
  injection e1 with e1 e2 e3
  subst e1 e2 e3
  rcases Nat.eq_zero_or_pos l.length with h0 | h0
  · have hl : l = [] := List.eq_nil_of_length_eq_zero h0
    subst hl
    exact run_convert_bytes_zero w src e hs he A c dst hd
  · obtain ⟨b, o, rfl, hcl⟩ := h h0
    have := run_convert_bytes_arg (P := P) w src e hs he b o l.length c (l.map fun b => (b.toNat : Int)) (by simp) (fun i hi => by
      rw [hcl i hi]; simp [List.getD, List.getElem?_map, List.getElem?_eq_getElem hi]) dst hd
    rw [this, strOfNums_bytes]
/-- A row of the call's own whose head holds the bytes. -/
theorem BS.of_row {w : World} {g c : Nat} {t : TypeId} {m : Nat × Nat} {l : List UInt8} (h : w.heap[g]? = some (.cells (Lib.byteCells l).toArray t m)) (hc : l.length ≤ c) : BS w (.slice (some ⟨g, 0, none⟩) l.length c) l :=
  BS.of_cells hc fun j hj => by rw [Nat.zero_add, cell_of_row' h]; simp [Lib.byteCells, List.getElem?_eq_getElem hj]
theorem BS.slice {w : World} {A : Option Addr} {n c : Nat} {l : List UInt8} (h : BS w (.slice A n c) l) : n = l.length ∧ l.length ≤ c := by
  obtain ⟨A', c', e1, h1, _⟩ := h
  injection e1 with e1 e2 e3
  exact ⟨e2, by rw [e3]; exact h1⟩
theorem BS.at_ {w : World} {A : Option Addr} {n c : Nat} {l : List UInt8} (h : BS w (.slice A n c) l) (h0 : 0 < n) :
    ∃ b o, A = some ⟨b, o, none⟩ ∧ ∀ j (h : j < l.length), w.cell? ⟨b, o + j, none⟩ = some (.int .u8 (l[j].toNat)) := by
  obtain ⟨A', c', e1, h1, h2⟩ := h
  injection e1 with e1 e2 e3
  subst e1
  exact h2 (by omega)

/-- 's[i]' of a string that is told by its bytes. -/
theorem idx_str {t : TypeId} (ht : P.underlying t = some .string) (u : List UInt8) (i : Nat) (c : UInt8) (h : u[i]? = some c) (x : Int) (hx : x = i) (W : World) :
    (Instr.index t (.string ⟨u.toArray⟩) (.int .i64 x)).run P W = .ok (.int .u8 (c.toNat : Int)) W := by
  subst hx
  obtain ⟨hi, hc⟩ := List.getElem?_eq_some_iff.1 h
  have hi' : (0 : Int) ≤ (i : Int) ∧ (i : Int) < ((⟨u.toArray⟩ : ByteArray).size : Int) := ⟨by omega, by show (i : Int) < ((u.toArray.size : Nat) : Int); simp; omega⟩
  rw [run_index_string (P := P) W t ⟨u.toArray⟩ .i64 (i : Int) ht, dif_pos hi']
  congr 3
  rw [← hc]; rfl

theorem run_size {e : TypeId} (hsz : (P.info? e).map (fun i => (i.zero, i.size, i.bytes)) = some (some (.int .u8 0), 1, 1)) (w : World) : (sizeOf e).run P w = .ok 1 w := by
  obtain ⟨i, hi, h2⟩ := Option.map_eq_some_iff.1 hsz
  simp only [Prod.mk.injEq] at h2
  simp [sizeOf, typeInfo, hi, h2.2.1]

/-- Where 's[k:]' begins. -/
def cutA (A : Option Addr) (c k : Nat) : Option Addr := if c = k then A else A.map (·.add (k * 1))

/-- 's[k:]'. -/
theorem BS.from_ {t e : TypeId} (ht : P.underlying t = some (.slice e)) (hsz : (P.info? e).map (fun i => (i.zero, i.size, i.bytes)) = some (some (.int .u8 0), 1, 1)) {w : World} {A : Option Addr} {n c : Nat} {l : List UInt8} (h : BS w (.slice A n c) l) (k : Nat) (hk : k ≤ n) :
    (∀ W, (Instr.slice t (.slice A n c) (some (.int .i64 (k : Int))) none none).run P W = .ok (.slice (cutA A c k) (n - k) (c - k)) W) ∧ BS w (.slice (cutA A c k) (n - k) (c - k)) (l.drop k) := by
  obtain ⟨hn, hc⟩ := h.slice
  have ht' : P.underlying t = some (.slice (P.elem t)) := by simp [Program.elem, ht]
  have he : P.elem t = e := by simp [Program.elem, ht]
  refine ⟨fun W => ?_, ?_⟩
  · rw [run_slice_l W t _ _ _ ht' .i64 _ (by omega) (by omega), he, run_size hsz, Int.toNat_natCast]; rfl
  · have e1 : n - k = (l.drop k).length := by simp; omega
    refine ⟨_, c - k, by rw [e1], by rw [← e1]; omega, fun h0 => ?_⟩
    obtain ⟨b, o, rfl, hcell⟩ := h.at_ (by omega)
    unfold cutA
    rw [if_neg (by omega)]
    refine ⟨b, o + k, ?_, fun j hj => ?_⟩
    · by_cases hk0 : k = 0
      · subst hk0; simp [Addr.add]
      · simp [Addr.add, hk0]
    · rw [Nat.add_assoc, hcell (k + j) (by simp at hj; omega), List.getElem_drop]

/-- 's[:k]'. -/
theorem BS.to_ {t e : TypeId} (ht : P.underlying t = some (.slice e)) (hsz : (P.info? e).map (fun i => (i.zero, i.size, i.bytes)) = some (some (.int .u8 0), 1, 1)) {w : World} {A : Option Addr} {n c : Nat} {l : List UInt8} (h : BS w (.slice A n c) l) (k : Nat) (hk : k ≤ n) :
    (∀ W, (Instr.slice t (.slice A n c) none (some (.int .i64 (k : Int))) none).run P W = .ok (.slice A k c) W) ∧ (∀ W, (Instr.slice t (.slice A n c) none (some (.int .u64 (k : Int))) none).run P W = .ok (.slice A k c) W) ∧ BS w (.slice A k c) (l.take k) := by
  obtain ⟨hn, hc⟩ := h.slice
  have ht' : P.underlying t = some (.slice (P.elem t)) := by simp [Program.elem, ht]
  have he : P.elem t = e := by simp [Program.elem, ht]
  have hz : sliced A 0 k c 1 = .slice A k c := by
    unfold sliced
    congr 1
    by_cases h0 : c = 0
    · rw [if_pos h0]
    · rw [if_neg h0]; cases A <;> simp [Addr.add]
  refine ⟨fun W => ?_, fun W => ?_, ?_⟩
  · rw [run_slice_h W t _ _ _ ht' .i64 _ (by omega) (by omega), he, run_size hsz, Int.toNat_natCast]; exact congrArg (fun v => Result.ok v W) hz
  · rw [run_slice_h W t _ _ _ ht' .u64 _ (by omega) (by omega), he, run_size hsz, Int.toNat_natCast]; exact congrArg (fun v => Result.ok v W) hz
  · have e1 : k = (l.take k).length := by simp; omega
    refine ⟨A, c, by rw [← e1], by rw [← e1]; omega, fun h0 => ?_⟩
    obtain ⟨b, o, rfl, hcell⟩ := h.at_ (by omega)
    exact ⟨b, o, rfl, fun j hj => by rw [hcell j (by simp at hj; omega), List.getElem_take]⟩

/-- Two results, the first a struct in a block that is known whole. -/
theorem results_row_tmp {fn : Func} {p u : Tmp} {ty : TypeId} (h : fn.results = #[.cell p ty, .tmp u]) (tmps : Array Value) (w : World) (g : Nat) (t : TypeId) (cs : Array Value) (fr : Nat × Nat) (d : TypeDesc)
    (hp : tmps.getD p undef = .pointer (some ⟨g, 0, none⟩)) (hg : w.heap[g]? = some (.cells cs t fr))
    (hu : P.underlying ty = some d) (hd : (match d with | .struct _ | .array _ _ => true | _ => false) = true) (hi : (P.info? ty).map (·.size) = some cs.size) :
    (results fn tmps).run P w = .ok (.tuple #[.agg cs, tmps.getD u undef]) w := by
  rw [results_cell_tmp h, hp]
  simp [asAddr, run_loadVar_row w g t ty cs fr d hg hu hd hi, Result.andThen]
/-- A row that a call below which it lies has left alone. -/
theorem row_below {w w' : World} {B g : Nat} {o : Obj} (hb : Below B w w') (hg : g < B) (h : w.heap[g]? = some o) : w'.heap[g]? = some o := (hb.block g hg).trans h

/-- 's[k:]', whatever it holds. -/
theorem run_from {t e : TypeId} (ht : P.underlying t = some (.slice e)) (hsz : (P.info? e).map (fun i => (i.zero, i.size, i.bytes)) = some (some (.int .u8 0), 1, 1)) (A : Option Addr) (n c k : Nat) (hk : k ≤ n) (W : World) :
    (Instr.slice t (.slice A n c) (some (.int .i64 (k : Int))) none none).run P W = .ok (.slice (cutA A c k) (n - k) (c - k)) W := by
  have ht' : P.underlying t = some (.slice (P.elem t)) := by simp [Program.elem, ht]
  have he : P.elem t = e := by simp [Program.elem, ht]
  rw [run_slice_l W t _ _ _ ht' .i64 _ (by omega) (by omega), he, run_size hsz, Int.toNat_natCast]; rfl
theorem cutA_own (g o c k : Nat) (h : k < c) : cutA (some ⟨g, o, none⟩) c k = some ⟨g, o + k, none⟩ := by
  unfold cutA
  rw [if_neg (by omega)]
  by_cases hk : k = 0 <;> simp [Addr.add, hk]
end
end Go.Proofs.YthfgnhgijgjggaaDoor
