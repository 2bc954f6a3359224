/- Contracts, joined (MhB RdrMem Bld CidPlain MhC CdC). -/
import Derived.Test.YthfgnhgijgjggaaDoorJSb1
import Derived.Laws.CopyOwn
import Derived.Laws.CopyRow
import Derived.Lib.Builder
import Derived.Laws.AppendOwn
import Derived.OwnWalk
import Derived.Lib.BufferWrite
/- Contracts of package multihash: Decode, MHFromBytes, Encode; and of impl's three entry points. -/
namespace Go.Proofs.YthfgnhgijgjggaaDoor
open Go.RowKit

theorem bcell {W w1 : World} (hb : Below W.heap.size W w1) : (∀ b o, b < W.heap.size → w1.cell? ⟨b, o, none⟩ = W.cell? ⟨b, o, none⟩) ∧ (∀ b o, b < W.heap.size → w1.frozen? ⟨b, o, none⟩ = W.frozen? ⟨b, o, none⟩) :=
  ⟨fun b o h => hb.cell (p := ⟨b, o, none⟩) h, fun b o h => hb.frozen (p := ⟨b, o, none⟩) h⟩

set_option maxRecDepth 100000 in
set_option maxHeartbeats 1000000 in
theorem decode_ok (A : Option Addr) (n c : Nat) (l : List UInt8) (w : World) (hs : BS w (.slice A n c) l) (hm : l.length ≤ 2147483647) (hu : UvS w) (code : Nat) (d : List UInt8) (hd : mhRd l = some (n, code, d)) :
    ∃ A' c', BS w (.slice A' d.length c') d ∧ ∀ w0, Below w.heap.size w w0 →
    Calls Tryd.prog 98 #[.slice A n c] w0 fun e w' => e = .returned (.tuple #[.agg #[.int .u64 code, .string ⟨#[]⟩, .int .i64 d.length, .slice A' d.length c'], .nilIface]) ∧ Below w0.heap.size w0 w' := by
  obtain ⟨hn, _⟩ := hs.slice
  obtain ⟨A', c', hs', hc⟩ := mrd_ok A n c l w hs hm hu _ _ _ hd
  refine ⟨A', c', hs', ?_⟩
  intro w0 hb0
  have HC := Lib.hid hc
  generalize d.length = D at *
  have b3 : n ≤ 9223372036854775807 := by omega
  clear hs hn hs' hc hu hd hm
  go_enter Tryd.func98, Tryd.ntmps98
  go_wp2_with fail
  refine (HC.out _ (hb0.trans ((Below.refl _ _).alloc hb0.size _))).mono ?_
  rintro e w1 ⟨rfl, hb1⟩
  obtain ⟨hc, hf⟩ := bcell hb1
  have hz := hb1.size
  simp only [World.size_alloc] at hz hc hf
  go_wp2
  have hrow : w1.heap[w0.heap.size]? = some (.cells #[.int .u64 0, .string ⟨#[]⟩, .int .i64 0, .slice none 0 0] 135 (0, 0)) := row_below hb1 (by simp) (heap_alloc_new _ _)

  refine bodyPost_ret (results_row_tmp rfl _ _ w0.heap.size 135 #[.int .u64 code, .string ⟨#[]⟩, .int .i64 D, .slice A' D c'] (0, 0) _ ?h1 ?h2 Tryd.underlying135 rfl ?h5) ?h6 ?h7

  case h1 => rfl

  case h2 => simp [World.setCell, Array.getElem?_modify, hrow]

  case h5 => kernel_rfl

  case h6 => rfl

  refine ⟨rfl, ?_⟩

  have hb2 : Below w0.heap.size w0 w1 := by
    have h0 : Below w0.heap.size w0 (w0.alloc (Obj.cells #[Value.int IntKind.u64 0, Value.string { data := #[] }, Value.int IntKind.i64 0, Value.slice none 0 0] 135)) := (Below.refl _ _).alloc (Nat.le_refl _) _
    exact below_next h0 hb1
  clear hc hf hrow HC
  exact (((((((hb2.setCell (by exact Nat.le_refl _) _).setCell (by exact Nat.le_refl _) _).setCell (by exact Nat.le_refl _) _).setCell (by exact Nat.le_refl _) _).setCell (by exact Nat.le_refl _) _).setCell (by exact Nat.le_refl _) _).setCell (by exact Nat.le_refl _) _).setCell (by exact Nat.le_refl _) _

def DmBad (e : Ending) : Prop := ∃ (a : Int) (s : ByteArray) (b : Int) (A : Option Addr) (n c : Nat) (t : TypeId) (p : Value), e = .returned (.tuple #[.agg #[.int .u64 a, .string s, .int .i64 b, .slice A n c], .iface t p])

set_option maxRecDepth 100000 in
set_option maxHeartbeats 1000000 in
theorem decode_more (A : Option Addr) (n c : Nat) (l : List UInt8) (w : World) (hs : BS w (.slice A n c) l) (hm : l.length ≤ 2147483647) (hu : UvS w) (r code : Nat) (d : List UInt8) (hd : mhRd l = some (r, code, d)) (hr : r ≠ n) :
    Calls Tryd.prog 98 #[.slice A n c] w fun e w' => DmBad e ∧ Below w.heap.size w w' := by
  obtain ⟨hn, _⟩ := hs.slice
  obtain ⟨A', c', hs', hc⟩ := mrd_ok A n c l w hs hm hu _ _ _ hd
  have HC := Lib.hid hc
  generalize d.length = D at *
  have b3 : n ≤ 9223372036854775807 := by omega
  have b4 : ((n : Int) != r) = true := by rw [bne_iff_ne]; omega
  clear hs hn hs' hc hu hd hm hr
  go_enter Tryd.func98, Tryd.ntmps98
  go_wp2_with fail
  refine (HC.out _ ((Below.refl _ _).alloc (Nat.le_refl _) _)).mono ?_
  rintro e w1 ⟨rfl, hb1⟩
  have h0 : Below w.heap.size w (w.alloc (Obj.cells #[Value.int IntKind.u64 0, Value.string { data := #[] }, Value.int IntKind.i64 0, Value.slice none 0 0] 135)) := (Below.refl _ _).alloc (Nat.le_refl _) _
  have hb2 := below_next h0 hb1
  obtain ⟨hc, hf⟩ := bcell hb1
  have hz := hb1.size
  simp only [World.size_alloc] at hz hc hf
  go_wp2
  have hrow : w1.heap[w.heap.size]? = some (.cells #[.int .u64 0, .string ⟨#[]⟩, .int .i64 0, .slice none 0 0] 135 (0, 0)) := row_below hb1 (by simp) (heap_alloc_new _ _)
  refine bodyPost_ret (results_row_tmp rfl _ _ w.heap.size 135 #[.int .u64 code, .string ⟨#[]⟩, .int .i64 D, .slice A' D c'] (0, 0) _ ?h1 ?h2 Tryd.underlying135 rfl ?h5) ?h6 ?h7
  case h1 => rfl
  case h2 => simp [World.setCell, Array.getElem?_modify, hrow]
  case h5 => kernel_rfl
  case h6 => rfl
  refine ⟨⟨_, _, _, _, _, _, _, _, rfl⟩, ?_⟩
  exact ((((((((hb2.setCell (by exact Nat.le_refl _) _).setCell (by exact Nat.le_refl _) _).setCell (by exact Nat.le_refl _) _).setCell (by exact Nat.le_refl _) _).setCell (by exact Nat.le_refl _) _).setCell (by exact Nat.le_refl _) _).setCell (by exact Nat.le_refl _) _).setCell (by exact Nat.le_refl _) _)

set_option maxRecDepth 100000 in
set_option maxHeartbeats 1000000 in
theorem decode_no (A : Option Addr) (n c : Nat) (l : List UInt8) (w : World) (hs : BS w (.slice A n c) l) (hm : l.length ≤ 2147483647) (hu : MhS w) (hd : mhRd l = none) :
    Calls Tryd.prog 98 #[.slice A n c] w fun e w' => DmBad e ∧ Below w.heap.size w w' := by
  have h0 : Below w.heap.size w (w.alloc (Obj.cells #[Value.int IntKind.u64 0, Value.string { data := #[] }, Value.int IntKind.i64 0, Value.slice none 0 0] 135)) := (Below.refl _ _).alloc (Nat.le_refl _) _
  have HC := Lib.hid (mrd_no A n c l _ (hs.below h0) hm (hu.below h0) hd)
  clear hs hu hd hm
  go_enter Tryd.func98, Tryd.ntmps98
  go_wp2_with fail
  refine HC.out.mono ?_
  rintro e w1 ⟨t, p, rfl, hb1⟩
  have hb2 := below_next h0 hb1
  obtain ⟨hc, hf⟩ := bcell hb1
  have hz := hb1.size
  simp only [World.size_alloc] at hz hc hf
  go_wp2
  have hrow : w1.heap[w.heap.size]? = some (.cells #[.int .u64 0, .string ⟨#[]⟩, .int .i64 0, .slice none 0 0] 135 (0, 0)) := row_below hb1 (by simp) (heap_alloc_new _ _)
  refine bodyPost_ret (results_row_tmp rfl _ _ w.heap.size 135 #[.int .u64 0, .string ⟨#[]⟩, .int .i64 0, .slice none 0 0] (0, 0) _ ?h1 ?h2 Tryd.underlying135 rfl ?h5) ?h6 ?h7
  case h1 => rfl
  case h2 => simp [World.setCell, Array.getElem?_modify, hrow]
  case h5 => kernel_rfl
  case h6 => rfl
  refine ⟨⟨_, _, _, _, _, _, t, p, rfl⟩, ?_⟩
  exact ((((hb2.setCell (by exact Nat.le_refl _) _).setCell (by exact Nat.le_refl _) _).setCell (by exact Nat.le_refl _) _).setCell (by exact Nat.le_refl _) _)

/-- A pointer to a new block that holds what a multihash was taken apart to. -/
def DmPtr (w w' : World) (code : Nat) (A : Option Addr) (D c : Nat) (e : Ending) : Prop := ∃ g, e = .returned (.tuple #[.pointer (some ⟨g, 0, none⟩), .nilIface]) ∧ w.heap.size ≤ g ∧
  w'.heap[g]? = some (.cells #[.int .u64 code, .string ⟨#[]⟩, .int .i64 D, .slice A D c] 135 (0, 0))

set_option maxRecDepth 100000 in
set_option maxHeartbeats 1000000 in
theorem Decode_ok (A : Option Addr) (n c : Nat) (l : List UInt8) (w : World) (hs : BS w (.slice A n c) l) (hm : l.length ≤ 2147483647) (hu : UvS w) (code : Nat) (d : List UInt8) (hd : mhRd l = some (n, code, d)) :
    ∃ A' c', BS w (.slice A' d.length c') d ∧ ∀ w0, Below w.heap.size w w0 →
    Calls Tryd.prog 72 #[.slice A n c] w0 fun e w' => DmPtr w0 w' code A' d.length c' e ∧ Below w0.heap.size w0 w' := by
  obtain ⟨A', c', hs', hc⟩ := decode_ok A n c l w hs hm hu _ _ hd
  refine ⟨A', c', hs', ?_⟩
  intro w0 hb0
  have HC := Lib.hid (hc w0 hb0)
  generalize d.length = D at *
  clear hs hs' hc hu hd hm
  go_enter Tryd.func72, Tryd.ntmps72
  go_wp2_with fail
  refine HC.out.mono ?_
  rintro e w1 ⟨rfl, hb1⟩
  go_wp2
  go_ret2
  refine ⟨⟨_, rfl, hb1.size, ?_⟩, ?_⟩
  · exact heap_alloc_new _ _
  · exact hb1.alloc hb1.size _

/-- nil, and an error. -/
def PtrBad (e : Ending) : Prop := ∃ t p, e = .returned (.tuple #[.pointer none, .iface t p])

set_option maxRecDepth 100000 in
set_option maxHeartbeats 1000000 in
theorem Decode_bad (A : Option Addr) (n c : Nat) (l : List UInt8) (w : World) (hs : BS w (.slice A n c) l) (hm : l.length ≤ 2147483647) (hu : MhS w) (hd : ∀ code d, mhRd l ≠ some (n, code, d)) :
    Calls Tryd.prog 72 #[.slice A n c] w fun e w' => PtrBad e ∧ Below w.heap.size w w' := by
  have hc : Calls Tryd.prog 98 #[.slice A n c] w fun e w' => DmBad e ∧ Below w.heap.size w w' := by
    cases h : mhRd l with
    | none => exact decode_no A n c l w hs hm hu h
    | some x =>
      obtain ⟨r, code, d⟩ := x
      exact decode_more A n c l w hs hm hu.toUvS r code d h (fun e => hd code d (by rw [h, e]))
  have HC := Lib.hid hc
  clear hs hu hd hm hc
  go_enter Tryd.func72, Tryd.ntmps72
  go_wp2_with fail
  refine HC.out.mono ?_
  rintro e w1 ⟨⟨a, s, b, A1, n1, c1, t, p, rfl⟩, hb1⟩
  go_wp2
  go_ret2
  exact ⟨⟨t, p, rfl⟩, hb1.alloc hb1.size _⟩

set_option maxRecDepth 100000 in
set_option maxHeartbeats 1000000 in
theorem MHFrom_ok (A : Option Addr) (n c : Nat) (l : List UInt8) (w : World) (hs : BS w (.slice A n c) l) (hm : l.length ≤ 2147483647) (hu : UvS w) (r code : Nat) (d : List UInt8) (hd : mhRd l = some (r, code, d)) (hr : r ≤ n) :
    BS w (.slice A r c) (l.take r) ∧
    Calls Tryd.prog 105 #[.slice A n c] w fun e w' => e = .returned (.tuple #[.int .i64 r, .slice A r c, .nilIface]) ∧ Below w.heap.size w w' := by
  obtain ⟨A', c', _, hc⟩ := mrd_ok A n c l w hs hm hu _ _ _ hd
  obtain ⟨hrun, _, hs2⟩ := hs.to_ (P := Tryd.prog) Tryd.underlying43 info_u8 r hr
  refine ⟨hs2, ?_⟩
  have HC := Lib.hid (hc w (Below.refl _ _))
  generalize d.length = D at *
  clear hs hc hu hd hm hs2 hr
  go_enter Tryd.func105, Tryd.ntmps105
  go_wp2_with fail
  refine HC.out.mono ?_
  rintro e w1 ⟨rfl, hb1⟩
  go_wp2
  go_quiet (fail)
  go_wp2
  go_ret3
  exact ⟨rfl, hb1.drewN _⟩

set_option maxRecDepth 100000 in
set_option maxHeartbeats 1000000 in
theorem MHFrom_no (A : Option Addr) (n c : Nat) (l : List UInt8) (w : World) (hs : BS w (.slice A n c) l) (hm : l.length ≤ 2147483647) (hu : MhS w) (hd : mhRd l = none) :
    Calls Tryd.prog 105 #[.slice A n c] w fun e w' => ∃ t p, e = .returned (.tuple #[.int .i64 0, .slice none 0 0, .iface t p]) ∧ Below w.heap.size w w' := by
  have HC := Lib.hid (mrd_no A n c l w hs hm hu hd)
  clear hs hu hd hm
  go_enter Tryd.func105, Tryd.ntmps105
  go_wp2_with fail
  refine HC.out.mono ?_
  rintro e w1 ⟨t, p, rfl, hb1⟩
  go_wp2
  go_ret3
  exact ⟨t, p, rfl, hb1⟩

/-- A string made to bytes: where the contracts begin. -/
theorem conv_in (w : World) (s : ByteArray) : ∃ c w1, (convert 9 43 (.string s)).run Tryd.prog w = .ok (.slice (some ⟨w.heap.size, 0, none⟩) s.size c) w1 ∧ Below w.heap.size w w1 ∧ BS w1 (.slice (some ⟨w.heap.size, 0, none⟩) s.size c) s.data.toList := by
  obtain ⟨c, w1, hconv, hc, hb, hsz, _, hcells⟩ := conv_bytes (P := Tryd.prog) Tryd.underlying9 Tryd.underlying43 Tryd.underlying5 w s
  have hlen : s.data.toList.length = s.size := by rw [Array.length_toList]; rfl
  have HS := BS.of_cells (w := w1) (b := w.heap.size) (o := 0) (c := c) (l := s.data.toList) (by omega) hcells
  rw [hlen] at HS
  exact ⟨c, w1, hconv, hb, HS⟩



end Go.Proofs.YthfgnhgijgjggaaDoor
/- Words on memory for readers: what is kept but for some blocks; a slice and a reader that stands somewhere in it. -/
namespace Go.Proofs.YthfgnhgijgjggaaDoor
open Go.RowKit

/-- All blocks that were there, but those of S, are as they were. -/
structure Keep (S : Nat → Prop) (w w' : World) : Prop where
  os : w'.os = w.os
  tape : w'.tape = w.tape
  output : w'.output = w.output
  size : w.heap.size ≤ w'.heap.size
  block : ∀ k, k < w.heap.size → ¬ S k → w'.heap[k]? = w.heap[k]?

theorem Keep.refl (S : Nat → Prop) (w : World) : Keep S w w := ⟨rfl, rfl, rfl, Nat.le_refl _, fun _ _ _ => rfl⟩
theorem Keep.trans {S : Nat → Prop} {a b c : World} (h : Keep S a b) (k : Keep S b c) : Keep S a c :=
  ⟨k.os.trans h.os, k.tape.trans h.tape, k.output.trans h.output, Nat.le_trans h.size k.size, fun i hi hs => (k.block i (Nat.lt_of_lt_of_le hi h.size) hs).trans (h.block i hi hs)⟩
theorem Keep.mono {S T : Nat → Prop} {a b : World} (h : Keep S a b) (k : ∀ i, i < a.heap.size → S i → T i) : Keep T a b :=
  ⟨h.os, h.tape, h.output, h.size, fun i hi hs => h.block i hi fun hS => hs (k i hi hS)⟩
/-- What the second part may turn of old blocks, the first may. -/
theorem Keep.trans2 {S T : Nat → Prop} {a b c : World} (h : Keep S a b) (k : Keep T b c) (hT : ∀ i, i < a.heap.size → T i → S i) : Keep S a c :=
  ⟨k.os.trans h.os, k.tape.trans h.tape, k.output.trans h.output, Nat.le_trans h.size k.size, fun i hi hs => (k.block i (Nat.lt_of_lt_of_le hi h.size) fun hh => hs (hT i hi hh)).trans (h.block i hi hs)⟩
theorem _root_.Go.RowKit.Below.keep {S : Nat → Prop} {w w' : World} (h : Below w.heap.size w w') : Keep S w w' :=
  ⟨h.os, h.tape, h.output, h.size, fun k hk _ => h.block k hk⟩
theorem Keep.below {S : Nat → Prop} {B : Nat} {w w' : World} (h : Keep S w w') (hS : ∀ k, k < B → ¬ S k) (hB : B ≤ w.heap.size) : Below B w w' :=
  ⟨h.os, h.tape, h.output, h.size, fun k hk => h.block k (by omega) (hS k hk)⟩
theorem Keep.drewN {S : Nat → Prop} {a w : World} (h : Keep S a w) (n : Nat) : Keep S a (w.drewN n) := h.trans ⟨rfl, rfl, rfl, Nat.le_refl _, fun _ _ _ => rfl⟩
theorem keep_drewN (S : Nat → Prop) (w : World) (n : Nat) : Keep S w (w.drewN n) := (Keep.refl S w).drewN n
theorem Keep.cell {S : Nat → Prop} {w w' : World} (h : Keep S w w') {p : Addr} {u : Value} (hc : w.cell? p = some u) (hp : ¬ S p.block) : w'.cell? p = some u :=
  (World.cell?_of_block (w := w) (h.block p.block (block_of_cell hc) hp)).trans hc
theorem block_of_row {w : World} {g : Nat} {o : Obj} (h : w.heap[g]? = some o) : g < w.heap.size := by
  rcases Nat.lt_or_ge g w.heap.size with hp | hp
  · exact hp
  · rw [Array.getElem?_eq_none hp] at h; cases h
theorem Keep.row {S : Nat → Prop} {w w' : World} (h : Keep S w w') {g : Nat} {o : Obj} (hg : w.heap[g]? = some o) (hs : ¬ S g) : w'.heap[g]? = some o := (h.block g (block_of_row hg) hs).trans hg
theorem Keep.setCell {S : Nat → Prop} {a w : World} (h : Keep S a w) {p : Nat} (hp : S p) (o : Nat) (v : Value) : Keep S a (w.setCell ⟨p, o, none⟩ v) :=
  h.trans2 (S := S) (T := fun k => k = p) ⟨rfl, rfl, rfl, by simp [World.setCell], fun k _ hk => Below.heap_setCell _ _ _ _ hk⟩ (fun i _ e => e ▸ hp)
theorem Keep.setRow {S : Nat → Prop} {a w : World} (h : Keep S a w) {p : Nat} (hp : S p) (cs : Array Value) : Keep S a (w.setRow p cs) :=
  h.trans2 (S := S) (T := fun k => k = p) ⟨rfl, rfl, rfl, by simp [World.setRow], fun k _ hk => setRow_other w p k cs hk⟩ (fun i _ e => e ▸ hp)
theorem Keep.alloc {S : Nat → Prop} {a w : World} (h : Keep S a w) (o : Obj) : Keep S a (w.alloc o) :=
  h.trans (((Below.refl _ _).alloc (Nat.le_refl _) _).keep)

/-- The slice value v holds the bytes l, in a block that is not S. -/
structure BSo (S : Nat → Prop) (w : World) (v : Value) (l : List UInt8) : Prop where
  bs : BS w v l
  out : 0 < l.length → ∀ A n c a, v = .slice A n c → A = some a → ¬ S a.block
theorem BSo.keep {S : Nat → Prop} {w w' : World} {v : Value} {l : List UInt8} (h : BSo S w v l) (hk : Keep S w w') : BSo S w' v l := by
  obtain ⟨⟨A, c, rfl, hc, h⟩, ho⟩ := h
  refine ⟨⟨A, c, rfl, hc, fun hl => ?_⟩, ho⟩
  obtain ⟨b, o, e0, h2⟩ := h hl
  subst e0
  exact ⟨b, o, rfl, fun j hj => hk.cell (h2 j hj) (ho hl (some ⟨b, o, none⟩) _ _ ⟨b, o, none⟩ rfl rfl)⟩

/-- 'copy(dst, src)' into a row that is known whole: only that row has turned. -/
theorem wpList_copy_keep {P : Program} {w : World} {ops : Array Oper} {rest : List Oper} {o : Oper} {a : Act} {Q : Exit → Act → World → Prop} (hgd : o.guard = none) (d s : Operand) (dT sT : TypeId)
    (ho : o.op = .call { callee := .builtin .copy, args := #[d, s], argTypes := #[dT, sT] }) (elem : TypeId) (hu : P.underlying dT = some (.slice elem)) (hsz : (P.info? elem).map (·.size) = some 1)
    (dp sp : Option Addr) (dLen dCap sLen sCap : Nat) (hd : a.eval d = .slice dp dLen dCap) (hs : a.eval s = .slice sp sLen sCap)
    (g off : Nat) (cur : List Value) (t : TypeId) (hg : w.heap[g]? = some (.cells cur.toArray t (0, 0))) (cs : List Value) (hn : cs.length = Nat.min sLen dLen)
    (hpos : 0 < cs.length → dp = some ⟨g, off, none⟩ ∧ ∃ ad, sp = some ad ∧ ∀ j v, cs[j]? = some v → w.cell? (ad.add j) = some v)
    (hfit : off + cs.length ≤ cur.length) (h1 : ∀ v ∈ cs, v.oneCell' = true)
    (h : ∀ w', Hid (w'.heap[g]? = some (.cells (splice cur off cs).toArray t (0, 0))) → Keep (fun k => k = g) w w' → wpList P ops Q rest (a.put o.dst (goInt cs.length)) w') :
    wpList P ops Q (o :: rest) a w := by
  by_cases h0 : cs.length = 0
  · obtain rfl : cs = [] := List.eq_nil_of_length_eq_zero h0
    refine wpList_copy_nothing hgd d s dT sT ho elem hu hsz dp sp dLen dCap sLen sCap hd hs (by simpa using hn.symm) ?_
    exact h w (show _ = _ by simpa [splice] using hg) (Keep.refl _ _)
  · obtain ⟨rfl, ad, rfl, hsrc⟩ := hpos (by omega)
    refine wpList_copy_own hgd d s dT sT ho elem hu hsz g off dLen dCap ad sLen sCap hd hs cur.toArray t hg cs hn hsrc (by simpa using hfit) h1 ?_
    exact h _ (show _ = _ by simpa [splice] using setRow_heap w g _ _ t _ hg) ((Keep.refl (fun k => k = g) w).setRow (p := g) rfl _)

/-- A reader in block p (of type t) that stands at byte i of the bytes l of the slice v; l does not lie in blocks from p on. -/
structure RdrT (t : TypeId) (w : World) (p : Nat) (v : Value) (l : List UInt8) (i : Nat) : Prop where
  row : ∃ r : Int, w.heap[p]? = some (.cells #[v, .int .i64 i, .int .i64 r] t (0, 0))
  bs : BSo (fun k => p ≤ k) w v l
  le : i ≤ l.length
  fits : l.length ≤ 9223372036854775807
theorem RdrT.keep {t : TypeId} {w w' : World} {p : Nat} {v : Value} {l : List UInt8} {i : Nat} (h : RdrT t w p v l i) {S : Nat → Prop} (hk : Keep S w w') (hS : ∀ k, S k → p < k) : RdrT t w' p v l i := by
  obtain ⟨⟨r, hr⟩, hb, hl, hf⟩ := h
  exact ⟨⟨r, hk.row hr (fun hh => Nat.lt_irrefl _ (hS _ hh))⟩, hb.keep (hk.mono fun i _ h => Nat.le_of_lt (hS i h)), hl, hf⟩
/-- The slice v of the bytes l does not lie in block h. -/
def OffBlock (v : Value) (l : List UInt8) (h : Nat) : Prop := 0 < l.length → ∀ A n c a, v = .slice A n c → A = some a → a.block ≠ h
/-- .. where the turned block is another one, and not where the bytes lie. -/
theorem RdrT.keep' {t : TypeId} {w w' : World} {p : Nat} {v : Value} {l : List UInt8} {i : Nat} (h : RdrT t w p v l i) {g : Nat} (hk : Keep (fun k => k = g) w w') (hS : g ≠ p) (hv : OffBlock v l g) : RdrT t w' p v l i := by
  obtain ⟨⟨r, hr⟩, hb, hl, hf⟩ := h
  refine ⟨⟨r, hk.row hr (fun hh => hS hh.symm)⟩, ⟨(BSo.keep (S := fun k => k = g) ⟨hb.bs, fun h0 A n c a e1 e2 => hv h0 A n c a e1 e2⟩ hk).bs, hb.out⟩, hl, hf⟩
theorem RdrT.below {t : TypeId} {w w' : World} {p : Nat} {v : Value} {l : List UInt8} {i : Nat} (h : RdrT t w p v l i) (hk : Below w.heap.size w w') : RdrT t w' p v l i := h.keep (S := fun _ => False) hk.keep (fun _ h => h.elim)
theorem RdrT.drew {t : TypeId} {w : World} {p : Nat} {v : Value} {l : List UInt8} {i : Nat} (h : RdrT t w p v l i) : RdrT t w.drew p v l i := h.keep (S := fun _ => False) ((Keep.refl _ w).drewN 1) (fun _ h => h.elim)
theorem keep_drew (S : Nat → Prop) (w : World) : Keep S w w.drew := (Keep.refl _ w).drewN 1
theorem splice_whole {α : Type} (L cs : List α) (h : cs.length = L.length) : splice L 0 cs = cs := by
  unfold splice
  rw [Nat.zero_add, h, List.drop_length]; simp
end Go.Proofs.YthfgnhgijgjggaaDoor
/- Contracts of a strings.Builder that has been grown: copyCheck, WriteByte, Write. -/
namespace Go.Proofs.YthfgnhgijgjggaaDoor
open Go.RowKit

abbrev BldAt (B b : Nat) (bs : List Value) (w : World) : Prop := Lib.BuilderAt 182 5 B b (.pointer (some ⟨b, 0, none⟩)) bs w

theorem bldInfo : ∃ j, Tryd.prog.info? 182 = some j := by
  have h : (Tryd.prog.info? 182).map (·.size) = some 2 := by kernel_rfl
  obtain ⟨i, hi, _⟩ := Option.map_eq_some_iff.1 h
  exact ⟨i, hi⟩

set_option maxRecDepth 100000 in
set_option maxHeartbeats 1000000 in
theorem copyCheck_used (b : Nat) (w : World) (h0 : w.cell? ⟨b, 0, none⟩ = some (.pointer (some ⟨b, 0, none⟩))) :
    Calls Tryd.prog 110 #[.pointer (some ⟨b, 0, none⟩)] w fun e w' => e = .returned (.tuple #[]) ∧ w = w' := by
  obtain ⟨j, hj⟩ := bldInfo
  have hne := Lib.run_neq_ptr_same (P := Tryd.prog) w ⟨b, 0, none⟩ Tryd.underlying180 hj
  go_enter Tryd.func110, Tryd.ntmps110
  go_wp2
  go_end0
  exact ⟨rfl, rfl⟩

theorem bld_neB : (182 : TypeId) ≠ 5 := by decide
theorem info_u8p : ∃ i, Tryd.prog.info? 5 = some i ∧ i.zero = some (.int .u8 0) ∧ i.size = 1 ∧ i.bytes = 1 := by
  obtain ⟨i, hi, h2⟩ := Option.map_eq_some_iff.1 info_u8
  simp only [Prod.mk.injEq] at h2
  exact ⟨i, hi, h2.1, h2.2.1, h2.2.2⟩

set_option maxRecDepth 100000 in
set_option maxHeartbeats 2000000 in
theorem bldWriteByte (B b : Nat) (bs : List Value) (c : Int) (w : World) (h : BldAt B b bs w) (hlen : bs.length + 1 ≤ 140737488355328) (hBw : B ≤ w.heap.size) :
    Calls Tryd.prog 95 #[.pointer (some ⟨b, 0, none⟩), .int .u8 c] w fun e w' => e = .returned .nilIface ∧ BldAt B b (bs ++ [.int .u8 c]) w' ∧ Below B w w' := by
  obtain ⟨i0, hi, hz0, hz1, hz2⟩ := info_u8p
  obtain ⟨hB, v, hbk, hown, hne⟩ := h
  have c0 : w.cell? ⟨b, 0, none⟩ = some (.pointer (some ⟨b, 0, none⟩)) := by rw [Lib.cell_of_heap hbk]; rfl
  have c1 : w.cell? ⟨b, 1, none⟩ = some v := by rw [Lib.cell_of_heap hbk]; rfl
  go_enter Tryd.func95, Tryd.ntmps95
  go_wp2_with fail
  refine (copyCheck_used b w c0).mono ?_
  rintro e w1 ⟨rfl, rfl⟩
  go_wp2_with (at_builtin; refine wpList_append_own _ rfl _ _ 43 rfl B 5 i0 (.int .u8 0) 1 1 Tryd.underlying43 hi hz0 hz1 hz2 rfl (by decide) _ _ _ rfl (hown.alloc _) ⟨w.heap.size, 0, none⟩ 1 1 [.int .u8 c] rfl rfl ?c1 ?c2 ?c3 ?c4 ?c5 ?_)
  case c1 =>
    intro j u hj
    match j, hj with
    | 0, hj => simp at hj; subst hj; simp [Addr.add]
  case c2 => intro u hu; simp at hu; subst hu; rfl
  case c3 => unfold maxLen; omega
  case c4 => omega
  case c5 => simp; omega
  intro v' w2 hown' hgrow _
  have hlt : b < w.heap.size := block_of_row hbk
  have hb2 : w2.heap[b]? = some (.cells #[.pointer (some ⟨b, 0, none⟩), v] 182 (0, 0)) := by
    rw [hgrow.block b (by simp; omega) (fun e => hne e.symm), Lib.alloc_old w _ b hlt]
    exact hbk
  have d0 : w2.cell? ⟨b, 0, none⟩ = some (.pointer (some ⟨b, 0, none⟩)) := by rw [Lib.cell_of_heap hb2]; rfl
  have d1 : w2.cell? ⟨b, 1, none⟩ = some v := by rw [Lib.cell_of_heap hb2]; rfl
  have f1 : w2.frozen? ⟨b, 1, none⟩ = false := Lib.frozen_of_heap hb2 1
  obtain ⟨g, cap, rfl⟩ : ∃ g cap, v' = .slice (some ⟨g, 0, none⟩) (bs.length + 1) cap := by
    rcases hown'.2 with ⟨_, h0⟩ | ⟨g, cap, cur, hv, _⟩
    · omega
    · exact ⟨g, cap, hv⟩
  go_wp2
  go_ret
  refine ⟨rfl, ?_, ?_⟩
  · exact Lib.BuilderAt.put (T := 182) (e := 5) hB hb2 (bs' := bs ++ [.int .u8 c]) (by simpa using hown') bld_neB
  · exact (((Below.refl B w).alloc hBw _).grown hgrow (by simp; omega) (fun k hk => (hown.lt k hk).1)).setCell (p := ⟨b, 1, none⟩) hB _

set_option maxRecDepth 100000 in
set_option maxHeartbeats 2000000 in
theorem bldWrite (B b : Nat) (bs : List Value) (A : Option Addr) (n c : Nat) (l : List UInt8) (w : World) (h : BldAt B b bs w) (hs : BS w (.slice A n c) l) (hn : 0 < n) (hlen : bs.length + n ≤ 140737488355328) (hBw : B ≤ w.heap.size) :
    Calls Tryd.prog 96 #[.pointer (some ⟨b, 0, none⟩), .slice A n c] w fun e w' => e = .returned (.tuple #[.int .i64 n, .nilIface]) ∧ BldAt B b (bs ++ Lib.byteCells l) w' ∧ Below B w w' := by
  obtain ⟨i0, hi, hz0, hz1, hz2⟩ := info_u8p
  obtain ⟨hB, v, hbk, hown, hne⟩ := h
  obtain ⟨hnl, _⟩ := hs.slice
  obtain ⟨b', o', rfl, hcl⟩ := hs.at_ hn
  have c0 : w.cell? ⟨b, 0, none⟩ = some (.pointer (some ⟨b, 0, none⟩)) := by rw [Lib.cell_of_heap hbk]; rfl
  have c1 : w.cell? ⟨b, 1, none⟩ = some v := by rw [Lib.cell_of_heap hbk]; rfl
  have hnews : ∀ j u, (Lib.byteCells l)[j]? = some u → w.cell? ((⟨b', o', none⟩ : Addr).add j) = some u := fun j u hv => by
    have hj : j < l.length := by
      rcases Nat.lt_or_ge j l.length with h | h
      · exact h
      · rw [List.getElem?_eq_none (by rw [Lib.byteCells_length]; exact h)] at hv; cases hv
    have ead : (⟨b', o', none⟩ : Addr).add j = ⟨b', o' + j, none⟩ := by by_cases h : j = 0 <;> simp [Addr.add, h]
    rw [ead, hcl j hj]
    simp [Lib.byteCells, List.getElem?_eq_getElem hj] at hv
    rw [hv]
  have hl : (Lib.byteCells l).length = n := by rw [Lib.byteCells_length]; exact hnl.symm
  generalize hNW : Lib.byteCells l = news at hnews hl
  have h1 : ∀ u ∈ news, u.oneCell' = true := by rw [← hNW]; exact Lib.byteCells_one l
  clear hNW hcl hs
  have HN := Lib.hid hnl
  have HL := Lib.hid hl
  have HNE := Lib.hid hnews
  clear hnl hl hnews
  go_enter Tryd.func96, Tryd.ntmps96
  go_wp2_with fail
  refine (copyCheck_used b w c0).mono ?_
  rintro e w1 ⟨rfl, rfl⟩
  go_wp2_with (at_builtin; refine wpList_append_own _ rfl _ _ 43 rfl B 5 i0 (.int .u8 0) 1 1 Tryd.underlying43 hi hz0 hz1 hz2 rfl (by decide) _ _ _ rfl hown ⟨b', o', none⟩ n c news rfl (by rw [HL.out]; omega) HNE.out h1 ?c3 ?c4 ?c5 ?_)
  case c3 => unfold maxLen; omega
  case c4 => omega
  case c5 => omega
  intro v' w2 hown' hgrow _
  have hlt : b < w.heap.size := block_of_row hbk
  have hb2 : w2.heap[b]? = some (.cells #[.pointer (some ⟨b, 0, none⟩), v] 182 (0, 0)) := by
    rw [hgrow.block b hlt (fun e => hne e.symm)]
    exact hbk
  have d0 : w2.cell? ⟨b, 0, none⟩ = some (.pointer (some ⟨b, 0, none⟩)) := by rw [Lib.cell_of_heap hb2]; rfl
  have d1 : w2.cell? ⟨b, 1, none⟩ = some v := by rw [Lib.cell_of_heap hb2]; rfl
  have f1 : w2.frozen? ⟨b, 1, none⟩ = false := Lib.frozen_of_heap hb2 1
  obtain ⟨ao, n', cap, rfl⟩ : ∃ ao n' cap, v' = .slice ao n' cap := by
    rcases hown'.2 with ⟨hv, _⟩ | ⟨g, cap, cur, hv, _⟩
    · exact ⟨_, _, _, hv⟩
    · exact ⟨_, _, _, hv⟩
  go_wp2
  go_ret2
  refine ⟨rfl, ?_, ?_⟩
  · exact Lib.BuilderAt.put (T := 182) (e := 5) hB hb2 (bs' := bs ++ news) (by rw [List.length_append, HL.out]; exact hown') bld_neB
  · exact ((Below.refl B w).grown hgrow hBw (fun k hk => (hown.lt k hk).1)).setCell (p := ⟨b, 1, none⟩) hB _
end Go.Proofs.YthfgnhgijgjggaaDoor
/- The plain law of identifiers: how one is written, how it is read of bytes. No program in sight. -/
namespace Go.Proofs.YthfgnhgijgjggaaDoor
open Go.RowKit

/-- An identifier: version, codec, code, digest. -/
structure CidD where
  ver : Nat
  codec : Nat
  code : Nat
  dig : List UInt8

/-- Its bytes. -/
def cidEnc (c : CidD) : List UInt8 := if c.ver = 0 then mhEnc c.code c.dig else 1 :: (Lib.uvarint c.codec ++ mhEnc c.code c.dig)

/-- spec.Tidy. -/
def CidD.tidy (c : CidD) : Prop := (c.ver = 0 ∧ c.codec = 112 ∧ c.code = 18 ∧ c.dig.length = 32) ∨ (c.ver = 1 ∧ c.codec < 9223372036854775808 ∧ c.code < 9223372036854775808)

/-- Do the bytes begin as those of version 0? -/
def cidZero (l : List UInt8) : Prop := 2 < l.length ∧ l[0]? = some 18 ∧ l[1]? = some 32
instance (l : List UInt8) : Decidable (cidZero l) := by unfold cidZero; exact inferInstance

/-- Reading an identifier of the beginning of bytes, and how many bytes it has. -/
def cidRd (l : List UInt8) : Option (CidD × Nat) :=
  if cidZero l then (if l.length < 34 then none else some (⟨0, 112, 18, (l.drop 2).take 32⟩, 34)) else
  match uvDec l with
  | .ok v n => if v = 1 then
      (match uvDec (l.drop n) with
      | .ok codec m =>
        (match mhRd ((l.drop n).drop m) with
        | some (r, code, d) => some (⟨1, codec, code, d⟩, n + m + r)
        | none => none)
      | _ => none) else none
  | _ => none

theorem uvarint18 : Lib.uvarint 18 = [18] := Lib.uvarint_small (by omega)
theorem uvarint32 : Lib.uvarint 32 = [32] := Lib.uvarint_small (by omega)
theorem uvarint1 : Lib.uvarint 1 = [1] := Lib.uvarint_small (by omega)

theorem uvDec_not_ok {l : List UInt8} (h : (uvDec l).no) (x m : Nat) : uvDec l ≠ .ok x m := by
  intro e; rw [e] at h; exact h

theorem uvDec_one (l : List UInt8) : uvDec (1 :: l) = .ok 1 1 := by
  have := uvDec_back 1 (by omega) l
  rw [uvarint1] at this
  exact this

theorem not_zero_one (l : List UInt8) : ¬ cidZero (1 :: l) := by
  intro ⟨_, h, _⟩
  simp at h

theorem mhEnc_18 (d : List UInt8) (hd : d.length = 32) : mhEnc 18 d = 18 :: 32 :: d := by
  unfold mhEnc; rw [hd, uvarint18, uvarint32]; rfl

/-- What is written is read, whatever stands behind it. -/
theorem cidRd_enc (c : CidD) (more : List UInt8) (ht : c.tidy) (hd : c.dig.length ≤ 2147483647) : cidRd (cidEnc c ++ more) = some (c, (cidEnc c).length) := by
  obtain ⟨v, codec, code, d⟩ := c
  rcases ht with ⟨h0, h1, h2, h3⟩ | ⟨h0, h1, h2⟩
  · simp only at h0 h1 h2 h3 hd
    subst h0 h1 h2
    have e : cidEnc ⟨0, 112, 18, d⟩ = 18 :: 32 :: d := by unfold cidEnc; rw [if_pos rfl]; exact mhEnc_18 d h3
    rw [e]
    unfold cidRd
    have hz : cidZero (18 :: 32 :: d ++ more) := ⟨by simp [h3]; omega, rfl, rfl⟩
    rw [if_pos hz, if_neg (by simp [h3])]
    simp [h3, List.take_left']
  · simp only at h0 h1 h2 hd
    subst h0
    have e : cidEnc ⟨1, codec, code, d⟩ = 1 :: (Lib.uvarint codec ++ mhEnc code d) := by unfold cidEnc; rw [if_neg (show ¬ (1 : Nat) = 0 by decide)]
    rw [e]
    unfold cidRd
    rw [List.cons_append, if_neg (not_zero_one _), uvDec_one]
    dsimp only
    rw [if_pos rfl, List.drop_succ_cons, List.drop_zero, List.append_assoc, uvDec_back codec h1]
    dsimp only
    rw [List.drop_left, mhRd_enc code d more h2 hd]
    simp [Nat.add_comm, Nat.add_assoc]

theorem cidRd_enc0 (c : CidD) (ht : c.tidy) (hd : c.dig.length ≤ 2147483647) : cidRd (cidEnc c) = some (c, (cidEnc c).length) := by
  have := cidRd_enc c [] ht hd
  rwa [List.append_nil] at this

/-- The bytes of which a multihash is read are those with which it is written. -/
theorem mhRd_take {l : List UInt8} {r code : Nat} {d : List UInt8} (h : mhRd l = some (r, code, d)) : r ≤ l.length ∧ l.take r = mhEnc code d ∧ d.length ≤ 2147483647 ∧ code < 9223372036854775808 := by
  obtain ⟨h2, m1, x2, m2, e1, e2, hx, hx2, rfl, rfl⟩ := mhRd_some h
  obtain ⟨g1, g2, g3, _, g5⟩ := uvDec_ok e1
  obtain ⟨k1, k2, k3, _, k5⟩ := uvDec_ok e2
  have hc := uvDec_lt63 e1
  have hl2 : ((l.drop m1).drop m2).length = l.length - m1 - m2 := by rw [List.length_drop, List.length_drop]
  have hlen : (((l.drop m1).drop m2).take x2).length = x2 := by rw [List.length_take]; omega
  have hl1 : (l.drop m1).length = l.length - m1 := by simp
  refine ⟨by omega, ?_, by omega, hc⟩
  unfold mhEnc
  rw [hlen, ← g5, ← k5]
  rw [show m1 + m2 + x2 = m1 + (m2 + x2) by omega, List.take_add, List.take_add]

theorem cidRd_some {l : List UInt8} {c : CidD} {n : Nat} (h : cidRd l = some (c, n)) :
    (cidZero l ∧ 34 ≤ l.length ∧ n = 34 ∧ c = ⟨0, 112, 18, (l.drop 2).take 32⟩) ∨
    (¬ cidZero l ∧ uvDec l = .ok 1 1 ∧ ∃ m r, uvDec (l.drop 1) = .ok c.codec m ∧ mhRd ((l.drop 1).drop m) = some (r, c.code, c.dig) ∧ n = 1 + m + r ∧ c.ver = 1) := by
  unfold cidRd at h
  by_cases hz : cidZero l
  · rw [if_pos hz] at h
    by_cases h34 : l.length < 34
    · rw [if_pos h34] at h; cases h
    · rw [if_neg h34] at h
      injection h with h
      injection h with h1 h2
      exact .inl ⟨hz, by omega, h2.symm, h1.symm⟩
  · rw [if_neg hz] at h
    refine .inr ⟨hz, ?_⟩
    rcases uvR_cases (uvDec l) with ⟨v, k, e1⟩ | hno
    · rw [e1] at h
      dsimp only at h
      by_cases hv : v = 1
      · subst hv
        rw [if_pos rfl] at h
        have hk : k = 1 := by
          obtain ⟨g1, g2, _, _, g5⟩ := uvDec_ok e1
          have := congrArg List.length g5
          rw [uvarint1, List.length_take] at this
          simp at this
          omega
        subst hk
        refine ⟨e1, ?_⟩
        rcases uvR_cases (uvDec (l.drop 1)) with ⟨codec, m, e2⟩ | hno
        · rw [e2] at h
          dsimp only at h
          cases e3 : mhRd ((l.drop 1).drop m) with
          | none => rw [e3] at h; cases h
          | some x =>
            obtain ⟨r, code, d⟩ := x
            rw [e3] at h
            dsimp only at h
            injection h with h
            injection h with h1 h2
            subst h1
            exact ⟨m, r, e2, e3, h2.symm, rfl⟩
        · exfalso
          cases hh : uvDec (l.drop 1) with
          | ok => rw [hh] at hno; exact hno
          | _ => rw [hh] at h; cases h
      · rw [if_neg hv] at h; cases h
    · exfalso
      cases hh : uvDec l with
      | ok => rw [hh] at hno; exact hno
      | _ => rw [hh] at h; cases h

theorem cidRd_none {l : List UInt8} (h : cidRd l = none) :
    (cidZero l ∧ l.length < 34) ∨ (¬ cidZero l ∧ ((uvDec l).no ∨ (∃ v n, uvDec l = .ok v n ∧ v ≠ 1) ∨ (uvDec l = .ok 1 1 ∧ ((uvDec (l.drop 1)).no ∨ ∃ codec m, uvDec (l.drop 1) = .ok codec m ∧ mhRd ((l.drop 1).drop m) = none)))) := by
  unfold cidRd at h
  by_cases hz : cidZero l
  · rw [if_pos hz] at h
    by_cases h34 : l.length < 34
    · exact .inl ⟨hz, h34⟩
    · rw [if_neg h34] at h; cases h
  · rw [if_neg hz] at h
    refine .inr ⟨hz, ?_⟩
    rcases uvR_cases (uvDec l) with ⟨v, k, e1⟩ | hno
    · rw [e1] at h
      dsimp only at h
      by_cases hv : v = 1
      · subst hv
        rw [if_pos rfl] at h
        have hk : k = 1 := by
          obtain ⟨g1, g2, _, _, g5⟩ := uvDec_ok e1
          have := congrArg List.length g5
          rw [uvarint1, List.length_take] at this
          simp at this
          omega
        subst hk
        refine .inr (.inr ⟨e1, ?_⟩)
        rcases uvR_cases (uvDec (l.drop 1)) with ⟨codec, m, e2⟩ | hno
        · rw [e2] at h
          dsimp only at h
          cases e3 : mhRd ((l.drop 1).drop m) with
          | none => exact .inr ⟨codec, m, e2, e3⟩
          | some x =>
            obtain ⟨r, code, d⟩ := x
            rw [e3] at h
            cases h
        · exact .inl hno
      · exact .inr (.inl ⟨v, k, e1, hv⟩)
    · exact .inl hno

/-- The bytes of which an identifier is read are those with which it is written; it is tidy. -/
theorem cidRd_take {l : List UInt8} {c : CidD} {n : Nat} (h : cidRd l = some (c, n)) : n ≤ l.length ∧ l.take n = cidEnc c ∧ c.tidy ∧ c.dig.length ≤ 2147483647 := by
  rcases cidRd_some h with ⟨⟨hz, z0, z1⟩, h34, rfl, rfl⟩ | ⟨hz, e1, m, r, e2, e3, rfl, hv⟩
  · have hd : ((l.drop 2).take 32).length = 32 := by rw [List.length_take, List.length_drop]; omega
    refine ⟨h34, ?_, .inl ⟨rfl, rfl, rfl, hd⟩, by show ((l.drop 2).take 32).length ≤ _; omega⟩
    show _ = mhEnc 18 _
    rw [mhEnc_18 _ hd]
    match l, z0, z1 with
    | a :: b :: t, z0, z1 =>
      simp only [List.getElem?_cons_zero, Option.some.injEq] at z0
      simp only [List.getElem?_cons_succ, List.getElem?_cons_zero, Option.some.injEq] at z1
      subst z0 z1
      rfl
  · obtain ⟨v, codec, code, d⟩ := c
    simp only at hv e2 e3 ⊢
    subst hv
    obtain ⟨q1, q2, q3, q4⟩ := mhRd_take e3
    obtain ⟨g1, g2, g3, _, g5⟩ := uvDec_ok e1
    obtain ⟨k1, k2, k3, _, k5⟩ := uvDec_ok e2
    have hc := uvDec_lt63 e2
    have l1 : (l.drop 1).length = l.length - 1 := by simp
    have l2 : ((l.drop 1).drop m).length = l.length - 1 - m := by rw [List.length_drop, List.length_drop]
    refine ⟨by omega, ?_, .inr ⟨rfl, hc, q4⟩, q3⟩
    unfold cidEnc
    rw [if_neg (show ¬ (1 : Nat) = 0 by decide)]
    simp only
    rw [← q2, ← k5, show 1 + m + r = 1 + (m + r) by omega, List.take_add, List.take_add, g5, uvarint1]
    rfl

/-- Two tidy identifiers with the same bytes are one. -/
theorem cidEnc_inj {a b : CidD} (ha : a.tidy) (hb : b.tidy) (la : a.dig.length ≤ 2147483647) (lb : b.dig.length ≤ 2147483647) (h : cidEnc a = cidEnc b) : a = b := by
  have h1 := cidRd_enc0 a ha la
  have h2 := cidRd_enc0 b hb lb
  rw [h, h2] at h1
  injection h1 with h1
  injection h1 with h1 _
  exact h1.symm

theorem mhEnc_len_le (code : Nat) (d : List UInt8) (hc : code < 18446744073709551616) (hd : d.length < 18446744073709551616) : 2 ≤ (mhEnc code d).length ∧ (mhEnc code d).length ≤ 20 + d.length := by
  unfold mhEnc
  have h1 := Lib.uvarint_length64 hc
  have h2 := Lib.uvarint_length64 hd
  have h3 := Lib.uvarint_pos code
  have h4 := Lib.uvarint_pos d.length
  simp only [List.length_append]
  omega

theorem cidEnc_length_le (c : CidD) (ht : c.tidy) (hd : c.dig.length ≤ 2147483647) : 2 ≤ (cidEnc c).length ∧ (cidEnc c).length ≤ 31 + c.dig.length := by
  obtain ⟨v, codec, code, d⟩ := c
  have hcode : code < 18446744073709551616 := by rcases ht with ⟨_, _, h, _⟩ | ⟨_, _, h⟩ <;> simp only at h <;> omega
  have hcodec : codec < 18446744073709551616 := by rcases ht with ⟨_, h, _, _⟩ | ⟨_, h, _⟩ <;> simp only at h <;> omega
  simp only at hd ⊢
  obtain ⟨h1, h2⟩ := mhEnc_len_le code d hcode (by omega)
  have h3 := Lib.uvarint_length64 hcodec
  unfold cidEnc
  simp only
  by_cases h : v = 0
  · rw [if_pos h]; omega
  · rw [if_neg h]; simp only [List.length_cons, List.length_append]; omega

theorem mhEnc_len (code : Nat) (d : List UInt8) : d.length ≤ (mhEnc code d).length := by
  unfold mhEnc; simp only [List.length_append]; omega
theorem cidRd_dig {l : List UInt8} {x : CidD} {k : Nat} (h : cidRd l = some (x, k)) : x.dig.length ≤ k ∧ k ≤ l.length := by
  obtain ⟨h1, h2, _, _⟩ := cidRd_take h
  have := congrArg List.length h2
  rw [List.length_take, Nat.min_eq_left h1] at this
  have hm := mhEnc_len x.code x.dig
  refine ⟨?_, h1⟩
  rw [this]
  unfold cidEnc
  by_cases hz : x.ver = 0
  · rw [if_pos hz]; exact hm
  · rw [if_neg hz]; simp only [List.length_cons, List.length_append]; omega
end Go.Proofs.YthfgnhgijgjggaaDoor
/- multihash.Encode and impl.MhEncode: the code, the digest's length, the digest. -/
namespace Go.Proofs.YthfgnhgijgjggaaDoor
open Go.RowKit

theorem mhEnc_length (code : Nat) (d : List UInt8) : (mhEnc code d).length = (Lib.uvarint code).length + (Lib.uvarint d.length).length + d.length := by
  unfold mhEnc; simp [Nat.add_assoc]

theorem splice3 (z : Value) (a b d : List Value) : splice (splice (splice (List.replicate (a.length + b.length + d.length) z) 0 a) a.length b) (a.length + b.length) d = a ++ (b ++ d) := by
  have h1 : splice (List.replicate (a.length + b.length + d.length) z) 0 a = a ++ List.replicate (b.length + d.length) z := by
    simp [splice, Nat.add_assoc]
  have h2 : splice (a ++ List.replicate (b.length + d.length) z) a.length b = a ++ (b ++ List.replicate d.length z) := by
    simp [splice]
  rw [h1, h2]
  have e : a ++ (b ++ List.replicate d.length z) = (a ++ b) ++ List.replicate d.length z := by simp
  rw [e]
  unfold splice
  rw [List.take_left' (by simp), List.drop_eq_nil_of_le (by simp; omega)]
  simp

set_option maxRecDepth 100000 in
set_option maxHeartbeats 1000000 in
theorem putUvW_any (g o n c x : Nat) (cur : List Value) (t : TypeId) (w : World) (hx : x < 18446744073709551616) (hrow : w.heap[g]? = some (.cells cur.toArray t (0, 0)))
    (hfit : o + (Lib.uvarint x).length ≤ cur.length) (hn : (Lib.uvarint x).length ≤ n) :
    Calls Tryd.prog 82 #[.slice (some ⟨g, o, none⟩) n c, .int .u64 x] w fun e w' =>
      e = .returned (.int .i64 (Lib.uvarint x).length) ∧ Hid (w'.heap[g]? = some (.cells (splice cur o (Lib.byteCells (Lib.uvarint x))).toArray t (0, 0))) ∧ Turn g w w' := by
  have HC := Lib.hid (put_row g o n c x cur t w hx hrow hfit hn)
  clear hrow hfit hn
  go_enter Tryd.func82, Tryd.ntmps82
  go_wp2_with fail
  refine HC.out.mono ?_
  rintro e w1 ⟨rfl, hr, ht⟩
  go_wp2
  go_ret
  exact ⟨rfl, hr, ht⟩

set_option maxRecDepth 100000 in
set_option maxHeartbeats 1000000 in
theorem encode_any (A : Option Addr) (n c : Nat) (l : List UInt8) (w : World) (hs : BS w (.slice A n c) l) (hm : l.length ≤ 2147483647) (code : Nat) (hc : code < 18446744073709551616) :
    Calls Tryd.prog 69 #[.slice A n c, .int .u64 code] w fun e w' =>
      e = .returned (.tuple #[.slice (some ⟨w.heap.size, 0, none⟩) (mhEnc code l).length (mhEnc code l).length, .nilIface]) ∧ Hid (w'.heap[w.heap.size]? = some (.cells (Lib.byteCells (mhEnc code l)).toArray 5 (0, 0))) ∧ Below w.heap.size w w' := by
  obtain ⟨hn, hcap⟩ := hs.slice
  have la := Lib.uvarint_length64 hc
  have lb := Lib.uvarint_length64 (x := n) (by omega)
  have pa := Lib.uvarint_pos code
  have pb := Lib.uvarint_pos n
  have hlen := mhEnc_length code l
  rw [← hn] at hlen
  have hcells : Lib.byteCells (mhEnc code l) = Lib.byteCells (Lib.uvarint code) ++ (Lib.byteCells (Lib.uvarint n) ++ Lib.byteCells l) := by
    unfold mhEnc; rw [← hn, Lib.byteCells_append, Lib.byteCells_append]
  have hl3 : (Lib.byteCells l).length = n := by rw [Lib.byteCells_length]; exact hn.symm
  rw [hlen, hcells]
  obtain ⟨a, ha⟩ : ∃ a, a = (Lib.uvarint code).length := ⟨_, rfl⟩
  obtain ⟨b, hb⟩ : ∃ b, b = (Lib.uvarint n).length := ⟨_, rfl⟩
  rw [← ha] at la pa ⊢
  rw [← hb] at lb pb ⊢
  obtain ⟨N, hN⟩ : ∃ N, N = a + b + n := ⟨_, rfl⟩
  obtain ⟨w1, hmk, hb1, hs1, hrow⟩ := make_bytes (P := Tryd.prog) Tryd.underlying43 info_u8 w N (by omega)
  have eN : ((N : Nat) : Int) = (a : Int) + b + n := by omega
  rw [eN] at hmk
  have r1 := fun W => run_from (P := Tryd.prog) Tryd.underlying43 info_u8 (some ⟨w.heap.size, 0, none⟩) N N a (by omega) W
  have r2 := fun W => run_from (P := Tryd.prog) Tryd.underlying43 info_u8 (some ⟨w.heap.size, 0, none⟩) N N (a + b) (by omega) W
  have e2 : ((a + b : Nat) : Int) = (a : Int) + b := by omega
  rw [cutA_own _ _ _ _ (by omega), Nat.zero_add] at r1
  rw [e2] at r2
  have HR := Lib.hid hrow
  have HA := Lib.hid ha
  have HB := Lib.hid hb
  have HN := Lib.hid hN
  have H3 := Lib.hid hl3
  have HS := Lib.hid hs
  have Hn := Lib.hid hn
  have n2 : n ≤ 2147483647 := by omega
  have N1 : N ≤ 3000000000 := by omega
  clear hrow ha hb hN hl3 hs hn hlen hcells hcap hs1 hm eN e2
  go_enter Tryd.func69, Tryd.ntmps69
  go_wp2_with fail
  refine (uvSize_any code w hc).mono ?_
  rw [← HA.out]
  rintro e w' ⟨rfl, rfl⟩
  go_wp2_with fail
  refine (uvSize_any n w (by omega)).mono ?_
  rw [← HB.out]
  rintro e w' ⟨rfl, rfl⟩
  go_wp2_with fail
  clear hmk
  refine (putUvW_any w.heap.size 0 N N code (List.replicate N (Value.int .u8 0)) 5 w1 hc HR.out (by rw [List.length_replicate, ← HA.out]; have := HN.out; omega) (by rw [← HA.out]; have := HN.out; omega)).mono ?_
  rw [← HA.out]
  rintro e w2 ⟨rfl, h2, ht2⟩
  have h2' := h2.out
  have L1 : (splice (List.replicate N (Value.int .u8 0)) 0 (Lib.byteCells (Lib.uvarint code))).length = N := by
    rw [length_splice _ _ _ (by rw [Lib.byteCells_length, List.length_replicate, ← HA.out]; have := HN.out; omega), List.length_replicate]
  go_wp2_with fail
  refine (putUvW_any w.heap.size a (N - a) (N - a) n _ 5 w2 (by omega) h2.out (by rw [L1, ← HB.out]; have := HN.out; omega) (by rw [← HB.out]; have := HN.out; omega)).mono ?_
  rw [← HB.out]
  rintro e w3 ⟨rfl, h3, ht3⟩
  clear h2'
  have L2 : (splice (splice (List.replicate N (Value.int .u8 0)) 0 (Lib.byteCells (Lib.uvarint code))) a (Lib.byteCells (Lib.uvarint n))).length = N := by
    rw [length_splice _ _ _ (by rw [Lib.byteCells_length, L1, ← HB.out]; have := HN.out; omega), L1]
  have hb3 : Below w.heap.size w w3 := (hb1.trans (ht2.below (Nat.le_refl _))).trans (ht3.below (Nat.le_refl _))
  have hsrc : 0 < (Lib.byteCells l).length → (cutA (some ⟨w.heap.size, 0, none⟩) N (a + b)) = some ⟨w.heap.size, a + b, none⟩ ∧ ∃ ad, A = some ad ∧ ∀ j v, (Lib.byteCells l)[j]? = some v → w3.cell? (ad.add j) = some v := by
    intro h0
    rw [H3.out] at h0
    refine ⟨by rw [cutA_own _ _ _ _ (by have := HN.out; omega), Nat.zero_add], ?_⟩
    obtain ⟨b', o', e1, hcell⟩ := (HS.out.below hb3).at_ h0
    refine ⟨_, e1, fun j v hv => ?_⟩
    have hj : j < l.length := by
      rcases Nat.lt_or_ge j l.length with h | h
      · exact h
      · rw [List.getElem?_eq_none (by rw [Lib.byteCells_length]; exact h)] at hv; cases hv
    have ead : (⟨b', o', none⟩ : Addr).add j = ⟨b', o' + j, none⟩ := by by_cases h : j = 0 <;> simp [Addr.add, h]
    rw [ead, hcell j hj]
    simp [Lib.byteCells, List.getElem?_eq_getElem hj] at hv
    rw [hv]
  have HSRC := Lib.hid hsrc
  have HL2 := Lib.hid L2
  have HL1 := Lib.hid L1
  clear hsrc L2 L1
  have hsz1 : (Tryd.prog.info? 5).map (·.size) = some 1 := by kernel_rfl
  have hmin : (Lib.byteCells l).length = Nat.min n (N - (a + b)) := by
    have := HN.out
    rw [H3.out, show N - (a + b) = n by omega]; exact (Nat.min_self n).symm
  have HMIN := Lib.hid hmin
  clear hmin
  go_wp2_with (with_reducible refine wpList_copy_splice rfl (.tmp 33) (.tmp 34) 43 43 rfl 5 Tryd.underlying43 hsz1 (cutA (some ⟨w.heap.size, 0, none⟩) N (a + b)) A (N - (a + b)) (N - (a + b)) n c rfl rfl w.heap.size (a + b) _ 5 h3.out (Lib.byteCells l) HMIN.out HSRC.out (by rw [H3.out, HL2.out]; have := HN.out; omega) (Lib.byteCells_one _) w.heap.size w hb3 (Nat.le_refl _) ?_; intro w4 hg4 hb4)
  go_ret2
  refine ⟨by rw [← HN.out]; rfl, Lib.hid ?_, hb4⟩
  rw [hg4.out]
  have e1 : a = (Lib.byteCells (Lib.uvarint code)).length := by rw [Lib.byteCells_length]; exact HA.out
  have e2 : b = (Lib.byteCells (Lib.uvarint n)).length := by rw [Lib.byteCells_length]; exact HB.out
  rw [HN.out]
  rw [show a + b + n = (Lib.byteCells (Lib.uvarint code)).length + (Lib.byteCells (Lib.uvarint n)).length + (Lib.byteCells l).length by rw [← e1, ← e2, H3.out]]
  conv => lhs; rw [show a = (Lib.byteCells (Lib.uvarint code)).length from e1, show b = (Lib.byteCells (Lib.uvarint n)).length from e2]
  rw [splice3]

end Go.Proofs.YthfgnhgijgjggaaDoor
/- Contracts of package cid: NewCidV1. -/
namespace Go.Proofs.YthfgnhgijgjggaaDoor
open Go.RowKit

theorem BldAt.below {B b : Nat} {bs : List Value} {w w' : World} (h : BldAt B b bs w) (hb : Below w.heap.size w w') : BldAt B b bs w' := by
  obtain ⟨hB, v, hbk, hown, hne⟩ := h
  refine ⟨hB, v, (hb.block b (block_of_row hbk)).trans hbk, ?_, hne⟩
  obtain ⟨h1, h2⟩ := hown
  refine ⟨h1, ?_⟩
  rcases h2 with h2 | ⟨g, cap, cur, e1, e2, e3, e4⟩
  · exact .inl h2
  · exact .inr ⟨g, cap, cur, e1, e2, (hb.block g (block_of_row e3)).trans e3, e4⟩

theorem run_arr10 (g L : Nat) (h : L ≤ 10) (W : World) : (Instr.sliceAt 185 (.pointer (some ⟨g, 0, none⟩)) none (some (.int .i64 (L : Int))) none).run Tryd.prog W = .ok (.slice (some ⟨g, 0, none⟩) L 10) W := by
  have e1 : Tryd.prog.arrayLen 185 = 10 := by kernel_rfl
  have e2 : Tryd.prog.elem 185 = 5 := by kernel_rfl
  have ht : Tryd.prog.underlying 185 = some (.array (Tryd.prog.arrayLen 185) (Tryd.prog.elem 185)) := by rw [e1, e2]; exact Tryd.underlying185
  rw [run_sliceAt_array_h W _ _ ht .i64 _ (by omega) (by rw [e1]; omega), e1, e2, run_size info_u8]
  simp [Result.andThen, slicedAt, Addr.add]

theorem byteCells_one' (l : List UInt8) : ([] : List Value) ++ [Value.int .u8 1] ++ Lib.byteCells l = Lib.byteCells (1 :: l) := rfl

set_option maxRecDepth 100000 in
set_option maxHeartbeats 2000000 in
theorem newCidV1 (codec : Nat) (hc : codec < 18446744073709551616) (A : Option Addr) (n c : Nat) (l : List UInt8) (w : World) (hs : BS w (.slice A n c) l) (hn : 0 < n) (hn2 : n ≤ 4294967296) :
    Calls Tryd.prog 71 #[.int .u64 codec, .slice A n c] w fun e w' => e = .returned (.agg #[.string ⟨(1 :: (Lib.uvarint codec ++ l)).toArray⟩]) ∧ Below w.heap.size w w' := by
  have hlen := Lib.uvarint_length64 hc
  have hpos := Lib.uvarint_pos codec
  obtain ⟨hnl, _⟩ := hs.slice
  obtain ⟨L, hL⟩ : ∃ L, L = (Lib.uvarint codec).length := ⟨_, rfl⟩
  rw [← hL] at hlen hpos
  have HL := Lib.hid hL
  have HNL := Lib.hid hnl
  have HS := Lib.hid hs
  clear hL hnl hs
  have hW : Below w.heap.size w ((w.alloc (.cells #[.string ⟨#[]⟩] 80)).alloc (.cells #[.pointer none, .slice none 0 0] 182)) := ((Below.refl _ _).alloc (Nat.le_refl _) _).alloc (by simp) _
  go_enter Tryd.func71, Tryd.ntmps71
  go_wp2_with fail
  refine (uvSize_any codec _ hc).mono ?_
  rw [← HL.out]
  rintro e w' ⟨rfl, rfl⟩
  go_wp2_with fail
  have hrow0 : ((w.alloc (.cells #[.string ⟨#[]⟩] 80)).alloc (.cells #[.pointer none, .slice none 0 0] 182)).heap[w.heap.size]? = some (.cells #[.string ⟨#[]⟩] 80 (0, 0)) := heap_alloc2_old _ _ _
  have hrow1 : ((w.alloc (.cells #[.string ⟨#[]⟩] 80)).alloc (.cells #[.pointer none, .slice none 0 0] 182)).heap[w.heap.size + 1]? = some (.cells #[.pointer none, .slice none 0 0] 182 (0, 0)) := heap_alloc2_new _ _ _
  have HG := Lib.hid (Tryd.Builder_Grow_fresh (w.heap.size + 1) (w.heap.size + 1) (1 + L + n) _ (Nat.le_refl _) hrow1 (by simp) (by omega))
  generalize hw1 : (w.alloc (.cells #[.string ⟨#[]⟩] 80)).alloc (.cells #[.pointer none, .slice none 0 0] 182) = w1 at *
  have hz1 : w1.heap.size = w.heap.size + 2 := by rw [← hw1]; simp
  clear hw1
  have HZ1 := Lib.hid hz1
  clear hz1 hrow1
  have HR0 := Lib.hid hrow0
  clear hrow0
  refine HG.out.mono ?_
  rintro e w2 ⟨rfl, hB2, hb2⟩
  have hW2 : Below w.heap.size w w2 := hW.trans (hb2.mono (by omega))
  have hz2 : w.heap.size + 2 ≤ w2.heap.size := by have := hb2.size; have := HZ1.out; omega
  have hr2 : w2.heap[w.heap.size]? = some (.cells #[.string ⟨#[]⟩] 80 (0, 0)) := (hb2.block _ (by omega)).trans HR0.out
  clear HG hW hb2
  go_wp2_with fail
  refine (bldWriteByte (w.heap.size + 1) (w.heap.size + 1) [] 1 w2 hB2 (by simp) (by omega)).mono ?_
  rintro e w3 ⟨rfl, hB3, hb3⟩
  have hW3 : Below w.heap.size w w3 := hW2.trans (hb3.mono (by omega))
  have hz3 : w.heap.size + 2 ≤ w3.heap.size := by have := hb3.size; omega
  have hr3 := (hb3.block _ (by omega)).trans hr2
  clear hW2 hr2 hb3 hB2
  have hrow4 := heap_alloc_new w3 (.cells #[.int .u8 0, .int .u8 0, .int .u8 0, .int .u8 0, .int .u8 0, .int .u8 0, .int .u8 0, .int .u8 0, .int .u8 0, .int .u8 0] 185)
  have HP := Lib.hid (putUvW_any w3.heap.size 0 10 10 codec (List.replicate 10 (Value.int .u8 0)) 185 _ hc hrow4 (by simp [← HL.out]; omega) (by rw [← HL.out]; omega))
  rw [← HL.out] at HP
  have hb4 : Below w3.heap.size w3 (w3.alloc (.cells #[.int .u8 0, .int .u8 0, .int .u8 0, .int .u8 0, .int .u8 0, .int .u8 0, .int .u8 0, .int .u8 0, .int .u8 0, .int .u8 0] 185)) := (Below.refl _ _).alloc (Nat.le_refl _) _
  clear hrow4
  go_wp2_with fail
  refine HP.out.mono ?_
  rintro e w4 ⟨rfl, hr4, ht4⟩
  have hb5 : Below w3.heap.size w3 w4 := hb4.trans (ht4.below (Nat.le_refl _))
  have hz4 : w4.heap.size = w3.heap.size + 1 := by rw [ht4.size]; simp
  have hW4 : Below w.heap.size w w4 := below_next hW3 hb5
  have hB4 := hB3.below hb5
  have hr4' := (hb5.block _ (by omega)).trans hr3
  have hbs4 : BS w4 (.slice (some ⟨w3.heap.size, 0, none⟩) L 10) (Lib.uvarint codec) := by
    have hh := BS.of_cells (w := w4) (b := w3.heap.size) (o := 0) (c := 10) (l := Lib.uvarint codec) (by rw [← HL.out]; omega) (fun j hj => by
      rw [← HL.out] at hj
      rw [Nat.zero_add, cell_of_row' hr4.out, splice_get _ _ _ (by rw [Lib.byteCells_length, List.length_replicate, ← HL.out]; omega), if_pos (by rw [Lib.byteCells_length, ← HL.out]; omega)]
      simp [Lib.byteCells, List.getElem?_eq_getElem (by rw [← HL.out]; exact hj : j < (Lib.uvarint codec).length)])
    rw [← HL.out] at hh
    exact hh
  have HBS4 := Lib.hid hbs4
  have HZ4 := Lib.hid hz4
  clear hbs4 hz4 ht4 hr4 hb4 HP hB3 hr3
  have hz5 : w.heap.size + 2 ≤ w4.heap.size := by have := HZ4.out; omega
  have hsl := run_arr10 w3.heap.size L (by omega)
  go_wp2_with fail
  refine (bldWrite (w.heap.size + 1) (w.heap.size + 1) _ _ L 10 _ w4 hB4 HBS4.out (by omega) (by simp; omega) (by omega)).mono ?_
  rintro e w5 ⟨rfl, hB5, hb6⟩
  have hW5 : Below w.heap.size w w5 := hW4.trans (hb6.mono (by omega))
  have hr5 := (hb6.block _ (by omega)).trans hr4'
  have hz6 : w.heap.size + 2 ≤ w5.heap.size := by have := hb6.size; omega
  rw [byteCells_one'] at hB5
  have hlen5 : (Lib.byteCells (1 :: Lib.uvarint codec)).length = L + 1 := by rw [Lib.byteCells_length, List.length_cons, ← HL.out]
  have HLEN5 := Lib.hid hlen5
  clear hlen5 hr4' hB4 hb6 HBS4 hW4 hz5
  go_wp2_with fail
  refine (bldWrite (w.heap.size + 1) (w.heap.size + 1) _ A n c l w5 hB5 (HS.out.below hW5) hn (by rw [HLEN5.out]; omega) (by omega)).mono ?_
  rintro e w6 ⟨rfl, hB6, hb7⟩
  have hW6 : Below w.heap.size w w6 := hW5.trans (hb7.mono (by omega))
  have hr6 := (hb7.block _ (by omega)).trans hr5
  have hz7 : w.heap.size + 2 ≤ w6.heap.size := by have := hb7.size; omega
  rw [← Lib.byteCells_append] at hB6
  clear hb7 hr5 hB5 HLEN5 hW5 hz6
  have HC := Lib.hid (Tryd.Builder_String_any (w.heap.size + 1) (w.heap.size + 1) _ w6 (.inr hB6) (by omega))
  clear hB6
  go_wp2_with fail
  refine HC.out.mono ?_
  rintro e w7 ⟨rfl, hb8⟩
  have hW7 : Below w.heap.size w w7 := hW6.trans (hb8.mono (by omega))
  have hr7 := (hb8.block _ (by omega)).trans hr6
  have c0 := cell_of_row' (cur := [_]) hr7 0
  have f0 := frozen_of_row' (cur := [_]) hr7 0
  have HR7 := Lib.hid hr7
  clear hr7 hr6 hb8 HC hW6 HR0 HZ1 HZ4
  go_wp2
  refine bodyPost_ret (results_cell_row rfl _ _ (w.heap.size) 80 #[.string ⟨(1 :: (Lib.uvarint codec ++ l)).toArray⟩] (0, 0) _ ?h1 ?h2 Tryd.underlying80 rfl ?h5) ?h6 ?h7
  case h1 => rfl
  case h2 => simp [World.setCell, Array.getElem?_modify, HR7.out]
  case h5 => kernel_rfl
  case h6 => rfl
  exact ⟨rfl, hW7.setCell (by exact Nat.le_refl _) _⟩
end Go.Proofs.YthfgnhgijgjggaaDoor
