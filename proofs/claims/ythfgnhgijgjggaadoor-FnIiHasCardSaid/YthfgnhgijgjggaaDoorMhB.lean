/- Contracts of package multihash: Decode, MHFromBytes, Encode; and of impl's three entry points. -/
import Derived.Test.YthfgnhgijgjggaaDoorMhA
namespace Go.Proofs.YthfgnhgijgjggaaDoor
open Go.RowKit

theorem bcell {W w1 : World} (hb : Below W.heap.size W w1) : (∀ b o, b < W.heap.size → w1.cell? ⟨b, o, none⟩ = W.cell? ⟨b, o, none⟩) ∧ (∀ b o, b < W.heap.size → w1.frozen? ⟨b, o, none⟩ = W.frozen? ⟨b, o, none⟩) :=
  ⟨fun b o h => hb.cell (p := ⟨b, o, none⟩) h, fun b o h => hb.frozen (p := ⟨b, o, none⟩) h⟩

set_option maxRecDepth 100000 in
set_option maxHeartbeats 1000000 in
theorem decode_ok (A : Option Addr) (n c : Nat) (l : List UInt8) (w : World) (hs : BS w (.slice A n c) l) (hm : l.length ≤ 2147483647) (hu : UvS w) (code : Nat) (d : List UInt8) (hd : mhRd l = some (n, code, d)) :
    ∃ A' c', BS w (.slice A' d.length c') d ∧ ∀ w0, Below w.heap.size w w0 →
    Calls Tryd.prog 98 #[.slice A n c] w0 fun e w' => e = .returned (.tuple #[.agg #[.int .u64 code, .string ⟨#[]⟩, .int .i64 d.length, .slice A' d.length c'], .nilIface]) ∧ Below w0.heap.size w0 w' := by
  obtain ⟨hn, _⟩ := hs.slice
  obtain ⟨A', c', hs', hc⟩ := mrd_ok A n c l w hs hm hu _ _ _ hd
  refine ⟨A', c', hs', ?_⟩
  intro w0 hb0
  have HC := Lib.hid hc
  generalize d.length = D at *
  have b3 : n ≤ 9223372036854775807 := by omega
  clear hs hn hs' hc hu hd hm
  go_enter Tryd.func98, Tryd.ntmps98
  go_wp2_with fail
  refine (HC.out _ (hb0.trans ((Below.refl _ _).alloc hb0.size _))).mono ?_
  rintro e w1 ⟨rfl, hb1⟩
  obtain ⟨hc, hf⟩ := bcell hb1
  have hz := hb1.size
  simp only [World.size_alloc] at hz hc hf
  go_wp2
  have hrow : w1.heap[w0.heap.size]? = some (.cells #[.int .u64 0, .string ⟨#[]⟩, .int .i64 0, .slice none 0 0] 135 (0, 0)) := row_below hb1 (by simp) (heap_alloc_new _ _)

  refine bodyPost_ret (results_row_tmp rfl _ _ w0.heap.size 135 #[.int .u64 code, .string ⟨#[]⟩, .int .i64 D, .slice A' D c'] (0, 0) _ ?h1 ?h2 Tryd.underlying135 rfl ?h5) ?h6 ?h7

  case h1 => rfl

  case h2 => simp [World.setCell, Array.getElem?_modify, hrow]

  case h5 => kernel_rfl

  case h6 => rfl

  refine ⟨rfl, ?_⟩

  have hb2 : Below w0.heap.size w0 w1 := by
    have h0 : Below w0.heap.size w0 (w0.alloc (Obj.cells #[Value.int IntKind.u64 0, Value.string { data := #[] }, Value.int IntKind.i64 0, Value.slice none 0 0] 135)) := (Below.refl _ _).alloc (Nat.le_refl _) _
    exact below_next h0 hb1
  clear hc hf hrow HC
  exact (((((((hb2.setCell (by exact Nat.le_refl _) _).setCell (by exact Nat.le_refl _) _).setCell (by exact Nat.le_refl _) _).setCell (by exact Nat.le_refl _) _).setCell (by exact Nat.le_refl _) _).setCell (by exact Nat.le_refl _) _).setCell (by exact Nat.le_refl _) _).setCell (by exact Nat.le_refl _) _

def DmBad (e : Ending) : Prop := ∃ (a : Int) (s : ByteArray) (b : Int) (A : Option Addr) (n c : Nat) (t : TypeId) (p : Value), e = .returned (.tuple #[.agg #[.int .u64 a, .string s, .int .i64 b, .slice A n c], .iface t p])

set_option maxRecDepth 100000 in
set_option maxHeartbeats 1000000 in
theorem decode_more (A : Option Addr) (n c : Nat) (l : List UInt8) (w : World) (hs : BS w (.slice A n c) l) (hm : l.length ≤ 2147483647) (hu : UvS w) (r code : Nat) (d : List UInt8) (hd : mhRd l = some (r, code, d)) (hr : r ≠ n) :
    Calls Tryd.prog 98 #[.slice A n c] w fun e w' => DmBad e ∧ Below w.heap.size w w' := by
  obtain ⟨hn, _⟩ := hs.slice
  obtain ⟨A', c', hs', hc⟩ := mrd_ok A n c l w hs hm hu _ _ _ hd
  have HC := Lib.hid hc
  generalize d.length = D at *
  have b3 : n ≤ 9223372036854775807 := by omega
  have b4 : ((n : Int) != r) = true := by rw [bne_iff_ne]; omega
  clear hs hn hs' hc hu hd hm hr
  go_enter Tryd.func98, Tryd.ntmps98
  go_wp2_with fail
  refine (HC.out _ ((Below.refl _ _).alloc (Nat.le_refl _) _)).mono ?_
  rintro e w1 ⟨rfl, hb1⟩
  have h0 : Below w.heap.size w (w.alloc (Obj.cells #[Value.int IntKind.u64 0, Value.string { data := #[] }, Value.int IntKind.i64 0, Value.slice none 0 0] 135)) := (Below.refl _ _).alloc (Nat.le_refl _) _
  have hb2 := below_next h0 hb1
  obtain ⟨hc, hf⟩ := bcell hb1
  have hz := hb1.size
  simp only [World.size_alloc] at hz hc hf
  go_wp2
  have hrow : w1.heap[w.heap.size]? = some (.cells #[.int .u64 0, .string ⟨#[]⟩, .int .i64 0, .slice none 0 0] 135 (0, 0)) := row_below hb1 (by simp) (heap_alloc_new _ _)
  refine bodyPost_ret (results_row_tmp rfl _ _ w.heap.size 135 #[.int .u64 code, .string ⟨#[]⟩, .int .i64 D, .slice A' D c'] (0, 0) _ ?h1 ?h2 Tryd.underlying135 rfl ?h5) ?h6 ?h7
  case h1 => rfl
  case h2 => simp [World.setCell, Array.getElem?_modify, hrow]
  case h5 => kernel_rfl
  case h6 => rfl
  refine ⟨⟨_, _, _, _, _, _, _, _, rfl⟩, ?_⟩
  exact ((((((((hb2.setCell (by exact Nat.le_refl _) _).setCell (by exact Nat.le_refl _) _).setCell (by exact Nat.le_refl _) _).setCell (by exact Nat.le_refl _) _).setCell (by exact Nat.le_refl _) _).setCell (by exact Nat.le_refl _) _).setCell (by exact Nat.le_refl _) _).setCell (by exact Nat.le_refl _) _)

set_option maxRecDepth 100000 in
set_option maxHeartbeats 1000000 in
theorem decode_no (A : Option Addr) (n c : Nat) (l : List UInt8) (w : World) (hs : BS w (.slice A n c) l) (hm : l.length ≤ 2147483647) (hu : MhS w) (hd : mhRd l = none) :
    Calls Tryd.prog 98 #[.slice A n c] w fun e w' => DmBad e ∧ Below w.heap.size w w' := by
  have h0 : Below w.heap.size w (w.alloc (Obj.cells #[Value.int IntKind.u64 0, Value.string { data := #[] }, Value.int IntKind.i64 0, Value.slice none 0 0] 135)) := (Below.refl _ _).alloc (Nat.le_refl _) _
  have HC := Lib.hid (mrd_no A n c l _ (hs.below h0) hm (hu.below h0) hd)
  clear hs hu hd hm
  go_enter Tryd.func98, Tryd.ntmps98
  go_wp2_with fail
  refine HC.out.mono ?_
  rintro e w1 ⟨t, p, rfl, hb1⟩
  have hb2 := below_next h0 hb1
  obtain ⟨hc, hf⟩ := bcell hb1
  have hz := hb1.size
  simp only [World.size_alloc] at hz hc hf
  go_wp2
  have hrow : w1.heap[w.heap.size]? = some (.cells #[.int .u64 0, .string ⟨#[]⟩, .int .i64 0, .slice none 0 0] 135 (0, 0)) := row_below hb1 (by simp) (heap_alloc_new _ _)
  refine bodyPost_ret (results_row_tmp rfl _ _ w.heap.size 135 #[.int .u64 0, .string ⟨#[]⟩, .int .i64 0, .slice none 0 0] (0, 0) _ ?h1 ?h2 Tryd.underlying135 rfl ?h5) ?h6 ?h7
  case h1 => rfl
  case h2 => simp [World.setCell, Array.getElem?_modify, hrow]
  case h5 => kernel_rfl
  case h6 => rfl
  refine ⟨⟨_, _, _, _, _, _, t, p, rfl⟩, ?_⟩
  exact ((((hb2.setCell (by exact Nat.le_refl _) _).setCell (by exact Nat.le_refl _) _).setCell (by exact Nat.le_refl _) _).setCell (by exact Nat.le_refl _) _)

/-- A pointer to a new block that holds what a multihash was taken apart to. -/
def DmPtr (w w' : World) (code : Nat) (A : Option Addr) (D c : Nat) (e : Ending) : Prop := ∃ g, e = .returned (.tuple #[.pointer (some ⟨g, 0, none⟩), .nilIface]) ∧ w.heap.size ≤ g ∧
  w'.heap[g]? = some (.cells #[.int .u64 code, .string ⟨#[]⟩, .int .i64 D, .slice A D c] 135 (0, 0))

set_option maxRecDepth 100000 in
set_option maxHeartbeats 1000000 in
theorem Decode_ok (A : Option Addr) (n c : Nat) (l : List UInt8) (w : World) (hs : BS w (.slice A n c) l) (hm : l.length ≤ 2147483647) (hu : UvS w) (code : Nat) (d : List UInt8) (hd : mhRd l = some (n, code, d)) :
    ∃ A' c', BS w (.slice A' d.length c') d ∧ ∀ w0, Below w.heap.size w w0 →
    Calls Tryd.prog 72 #[.slice A n c] w0 fun e w' => DmPtr w0 w' code A' d.length c' e ∧ Below w0.heap.size w0 w' := by
  obtain ⟨A', c', hs', hc⟩ := decode_ok A n c l w hs hm hu _ _ hd
  refine ⟨A', c', hs', ?_⟩
  intro w0 hb0
  have HC := Lib.hid (hc w0 hb0)
  generalize d.length = D at *
  clear hs hs' hc hu hd hm
  go_enter Tryd.func72, Tryd.ntmps72
  go_wp2_with fail
  refine HC.out.mono ?_
  rintro e w1 ⟨rfl, hb1⟩
  go_wp2
  go_ret2
  refine ⟨⟨_, rfl, hb1.size, ?_⟩, ?_⟩
  · exact heap_alloc_new _ _
  · exact hb1.alloc hb1.size _

/-- nil, and an error. -/
def PtrBad (e : Ending) : Prop := ∃ t p, e = .returned (.tuple #[.pointer none, .iface t p])

set_option maxRecDepth 100000 in
set_option maxHeartbeats 1000000 in
theorem Decode_bad (A : Option Addr) (n c : Nat) (l : List UInt8) (w : World) (hs : BS w (.slice A n c) l) (hm : l.length ≤ 2147483647) (hu : MhS w) (hd : ∀ code d, mhRd l ≠ some (n, code, d)) :
    Calls Tryd.prog 72 #[.slice A n c] w fun e w' => PtrBad e ∧ Below w.heap.size w w' := by
  have hc : Calls Tryd.prog 98 #[.slice A n c] w fun e w' => DmBad e ∧ Below w.heap.size w w' := by
    cases h : mhRd l with
    | none => exact decode_no A n c l w hs hm hu h
    | some x =>
      obtain ⟨r, code, d⟩ := x
      exact decode_more A n c l w hs hm hu.toUvS r code d h (fun e => hd code d (by rw [h, e]))
  have HC := Lib.hid hc
  clear hs hu hd hm hc
  go_enter Tryd.func72, Tryd.ntmps72
  go_wp2_with fail
  refine HC.out.mono ?_
  rintro e w1 ⟨⟨a, s, b, A1, n1, c1, t, p, rfl⟩, hb1⟩
  go_wp2
  go_ret2
  exact ⟨⟨t, p, rfl⟩, hb1.alloc hb1.size _⟩

set_option maxRecDepth 100000 in
set_option maxHeartbeats 1000000 in
theorem MHFrom_ok (A : Option Addr) (n c : Nat) (l : List UInt8) (w : World) (hs : BS w (.slice A n c) l) (hm : l.length ≤ 2147483647) (hu : UvS w) (r code : Nat) (d : List UInt8) (hd : mhRd l = some (r, code, d)) (hr : r ≤ n) :
    BS w (.slice A r c) (l.take r) ∧
    Calls Tryd.prog 105 #[.slice A n c] w fun e w' => e = .returned (.tuple #[.int .i64 r, .slice A r c, .nilIface]) ∧ Below w.heap.size w w' := by
  obtain ⟨A', c', _, hc⟩ := mrd_ok A n c l w hs hm hu _ _ _ hd
  obtain ⟨hrun, _, hs2⟩ := hs.to_ (P := Tryd.prog) Tryd.underlying43 info_u8 r hr
  refine ⟨hs2, ?_⟩
  have HC := Lib.hid (hc w (Below.refl _ _))
  generalize d.length = D at *
  clear hs hc hu hd hm hs2 hr
  go_enter Tryd.func105, Tryd.ntmps105
  go_wp2_with fail
  refine HC.out.mono ?_
  rintro e w1 ⟨rfl, hb1⟩
  go_wp2
  go_quiet (fail)
  go_wp2
  go_ret3
  exact ⟨rfl, hb1.drewN _⟩

set_option maxRecDepth 100000 in
set_option maxHeartbeats 1000000 in
theorem MHFrom_no (A : Option Addr) (n c : Nat) (l : List UInt8) (w : World) (hs : BS w (.slice A n c) l) (hm : l.length ≤ 2147483647) (hu : MhS w) (hd : mhRd l = none) :
    Calls Tryd.prog 105 #[.slice A n c] w fun e w' => ∃ t p, e = .returned (.tuple #[.int .i64 0, .slice none 0 0, .iface t p]) ∧ Below w.heap.size w w' := by
  have HC := Lib.hid (mrd_no A n c l w hs hm hu hd)
  clear hs hu hd hm
  go_enter Tryd.func105, Tryd.ntmps105
  go_wp2_with fail
  refine HC.out.mono ?_
  rintro e w1 ⟨t, p, rfl, hb1⟩
  go_wp2
  go_ret3
  exact ⟨t, p, rfl, hb1⟩

/-- A string made to bytes: where the contracts begin. -/
theorem conv_in (w : World) (s : ByteArray) : ∃ c w1, (convert 9 43 (.string s)).run Tryd.prog w = .ok (.slice (some ⟨w.heap.size, 0, none⟩) s.size c) w1 ∧ Below w.heap.size w w1 ∧ BS w1 (.slice (some ⟨w.heap.size, 0, none⟩) s.size c) s.data.toList := by
  obtain ⟨c, w1, hconv, hc, hb, hsz, _, hcells⟩ := conv_bytes (P := Tryd.prog) Tryd.underlying9 Tryd.underlying43 Tryd.underlying5 w s
  have hlen : s.data.toList.length = s.size := by rw [Array.length_toList]; rfl
  have HS := BS.of_cells (w := w1) (b := w.heap.size) (o := 0) (c := c) (l := s.data.toList) (by omega) hcells
  rw [hlen] at HS
  exact ⟨c, w1, hconv, hb, HS⟩



end Go.Proofs.YthfgnhgijgjggaaDoor
