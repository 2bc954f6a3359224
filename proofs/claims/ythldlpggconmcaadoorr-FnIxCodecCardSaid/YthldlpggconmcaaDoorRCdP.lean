/- Contracts: cid.Cast; impl.CdRead, impl.CdCast. -/
import Derived.Test.YthldlpggconmcaaDoorRCdO
namespace Go.Proofs.YthldlpggconmcaaDoorR
open Go.RowKit

section
variable {P : Program}
theorem results_row_tmp2 {fn : Func} {p u u2 : Tmp} {ty : TypeId} (h : fn.results = #[.cell p ty, .tmp u, .tmp u2]) (tmps : Array Value) (w : World) (g : Nat) (t : TypeId) (cs : Array Value) (fr : Nat × Nat) (d : TypeDesc)
    (hp : tmps.getD p undef = .pointer (some ⟨g, 0, none⟩)) (hg : w.heap[g]? = some (.cells cs t fr))
    (hu : P.underlying ty = some d) (hd : (match d with | .struct _ | .array _ _ => true | _ => false) = true) (hi : (P.info? ty).map (·.size) = some cs.size) :
    (results fn tmps).run P w = .ok (.tuple #[.agg cs, tmps.getD u undef, tmps.getD u2 undef]) w := by
  have hp' : tmps[p]?.getD undef = .pointer (some ⟨g, 0, none⟩) := by simpa using hp
  simp only [results, h]
  simp [Result.andThen, hp', asAddr, run_loadVar_row w g t ty cs fr d hg hu hd hi]
end

theorem cidStr_rd {l : List UInt8} {x : CidD} {k : Nat} (h : cidRd l = some (x, k)) (hl : l.length ≤ 2147483600) : CidStr ⟨(cidEnc x).toArray⟩ x := by
  obtain ⟨_, _, ht, _⟩ := cidRd_take h
  have := cidRd_dig h
  exact ⟨rfl, ht, by omega⟩

set_option maxRecDepth 100000 in
set_option maxHeartbeats 4000000 in
theorem cast_ok (A : Option Addr) (n c : Nat) (l : List UInt8) (w : World) (hs : BS w (.slice A n c) l) (hm : l.length ≤ 2147483647) (hu : CdS w) (x : CidD) (hd : cidRd l = some (x, n)) :
    Calls Tryd.prog 49 #[.slice A n c] w fun e w' => e = .returned (.tuple #[.agg #[.string ⟨(cidEnc x).toArray⟩], .nilIface]) ∧ Below w.heap.size w w' := by
  have hA : Below w.heap.size w (w.alloc cidZ) := (Below.refl _ _).alloc (Nat.le_refl _) _
  have hr0 := Lib.hid (heap_alloc_new w cidZ)
  have HC := Lib.hid (cidFrom_ok A n c l _ (hs.below hA) hm (hu.below hA) x n hd)
  have hn : n ≤ 2147483647 := by have := hs.slice.1; omega
  clear hs hu hd hm
  generalize (⟨(cidEnc x).toArray⟩ : ByteArray) = S at *
  go_enter Tryd.func49, Tryd.ntmps49
  go_wp2_with fail
  refine HC.out.mono ?_
  rintro e w1 ⟨rfl, hb1⟩
  have hb := below_next hA hb1
  have hz1 : w.heap.size + 1 ≤ w1.heap.size := by have := hb1.size; simpa using this
  have r0 := row_below hb1 (block_of_row hr0.out) hr0.out
  have k0 := fun o => cell_of_row' (cur := [_]) (row_alloc r0 o) 0
  have f0 := fun o => frozen_of_row' (cur := [_]) (row_alloc r0 o) 0
  have R0 := Lib.hid r0
  clear HC hA hr0 r0 hb1
  go_wp2
  refine bodyPost_ret (results_row_tmp rfl _ _ (w.heap.size) 82 #[.string S] (0, 0) _ rfl (Lib.heap_setCell_same (i := 0) (row_alloc R0.out _) (.string S)) Tryd.underlying82 rfl (by kernel_rfl)) rfl ?_
  exact ⟨rfl, (hb.alloc (by omega) _).setCell (by exact Nat.le_refl _) _⟩

set_option maxRecDepth 100000 in
set_option maxHeartbeats 4000000 in
theorem cast_none (A : Option Addr) (n c : Nat) (l : List UInt8) (w : World) (hs : BS w (.slice A n c) l) (hm : l.length ≤ 2147483647) (hu : CdS w) (hd : cidRd l = none) :
    Calls Tryd.prog 49 #[.slice A n c] w fun e w' => CidBad e ∧ Below w.heap.size w w' := by
  have hA : Below w.heap.size w (w.alloc cidZ) := (Below.refl _ _).alloc (Nat.le_refl _) _
  have hr0 := Lib.hid (heap_alloc_new w cidZ)
  have HC := Lib.hid (cidFrom_no A n c l _ (hs.below hA) hm (hu.below hA) hd)
  obtain ⟨us, hus⟩ := (hu.below hA).undef
  have HUS := Lib.hid hus
  have hlt : 0 < w.heap.size := by obtain ⟨s, h⟩ := hu.undef; exact block_of_cell h
  clear hs hu hd hm hus
  go_enter Tryd.func49, Tryd.ntmps49
  go_wp2_with fail
  refine HC.out.mono ?_
  rintro e w1 ⟨⟨S, t, p, rfl⟩, hb1⟩
  have hb := below_next hA hb1
  have hz1 : w.heap.size + 1 ≤ w1.heap.size := by have := hb1.size; simpa using this
  have r0 := row_below hb1 (block_of_row hr0.out) hr0.out
  have k0 := fun o => cell_of_row' (cur := [_]) (row_alloc r0 o) 0
  have f0 := fun o => frozen_of_row' (cur := [_]) (row_alloc r0 o) 0
  have hu1 := fun o => below_cell ((Below.refl w1.heap.size w1).alloc (Nat.le_refl _) o) (below_cell hb1 HUS.out)
  have R0 := Lib.hid r0
  clear HC hA hr0 r0 hb1
  go_wp2
  refine bodyPost_ret (results_row_tmp rfl _ _ (w.heap.size) 82 #[.string us] (0, 0) _ rfl (Lib.heap_setCell_same (i := 0) (row_alloc R0.out _) (.string us)) Tryd.underlying82 rfl (by kernel_rfl)) rfl ?_
  exact ⟨⟨_, _, _, rfl⟩, (hb.alloc (by omega) _).setCell (by exact Nat.le_refl _) _⟩

set_option maxRecDepth 100000 in
set_option maxHeartbeats 4000000 in
theorem cast_more (A : Option Addr) (n c : Nat) (l : List UInt8) (w : World) (hs : BS w (.slice A n c) l) (hm : l.length ≤ 2147483647) (hu : CdS w) (x : CidD) (k : Nat) (hd : cidRd l = some (x, k)) (hkn : k ≠ n) :
    Calls Tryd.prog 49 #[.slice A n c] w fun e w' => CidBad e ∧ Below w.heap.size w w' := by
  have hA : Below w.heap.size w (w.alloc cidZ) := (Below.refl _ _).alloc (Nat.le_refl _) _
  have hr0 := Lib.hid (heap_alloc_new w cidZ)
  have HC := Lib.hid (cidFrom_ok A n c l _ (hs.below hA) hm (hu.below hA) x k hd)
  obtain ⟨us, hus⟩ := (hu.below hA).undef
  have HUS := Lib.hid hus
  have hn : n ≤ 2147483647 := by have := hs.slice.1; omega
  have hne : ((k : Int) != n) = true := by rw [bne_iff_ne]; omega
  have hlt : 0 < w.heap.size := by obtain ⟨s, h⟩ := hu.undef; exact block_of_cell h
  clear hs hu hd hm hus hkn
  generalize (⟨(cidEnc x).toArray⟩ : ByteArray) = S at *
  go_enter Tryd.func49, Tryd.ntmps49
  go_wp2_with fail
  refine HC.out.mono ?_
  rintro e w1 ⟨rfl, hb1⟩
  have hb := below_next hA hb1
  have hz1 : w.heap.size + 1 ≤ w1.heap.size := by have := hb1.size; simpa using this
  have r0 := row_below hb1 (block_of_row hr0.out) hr0.out
  have hb2 : Below w1.heap.size w1 (w1.alloc (.cells #[.string S] 82)) := (Below.refl _ _).alloc (Nat.le_refl _) _
  have r2 := Lib.hid (row_below hb2 (block_of_row r0) r0)
  have u2 := Lib.hid (below_cell hb2 (below_cell hb1 HUS.out))
  have hb3 := Lib.hid (below_next hb hb2)
  clear HC hA hr0 r0 hb1 HUS
  go_wp2_with fail
  generalize w1.alloc (.cells #[.string S] 82) = w2 at *
  have v2 := u2.out
  go_region_with (go_at_call 76; refine (errorsNew _ w2.drew).mono ?_; rintro e w3 ⟨t, p, rfl, hb4⟩; have u3 := below_cell hb4 (show w2.drew.cell? _ = _ from u2.out); have r3 := row_below hb4 (show w.heap.size < w2.drew.heap.size from block_of_row r2.out) (show w2.drew.heap[w.heap.size]? = _ from r2.out); have k0 := cell_of_row' (cur := [_]) r3 0; have f0 := frozen_of_row' (cur := [_]) r3 0)
  all_goals
    go_wp2
    refine bodyPost_ret (results_row_tmp rfl _ _ (w.heap.size) 82 #[.string us] (0, 0) _ rfl (Lib.heap_setCell_same (i := 0) r3 (.string us)) Tryd.underlying82 rfl (by kernel_rfl)) rfl ?_
    exact ⟨⟨_, _, _, rfl⟩, ((hb3.out.drewN 1).trans (hb4.mono (hb3.out.drewN 1).size)).setCell (by exact Nat.le_refl _) _⟩

theorem cast_bad (A : Option Addr) (n c : Nat) (l : List UInt8) (w : World) (hs : BS w (.slice A n c) l) (hm : l.length ≤ 2147483647) (hu : CdS w) (hd : ∀ x, cidRd l ≠ some (x, n)) :
    Calls Tryd.prog 49 #[.slice A n c] w fun e w' => CidBad e ∧ Below w.heap.size w w' := by
  cases h : cidRd l with
  | none => exact cast_none A n c l w hs hm hu h
  | some y =>
    obtain ⟨x, k⟩ := y
    exact cast_more A n c l w hs hm hu x k h (fun e => hd x (by rw [h, e]))

/-- impl.Cid as zeros. -/
abbrev noCid : Value := .agg #[.int .u64 0, .int .u64 0, .int .u64 0, .string ⟨#[]⟩]
def cidVal (x : CidD) : Value := .agg #[.int .u64 x.ver, .int .u64 x.codec, .int .u64 x.code, .string ⟨x.dig.toArray⟩]

/-- What the walks need of a result's variable of type impl.Cid. -/
structure OutVar (w : World) (g : Nat) : Prop where
  row : w.heap[g]? = some outZ
theorem OutVar.cells {w : World} {g : Nat} (h : OutVar w g) : (w.cell? ⟨g, 0, none⟩ = some (.int .u64 0) ∧ w.cell? ⟨g, 1, none⟩ = some (.int .u64 0) ∧ w.cell? ⟨g, 2, none⟩ = some (.int .u64 0) ∧ w.cell? ⟨g, 3, none⟩ = some (.string ⟨#[]⟩)) ∧
    (w.frozen? ⟨g, 0, none⟩ = false ∧ w.frozen? ⟨g, 1, none⟩ = false ∧ w.frozen? ⟨g, 2, none⟩ = false ∧ w.frozen? ⟨g, 3, none⟩ = false) :=
  ⟨⟨cell_of_row' (cur := [_, _, _, _]) h.row 0, cell_of_row' (cur := [_, _, _, _]) h.row 1, cell_of_row' (cur := [_, _, _, _]) h.row 2, cell_of_row' (cur := [_, _, _, _]) h.row 3⟩,
    ⟨frozen_of_row' (cur := [_, _, _, _]) h.row 0, frozen_of_row' (cur := [_, _, _, _]) h.row 1, frozen_of_row' (cur := [_, _, _, _]) h.row 2, frozen_of_row' (cur := [_, _, _, _]) h.row 3⟩⟩
theorem OutVar.below {w w' : World} {g : Nat} (h : OutVar w g) (hb : Below w.heap.size w w') : OutVar w' g := ⟨row_below hb (block_of_row h.row) h.row⟩
theorem set4 {w : World} {g : Nat} {a b c d : Value} {t : TypeId} (h : w.heap[g]? = some (.cells #[a, b, c, d] t (0, 0))) (p q r s : Value) :
    ((((w.setCell ⟨g, 0, none⟩ p).setCell ⟨g, 1, none⟩ q).setCell ⟨g, 2, none⟩ r).setCell ⟨g, 3, none⟩ s).heap[g]? = some (.cells #[p, q, r, s] t (0, 0)) :=
  Lib.heap_setCell_same (i := 3) (Lib.heap_setCell_same (i := 2) (Lib.heap_setCell_same (i := 1) (Lib.heap_setCell_same (i := 0) h p) q) r) s
theorem below_set4 {B : Nat} {w w' : World} {g : Nat} (h : Below B w w') (hB : B ≤ g) (p q r s : Value) : Below B w ((((w'.setCell ⟨g, 0, none⟩ p).setCell ⟨g, 1, none⟩ q).setCell ⟨g, 2, none⟩ r).setCell ⟨g, 3, none⟩ s) :=
  (((h.setCell hB _).setCell hB _).setCell hB _).setCell hB _
end Go.Proofs.YthldlpggconmcaaDoorR
