/- Contracts: impl.cidIn. -/
import Derived.Test.YthfgnhgijgjggaaDoorCdE
namespace Go.Proofs.YthfgnhgijgjggaaDoor
open Go.RowKit

section
variable {P : Program}
/-- Two results, both in cells, the first a struct in a block that is known whole. -/
theorem results_row_cell {fn : Func} {p q : Tmp} {ty tb : TypeId} (h : fn.results = #[.cell p ty, .cell q tb]) (tmps : Array Value) (w : World) (g : Nat) (t : TypeId) (cs : Array Value) (fr : Nat × Nat) (d : TypeDesc) (a2 : Addr) (v : Value)
    (hp : tmps.getD p undef = .pointer (some ⟨g, 0, none⟩)) (hg : w.heap[g]? = some (.cells cs t fr))
    (hu : P.underlying ty = some d) (hd : (match d with | .struct _ | .array _ _ => true | _ => false) = true) (hi : (P.info? ty).map (·.size) = some cs.size)
    (hq : tmps.getD q undef = .pointer (some a2)) (hl : (loadVar tb a2).run P w = .ok v w) :
    (results fn tmps).run P w = .ok (.tuple #[.agg cs, v]) w := by
  have hp' : tmps[p]?.getD undef = .pointer (some ⟨g, 0, none⟩) := by simpa using hp
  have hq' : tmps[q]?.getD undef = .pointer (some a2) := by simpa using hq
  simp only [results, h]
  simp [Result.andThen, hp', hq', asAddr, run_loadVar_row w g t ty cs fr d hg hu hd hi, hl]
end
theorem loadBool {w : World} {a : Addr} {b : Bool} (h : w.cell? a = some (.bool b)) : (loadVar 4 a).run Tryd.prog w = .ok (.bool b) w := by
  have hb := Tryd.isAgg4
  simp [loadVar, go_sem, h]

/-- impl.Cid by value. -/
def cidV (v codec code : Int) (d : ByteArray) : Value := .agg #[.int .u64 v, .int .u64 codec, .int .u64 code, .string d]

theorem hmfA : ∀ (fn : Fn) (first cap : Array Value) (w : World), (Instr.makeFunc fn first cap).run Tryd.prog w = .ok (.func fn first cap) w := fun _ _ _ _ => rfl

abbrev cidO (v codec code : Int) (d : ByteArray) : Obj := .cells #[.int .u64 v, .int .u64 codec, .int .u64 code, .string d] 26
abbrev cidW (v codec code : Int) (d : ByteArray) (w : World) : World := ((w.alloc (cidO v codec code d)).alloc (.cells #[.string ⟨#[]⟩] 80)).alloc (.cells #[.bool false] 4)

/-- What lies behind the making of the bytes and of the multihash, told once. -/
theorem cidIn_pre (v codec code : Int) (d : ByteArray) (w : World) : ∃ A c w4, (convert 9 43 (.string d)).run Tryd.prog (cidW v codec code d w) = .ok (.slice A d.size c) w4 ∧ BS w4 (.slice A d.size c) d.data.toList ∧ Below w.heap.size w w4 ∧
    w4.heap[w.heap.size]? = some (cidO v codec code d) ∧ w4.heap[w.heap.size + 1]? = some (.cells #[.string ⟨#[]⟩] 80 (0, 0)) ∧ w4.heap[w.heap.size + 2]? = some (.cells #[.bool false] 4 (0, 0)) := by
  obtain ⟨c, w4, hconv, hb, hbs⟩ := conv_in (cidW v codec code d w) d
  refine ⟨_, c, w4, hconv, hbs, ?_, ?_, ?_, ?_⟩
  · exact below_next ((((Below.refl _ _).alloc (Nat.le_refl _) _).alloc (by simp) _).alloc (by simp; omega) _) hb
  · refine row_below hb (by simp; omega) ?_
    exact row_alloc (row_alloc (heap_alloc_new _ _) _) _
  · refine row_below hb (by simp) ?_
    have := row_alloc (heap_alloc_new (w.alloc (cidO v codec code d)) (.cells #[.string ⟨#[]⟩] 80)) (.cells #[.bool false] 4)
    simpa using this
  · refine row_below hb (by simp) ?_
    have := heap_alloc_new ((w.alloc (cidO v codec code d)).alloc (.cells #[.string ⟨#[]⟩] 80)) (.cells #[.bool false] 4)
    simpa using this

set_option maxRecDepth 100000 in
set_option maxHeartbeats 4000000 in
theorem cidIn_v1 (codec code : Nat) (hcodec : codec < 18446744073709551616) (hcode : code < 18446744073709551616) (d : ByteArray) (hd : d.size ≤ 2147483647) (w : World) :
    Calls Tryd.prog 40 #[.agg #[.int .u64 1, .int .u64 codec, .int .u64 code, .string d]] w fun e w' => e = .returned (.tuple #[.agg #[.string ⟨(cidEnc ⟨1, codec, code, d.data.toList⟩).toArray⟩], .bool true]) ∧ Below w.heap.size w w' := by
  have hmf := hmfA
  obtain ⟨A, c, w4, hconv, hbs, hb4, r1, r2, r3⟩ := cidIn_pre 1 codec code d w
  have HE := Lib.hid (encode_any _ _ _ _ w4 hbs (by rw [ba_len]; exact hd) code hcode)
  have hml := mhEnc_len_le code d.data.toList hcode (by rw [ba_len]; omega)
  rw [ba_len] at hml
  have HENC := Lib.hid (show cidEnc ⟨1, codec, code, d.data.toList⟩ = 1 :: (Lib.uvarint codec ++ mhEnc code d.data.toList) from rfl)
  generalize mhEnc code d.data.toList = M at HE hml HENC
  have d2 := cell_of_row' (cur := [_, _, _, _]) r1 2
  have HR1 := Lib.hid r1
  have HR2 := Lib.hid r2
  have HR3 := Lib.hid r3
  clear hbs r1 r2 r3
  go_enter_defers Tryd.func40, Tryd.ntmps40
  go_wp2_with fail
  refine HE.out.mono ?_
  rintro e w5 ⟨rfl, hr, hb5⟩
  have hbs5 := BS.of_row (c := M.length) hr.out (Nat.le_refl _)
  have hb6 := below_next hb4 hb5
  have q1 := row_below hb5 (block_of_row HR1.out) HR1.out
  have q2 := row_below hb5 (block_of_row HR2.out) HR2.out
  have q3 := row_below hb5 (block_of_row HR3.out) HR3.out
  have c0 := cell_of_row' (cur := [_, _, _, _]) q1 0
  have c1 := cell_of_row' (cur := [_, _, _, _]) q1 1
  have HV := Lib.hid (newCidV1 codec hcodec _ _ _ M w5 hbs5 (by omega) (by omega))
  rw [← HENC.out] at HV
  clear hbs5 hr HE hconv d2
  go_wp2_with fail
  refine HV.out.mono ?_
  rintro e w6 ⟨rfl, hb7⟩
  have hb8 := below_next hb6 hb7
  have s2 := row_below hb7 (block_of_row q2) q2
  have s3 := row_below hb7 (block_of_row q3) q3
  have k2 := cell_of_row' (cur := [_]) s2 0
  have k3 := cell_of_row' (cur := [_]) s3 0
  have f2 := frozen_of_row' (cur := [_]) s2 0
  have f3 := frozen_of_row' (cur := [_]) s3 0
  have S2 := Lib.hid s2
  have S3 := Lib.hid s3
  clear s2 s3 q1 q2 q3 c0 c1 HR1 HR2 HR3 HV HENC
  go_wp2
  refine leaves_cons (f := 68) (args := #[.pointer (some ⟨w.heap.size + 1, 0, none⟩), .pointer (some ⟨w.heap.size + 1 + 1, 0, none⟩)]) (by simp) (by simp [go_sem]) ?_
  refine (cidIn_idle _ _ _).mono ?_
  rintro e u' w'' ⟨rfl, rfl, rfl⟩
  refine ⟨_, results_row_cell rfl _ _ (w.heap.size + 1) 80 #[.string ⟨(cidEnc ⟨1, codec, code, d.data.toList⟩).toArray⟩] (0, 0) _ ⟨w.heap.size + 2, 0, none⟩ (.bool true) rfl ?h2 Tryd.underlying80 rfl (by kernel_rfl) rfl ?h3, rfl, ?_⟩
  case h2 => simp [World.setCell, Array.getElem?_modify, S2.out]
  case h3 => exact loadBool (World.cell?_setCell_same _ _ _ (by rw [World.cell?_setCell_other _ _ _ _ (by simp)]; exact k3))
  exact (hb8.setCell (by show w.heap.size ≤ w.heap.size + 1; omega) _).setCell (by show w.heap.size ≤ w.heap.size + 1 + 1; omega) _
end Go.Proofs.YthfgnhgijgjggaaDoor
