/- Contracts, joined (CdD CdE CdF CdG CdH CdA CdI CdJ CdK CdL). -/
import Derived.Test.YthehmnpbepmnpaaGreatDoorRJIo1
import Derived.Test.YthehmnpbepmnpaaGreatDoorRJIo2
import Derived.Test.YthehmnpbepmnpaaGreatDoorRJIo3
import Derived.WalkLawsBesides
import Derived.Defers
import Derived.Recover
import Derived.Deep.RegionHeld3
/- Contracts of package cid: tryNewCidV0, NewCidV0. -/
namespace Go.Proofs.YthehmnpbepmnpaaGreatDoorR
open Go.RowKit

/-- The variables that package cid reads. -/
structure CdS (w : World) : Prop extends MhS w where
  undef : ∃ s : ByteArray, w.cell? ⟨7, 0, none⟩ = some (.string s)
theorem CdS.below {w w' : World} (h : CdS w) (hb : Below w.heap.size w w') : CdS w' := by
  obtain ⟨s, h2⟩ := h.undef
  exact ⟨h.toMhS.below hb, s, below_cell hb h2⟩

set_option maxRecDepth 100000 in
set_option maxHeartbeats 2000000 in
theorem tryV0_ok (A : Option Addr) (n c : Nat) (l : List UInt8) (w : World) (hs : BS w (.slice A n c) l) (hm : l.length ≤ 2147483647) (hu : UvS w) (d : List UInt8) (hd : mhRd l = some (n, 18, d)) (h32 : d.length = 32) :
    Calls Tryz.prog 115 #[.slice A n c] w fun e w' => e = .returned (.tuple #[.agg #[.string ⟨l.toArray⟩], .nilIface]) ∧ Below w.heap.size w w' := by
  have hA : Below w.heap.size w (w.alloc (.cells #[.string ⟨#[]⟩] 82)) := (Below.refl _ _).alloc (Nat.le_refl _) _
  obtain ⟨A', c', hs', hc⟩ := Decode_ok A n c l _ (hs.below hA) hm (hu.below hA) 18 d hd
  rw [h32] at hc
  have HC := Lib.hid (hc _ (Below.refl _ _))
  have HS := Lib.hid (hs.below hA)
  have hr0 := heap_alloc_new w (.cells #[.string ⟨#[]⟩] 82)
  clear hs hs' hc hu hd h32 hm
  go_enter Tryz.func115, Tryz.ntmps115
  go_wp2_with fail
  generalize hw1 : w.alloc (.cells #[.string ⟨#[]⟩] 82) = w1 at *
  have hz1 : w1.heap.size = w.heap.size + 1 := by rw [← hw1]; simp
  clear hw1
  refine HC.out.mono ?_
  rintro e w2 ⟨⟨g, rfl, hg, hrow⟩, hb2⟩
  have hr2 := (hb2.block _ (by omega)).trans hr0
  have c0 : w2.cell? ⟨g, 0, none⟩ = some (.int .u64 18) := by simp [World.cell?, hrow]
  have c2 : w2.cell? ⟨g, 2, none⟩ = some (.int .i64 32) := by simp [World.cell?, hrow]
  have k0 := cell_of_row' (cur := [_]) hr2 0
  have f0 := frozen_of_row' (cur := [_]) hr2 0
  have hcv := ((HS.out.below hb2).str (dst := 9) Tryz.underlying162 Tryz.underlying5 Tryz.underlying9)
  have hb := hA.trans (hb2.mono (by omega))
  have HR2 := Lib.hid hr2
  clear hrow hr2 hr0 hA hb2 hz1
  go_wp2
  refine bodyPost_ret (results_row_tmp rfl _ _ (w.heap.size) 82 #[.string ⟨l.toArray⟩] (0, 0) _ ?h1 ?h2 Tryz.underlying82 rfl ?h5) ?h6 ?h7
  case h1 => rfl
  case h2 => simp [World.setCell, Array.getElem?_modify, HR2.out]
  case h5 => kernel_rfl
  case h6 => rfl
  exact ⟨rfl, hb.setCell (by exact Nat.le_refl _) _⟩

/-- A struct with one string, and an error. -/
def CidBad (e : Ending) : Prop := ∃ (s : ByteArray) (t : TypeId) (p : Value), e = .returned (.tuple #[.agg #[.string s], .iface t p])

set_option maxRecDepth 100000 in
set_option maxHeartbeats 2000000 in
theorem tryV0_bad (A : Option Addr) (n c : Nat) (l : List UInt8) (w : World) (hs : BS w (.slice A n c) l) (hm : l.length ≤ 2147483647) (hu : CdS w) (code : Nat) (d : List UInt8) (hd : mhRd l = some (n, code, d)) (h32 : ¬ (code = 18 ∧ d.length = 32)) :
    Calls Tryz.prog 115 #[.slice A n c] w fun e w' => CidBad e ∧ Below w.heap.size w w' := by
  have hA : Below w.heap.size w (w.alloc (.cells #[.string ⟨#[]⟩] 82)) := (Below.refl _ _).alloc (Nat.le_refl _) _
  obtain ⟨A', c', hs', hc⟩ := Decode_ok A n c l _ (hs.below hA) hm (hu.below hA).toUvS code d hd
  have HC := Lib.hid (hc _ (Below.refl _ _))
  have hr0 := heap_alloc_new w (.cells #[.string ⟨#[]⟩] 82)
  obtain ⟨us, hus⟩ := (hu.below hA).undef
  have hlt : 7 < w.heap.size := by obtain ⟨s, h⟩ := hu.undef; exact block_of_cell h
  generalize d.length = D at *
  clear hs hs' hc hu hd hm
  go_enter Tryz.func115, Tryz.ntmps115
  go_wp2_with fail
  generalize hw1 : w.alloc (.cells #[.string ⟨#[]⟩] 82) = w1 at *
  have hz1 : w1.heap.size = w.heap.size + 1 := by rw [← hw1]; simp
  clear hw1
  refine HC.out.mono ?_
  rintro e w2 ⟨⟨g, rfl, hg, hrow⟩, hb2⟩
  have hr2 := (hb2.block _ (by omega)).trans hr0
  have c0 : w2.cell? ⟨g, 0, none⟩ = some (.int .u64 code) := by simp [World.cell?, hrow]
  have c2 : w2.cell? ⟨g, 2, none⟩ = some (.int .i64 D) := by simp [World.cell?, hrow]
  have hus2 := below_cell hb2 hus
  have hb := hA.trans (hb2.mono (by omega))
  have hz2 : w.heap.size + 1 ≤ w2.heap.size := by have := hb2.size; omega
  have HR2 := Lib.hid hr2
  clear hrow hr2 hr0 hA hb2 hz1 hus
  have hcode : ((code : Int) != 18) = true ∨ (((code : Int) != 18) = false ∧ ((D : Int) != 32) = true) := by
    by_cases h : code = 18
    · refine .inr ⟨by rw [h]; rfl, ?_⟩
      rw [bne_iff_ne]
      intro e; exact h32 ⟨h, by omega⟩
    · refine .inl ?_
      rw [bne_iff_ne]; omega
  clear h32
  rcases hcode with h1 | ⟨h1, h2⟩
  all_goals
    go_wp2_with fail
    go_region_with (go_at_call 120; refine (errorsNew _ w2.drew).mono ?_; rintro e w3 ⟨t, p, rfl, hb3⟩; have hr3 := row_below hb3 (show w.heap.size < w2.drew.heap.size by show w.heap.size < w2.heap.size; omega) (show w2.drew.heap[w.heap.size]? = _ from HR2.out); have k0 := cell_of_row' (cur := [_]) hr3 0; have f0 := frozen_of_row' (cur := [_]) hr3 0; have hus3 := below_cell hb3 hus2)
    all_goals
      go_wp2
      refine bodyPost_ret (results_row_tmp rfl _ _ (w.heap.size) 82 #[.string us] (0, 0) _ rfl (by simp [World.setCell, Array.getElem?_modify, hr3]) Tryz.underlying82 rfl (by kernel_rfl)) rfl ?_
      exact ⟨⟨_, _, _, rfl⟩, ((hb.drewN 1).trans (hb3.mono (show w.heap.size ≤ w2.heap.size by omega))).setCell (by exact Nat.le_refl _) _⟩

theorem row_alloc {w : World} {g : Nat} {o' : Obj} (h : w.heap[g]? = some o') (o : Obj) : (w.alloc o).heap[g]? = some o' := (Below.heap_alloc w o g (block_of_row h)).trans h

set_option maxRecDepth 100000 in
set_option maxHeartbeats 2000000 in
theorem newCidV0_ok (A : Option Addr) (n c : Nat) (l : List UInt8) (w : World) (hs : BS w (.slice A n c) l) (hm : l.length ≤ 2147483647) (hu : UvS w) (d : List UInt8) (hd : mhRd l = some (n, 18, d)) (h32 : d.length = 32) :
    Calls Tryz.prog 77 #[.slice A n c] w fun e w' => e = .returned (.agg #[.string ⟨l.toArray⟩]) ∧ Below w.heap.size w w' := by
  have hA : Below w.heap.size w (w.alloc (.cells #[.string ⟨#[]⟩] 82)) := (Below.refl _ _).alloc (Nat.le_refl _) _
  have HC := Lib.hid (tryV0_ok A n c l _ (hs.below hA) hm (hu.below hA) d hd h32)
  have hr0 := heap_alloc_new w (.cells #[.string ⟨#[]⟩] 82)
  clear hs hu hd h32 hm
  go_enter Tryz.func77, Tryz.ntmps77
  go_wp2_with fail
  generalize hw1 : w.alloc (.cells #[.string ⟨#[]⟩] 82) = w1 at *
  have hz1 : w1.heap.size = w.heap.size + 1 := by rw [← hw1]; simp
  clear hw1
  refine HC.out.mono ?_
  rintro e w2 ⟨rfl, hb2⟩
  have hr2 := (hb2.block _ (by omega)).trans hr0
  have hb := hA.trans (hb2.mono (by omega))
  have hz2 : w.heap.size + 1 ≤ w2.heap.size := by have := hb2.size; omega
  have k0 := fun o => cell_of_row' (cur := [_]) (row_alloc hr2 o) 0
  have f0 := fun o => frozen_of_row' (cur := [_]) (row_alloc hr2 o) 0
  have HR2 := Lib.hid hr2
  clear hr2 hr0 hA hb2 hz1
  go_wp2
  refine bodyPost_ret (results_cell_row rfl _ _ (w.heap.size) 82 #[.string ⟨l.toArray⟩] (0, 0) _ rfl (by simp [World.setCell, Array.getElem?_modify, row_alloc HR2.out, -World.alloc_eq]) Tryz.underlying82 rfl (by kernel_rfl)) rfl ?_
  exact ⟨rfl, (hb.alloc (by omega) _).setCell (by exact Nat.le_refl _) _⟩

set_option maxRecDepth 100000 in
set_option maxHeartbeats 2000000 in
theorem newCidV0_bad (A : Option Addr) (n c : Nat) (l : List UInt8) (w : World) (hs : BS w (.slice A n c) l) (hm : l.length ≤ 2147483647) (hu : CdS w) (code : Nat) (d : List UInt8) (hd : mhRd l = some (n, code, d)) (h32 : ¬ (code = 18 ∧ d.length = 32)) :
    Calls Tryz.prog 77 #[.slice A n c] w fun e w' => (∃ t p, e = .panicked [{ v := .iface t p, recovered := false }]) ∧ Below w.heap.size w w' := by
  have hA : Below w.heap.size w (w.alloc (.cells #[.string ⟨#[]⟩] 82)) := (Below.refl _ _).alloc (Nat.le_refl _) _
  have HC := Lib.hid (tryV0_bad A n c l _ (hs.below hA) hm (hu.below hA) code d hd h32)
  clear hs hu hd h32 hm
  go_enter Tryz.func77, Tryz.ntmps77
  go_wp2_with fail
  refine HC.out.mono ?_
  rintro e w2 ⟨⟨s, t, p, rfl⟩, hb2⟩
  have hb := below_next hA hb2
  have hz := hb2.size
  clear hA
  go_wp2
  exact ⟨rfl, ⟨t, p, rfl⟩, hb.alloc hb.size _⟩
end Go.Proofs.YthehmnpbepmnpaaGreatDoorR
/- Contracts: impl.cidIn's deferred closure. -/
namespace Go.Proofs.YthehmnpbepmnpaaGreatDoorR
open Go.RowKit

set_option maxRecDepth 100000 in
set_option maxHeartbeats 2000000 in
theorem cidIn_catch (a b : Nat) (hab : a ≠ b) (s0 : ByteArray) (o0 : Bool) (u : TypeId) (pv : Value) (older : List PanicEntry) (w : World)
    (ha : w.cell? ⟨a, 0, none⟩ = some (.string s0)) (fa : w.frozen? ⟨a, 0, none⟩ = false) (hb : w.cell? ⟨b, 0, none⟩ = some (.bool o0)) (fb : w.frozen? ⟨b, 0, none⟩ = false) :
    CallsD Tryz.prog 75 #[.pointer (some ⟨a, 0, none⟩), .pointer (some ⟨b, 0, none⟩)] (.panicking ({ v := .iface u pv, recovered := false } :: older)) w fun e u' w' =>
      e = .returned (.tuple #[]) ∧ u' = .panicking ({ v := .iface u pv, recovered := true } :: older) ∧ w' = (w.setCell ⟨a, 0, none⟩ (.string ⟨#[]⟩)).setCell ⟨b, 0, none⟩ (.bool false) := by
  refine callsD_of_wpS Tryz.func75 rfl fun c₀ cs hu => ?_
  apply wpS_seq
  apply wpS_region
  simp [wpOpsS, go_sem, recoverD, hu, Tryz.ntmps75, Exit.thenS]
  refine wpS_cond (t := true) (by simp [Act.eval, Array.replicate]) ?_
  simp only [if_true]
  have hb' : (w.setCell ⟨a, 0, none⟩ (.string ⟨#[]⟩)).cell? ⟨b, 0, none⟩ = some (.bool o0) := by
    rw [World.cell?_setCell_other _ _ _ _ (by simp)]; exact hb
  have fb' : (w.setCell ⟨a, 0, none⟩ (.string ⟨#[]⟩)).frozen? ⟨b, 0, none⟩ = false := by simpa using fb
  apply wpS_region
  simp [wpOpsS, go_sem, ha, fa, hb', fb', bodyPostS, results, Tryz.results75]
  trace_state

set_option maxRecDepth 100000 in
set_option maxHeartbeats 2000000 in
theorem cidIn_idle (p q : Addr) (w : World) :
    CallsD Tryz.prog 75 #[.pointer (some p), .pointer (some q)] .returning w fun e u' w' => e = .returned (.tuple #[]) ∧ u' = .returning ∧ w' = w := by
  refine callsD_of_wpS Tryz.func75 rfl fun c₀ cs hu => ?_
  apply wpS_seq
  apply wpS_region
  simp [wpOpsS, go_sem, recoverD, hu, Tryz.ntmps75, Exit.thenS]
  refine wpS_cond (t := false) (by simp [Act.eval, Array.replicate]) ?_
  simp only [Bool.false_eq_true, if_false]
  refine wpS_of_wp (wp_skip ?_)
  cases c₀
  simp_all [bodyPostS, results, Tryz.results75]
end Go.Proofs.YthehmnpbepmnpaaGreatDoorR
/- Contracts: impl.cidIn. -/
namespace Go.Proofs.YthehmnpbepmnpaaGreatDoorR
open Go.RowKit

section
variable {P : Program}
/-- Two results, both in cells, the first a struct in a block that is known whole. -/
theorem results_row_cell {fn : Func} {p q : Tmp} {ty tb : TypeId} (h : fn.results = #[.cell p ty, .cell q tb]) (tmps : Array Value) (w : World) (g : Nat) (t : TypeId) (cs : Array Value) (fr : Nat × Nat) (d : TypeDesc) (a2 : Addr) (v : Value)
    (hp : tmps.getD p undef = .pointer (some ⟨g, 0, none⟩)) (hg : w.heap[g]? = some (.cells cs t fr))
    (hu : P.underlying ty = some d) (hd : (match d with | .struct _ | .array _ _ => true | _ => false) = true) (hi : (P.info? ty).map (·.size) = some cs.size)
    (hq : tmps.getD q undef = .pointer (some a2)) (hl : (loadVar tb a2).run P w = .ok v w) :
    (results fn tmps).run P w = .ok (.tuple #[.agg cs, v]) w := by
  have hp' : tmps[p]?.getD undef = .pointer (some ⟨g, 0, none⟩) := by simpa using hp
  have hq' : tmps[q]?.getD undef = .pointer (some a2) := by simpa using hq
  simp only [results, h]
  simp [Result.andThen, hp', hq', asAddr, run_loadVar_row w g t ty cs fr d hg hu hd hi, hl]
end
theorem loadBool {w : World} {a : Addr} {b : Bool} (h : w.cell? a = some (.bool b)) : (loadVar 4 a).run Tryz.prog w = .ok (.bool b) w := by
  have hb := Tryz.isAgg4
  simp [loadVar, go_sem, h]

/-- impl.Cid by value. -/
def cidV (v codec code : Int) (d : ByteArray) : Value := .agg #[.int .u64 v, .int .u64 codec, .int .u64 code, .string d]

theorem hmfA : ∀ (fn : Fn) (first cap : Array Value) (w : World), (Instr.makeFunc fn first cap).run Tryz.prog w = .ok (.func fn first cap) w := fun _ _ _ _ => rfl

abbrev cidO (v codec code : Int) (d : ByteArray) : Obj := .cells #[.int .u64 v, .int .u64 codec, .int .u64 code, .string d] 25
abbrev cidW (v codec code : Int) (d : ByteArray) (w : World) : World := ((w.alloc (cidO v codec code d)).alloc (.cells #[.string ⟨#[]⟩] 82)).alloc (.cells #[.bool false] 4)

/-- What lies behind the making of the bytes and of the multihash, told once. -/
theorem cidIn_pre (v codec code : Int) (d : ByteArray) (w : World) : ∃ A c w4, (convert 9 98 (.string d)).run Tryz.prog (cidW v codec code d w) = .ok (.slice A d.size c) w4 ∧ BS w4 (.slice A d.size c) d.data.toList ∧ Below w.heap.size w w4 ∧
    w4.heap[w.heap.size]? = some (cidO v codec code d) ∧ w4.heap[w.heap.size + 1]? = some (.cells #[.string ⟨#[]⟩] 82 (0, 0)) ∧ w4.heap[w.heap.size + 2]? = some (.cells #[.bool false] 4 (0, 0)) := by
  obtain ⟨c, w4, hconv, hb, hbs⟩ := conv_in (cidW v codec code d w) d
  refine ⟨_, c, w4, hconv, hbs, ?_, ?_, ?_, ?_⟩
  · exact below_next ((((Below.refl _ _).alloc (Nat.le_refl _) _).alloc (by simp) _).alloc (by simp; omega) _) hb
  · refine row_below hb (by simp; omega) ?_
    exact row_alloc (row_alloc (heap_alloc_new _ _) _) _
  · refine row_below hb (by simp) ?_
    have := row_alloc (heap_alloc_new (w.alloc (cidO v codec code d)) (.cells #[.string ⟨#[]⟩] 82)) (.cells #[.bool false] 4)
    simpa using this
  · refine row_below hb (by simp) ?_
    have := heap_alloc_new ((w.alloc (cidO v codec code d)).alloc (.cells #[.string ⟨#[]⟩] 82)) (.cells #[.bool false] 4)
    simpa using this

set_option maxRecDepth 100000 in
set_option maxHeartbeats 4000000 in
theorem cidIn_v1 (codec code : Nat) (hcodec : codec < 18446744073709551616) (hcode : code < 18446744073709551616) (d : ByteArray) (hd : d.size ≤ 2147483647) (w : World) :
    Calls Tryz.prog 37 #[.agg #[.int .u64 1, .int .u64 codec, .int .u64 code, .string d]] w fun e w' => e = .returned (.tuple #[.agg #[.string ⟨(cidEnc ⟨1, codec, code, d.data.toList⟩).toArray⟩], .bool true]) ∧ Below w.heap.size w w' := by
  have hmf := hmfA
  obtain ⟨A, c, w4, hconv, hbs, hb4, r1, r2, r3⟩ := cidIn_pre 1 codec code d w
  have HE := Lib.hid (encode_any _ _ _ _ w4 hbs (by rw [ba_len]; exact hd) code hcode)
  have hml := mhEnc_len_le code d.data.toList hcode (by rw [ba_len]; omega)
  rw [ba_len] at hml
  have HENC := Lib.hid (show cidEnc ⟨1, codec, code, d.data.toList⟩ = 1 :: (Lib.uvarint codec ++ mhEnc code d.data.toList) from rfl)
  generalize mhEnc code d.data.toList = M at HE hml HENC
  have d2 := cell_of_row' (cur := [_, _, _, _]) r1 2
  have HR1 := Lib.hid r1
  have HR2 := Lib.hid r2
  have HR3 := Lib.hid r3
  clear hbs r1 r2 r3
  go_enter_defers Tryz.func37, Tryz.ntmps37
  go_wp2_with fail
  refine HE.out.mono ?_
  rintro e w5 ⟨rfl, hr, hb5⟩
  have hbs5 := BS.of_row (c := M.length) hr.out (Nat.le_refl _)
  have hb6 := below_next hb4 hb5
  have q1 := row_below hb5 (block_of_row HR1.out) HR1.out
  have q2 := row_below hb5 (block_of_row HR2.out) HR2.out
  have q3 := row_below hb5 (block_of_row HR3.out) HR3.out
  have c0 := cell_of_row' (cur := [_, _, _, _]) q1 0
  have c1 := cell_of_row' (cur := [_, _, _, _]) q1 1
  have HV := Lib.hid (newCidV1 codec hcodec _ _ _ M w5 hbs5 (by omega) (by omega))
  rw [← HENC.out] at HV
  clear hbs5 hr HE hconv d2
  go_wp2_with fail
  refine HV.out.mono ?_
  rintro e w6 ⟨rfl, hb7⟩
  have hb8 := below_next hb6 hb7
  have s2 := row_below hb7 (block_of_row q2) q2
  have s3 := row_below hb7 (block_of_row q3) q3
  have k2 := cell_of_row' (cur := [_]) s2 0
  have k3 := cell_of_row' (cur := [_]) s3 0
  have f2 := frozen_of_row' (cur := [_]) s2 0
  have f3 := frozen_of_row' (cur := [_]) s3 0
  have S2 := Lib.hid s2
  have S3 := Lib.hid s3
  clear s2 s3 q1 q2 q3 c0 c1 HR1 HR2 HR3 HV HENC
  go_wp2
  refine leaves_cons (f := 75) (args := #[.pointer (some ⟨w.heap.size + 1, 0, none⟩), .pointer (some ⟨w.heap.size + 1 + 1, 0, none⟩)]) (by simp) (by simp [go_sem]) ?_
  refine (cidIn_idle _ _ _).mono ?_
  rintro e u' w'' ⟨rfl, rfl, rfl⟩
  refine ⟨_, results_row_cell rfl _ _ (w.heap.size + 1) 82 #[.string ⟨(cidEnc ⟨1, codec, code, d.data.toList⟩).toArray⟩] (0, 0) _ ⟨w.heap.size + 2, 0, none⟩ (.bool true) rfl ?h2 Tryz.underlying82 rfl (by kernel_rfl) rfl ?h3, rfl, ?_⟩
  case h2 => simp [World.setCell, Array.getElem?_modify, S2.out]
  case h3 => exact loadBool (World.cell?_setCell_same _ _ _ (by rw [World.cell?_setCell_other _ _ _ _ (by simp)]; exact k3))
  exact (hb8.setCell (by show w.heap.size ≤ w.heap.size + 1; omega) _).setCell (by show w.heap.size ≤ w.heap.size + 1 + 1; omega) _
end Go.Proofs.YthehmnpbepmnpaaGreatDoorR
/- Contracts: impl.cidIn at version 0, and at another version. -/
namespace Go.Proofs.YthehmnpbepmnpaaGreatDoorR
open Go.RowKit

set_option maxRecDepth 100000 in
set_option maxHeartbeats 4000000 in
theorem cidIn_v0 (codec : Nat) (d : ByteArray) (hd : d.size = 32) (w : World) (hu : UvS w) :
    Calls Tryz.prog 37 #[.agg #[.int .u64 0, .int .u64 codec, .int .u64 18, .string d]] w fun e w' => e = .returned (.tuple #[.agg #[.string ⟨(mhEnc 18 d.data.toList).toArray⟩], .bool ((codec : Int) == 112)]) ∧ Below w.heap.size w w' := by
  have hmf := hmfA
  obtain ⟨A, c, w4, hconv, hbs, hb4, r1, r2, r3⟩ := cidIn_pre 0 codec 18 d w
  have HE := Lib.hid (encode_any _ _ _ _ w4 hbs (by rw [ba_len]; omega) 18 (by omega))
  have hml := mhEnc_len_le 18 d.data.toList (by omega) (by rw [ba_len]; omega)
  rw [ba_len] at hml
  have hrd := mhRd_enc 18 d.data.toList [] (by omega) (by rw [ba_len]; omega)
  rw [List.append_nil] at hrd
  have hl32 : d.data.toList.length = 32 := by rw [ba_len]; exact hd
  have HRD := Lib.hid hrd
  clear hrd
  generalize mhEnc 18 d.data.toList = M at HE hml HRD ⊢
  have d2 := cell_of_row' (cur := [_, _, _, _]) r1 2
  have HL32 := Lib.hid hl32
  have HR1 := Lib.hid r1
  have HR2 := Lib.hid r2
  have HR3 := Lib.hid r3
  have hml2 : M.length ≤ 100 := by omega
  clear hbs r1 r2 r3 hl32 hml hd
  rw [show ((18 : Nat) : Int) = 18 from rfl] at HE
  generalize hcx : (codec : Int) = x at *
  clear hcx
  go_enter_defers Tryz.func37, Tryz.ntmps37
  go_wp2_with fail
  refine HE.out.mono ?_
  rintro e w5 ⟨rfl, hr, hb5⟩
  have hbs5 := BS.of_row (c := M.length) hr.out (Nat.le_refl _)
  have hb6 := below_next hb4 hb5
  have q1 := row_below hb5 (block_of_row HR1.out) HR1.out
  have q2 := row_below hb5 (block_of_row HR2.out) HR2.out
  have q3 := row_below hb5 (block_of_row HR3.out) HR3.out
  have c0 := cell_of_row' (cur := [_, _, _, _]) q1 0
  have c1 := cell_of_row' (cur := [_, _, _, _]) q1 1
  have HV := Lib.hid (newCidV0_ok _ _ _ M w5.drew hbs5 (by omega) ((hu.below hb6).below (below_drewN _ _ 1)) _ HRD.out HL32.out)
  have Q1 := Lib.hid q1
  have Q2 := Lib.hid q2
  have Q3 := Lib.hid q3
  clear hbs5 hr HE hconv d2 q1 q2 q3
  go_wp2_with fail
  refine wp_region_noPanic ?_
  go_region_with (go_at_call 77; refine HV.out.mono ?_; rintro e w6 ⟨rfl, hb7⟩; have s1 := row_below hb7 (block_of_row Q1.out) Q1.out; have s2 := row_below hb7 (block_of_row Q2.out) Q2.out; have s3 := row_below hb7 (block_of_row Q3.out) Q3.out; have t1 := cell_of_row' (cur := [_, _, _, _]) s1 1; have k2 := cell_of_row' (cur := [_]) s2 0; have k3 := cell_of_row' (cur := [_]) s3 0; have f2 := frozen_of_row' (cur := [_]) s2 0; have f3 := frozen_of_row' (cur := [_]) s3 0)
  all_goals
    refine NoPanic.normal ?_
    go_wp2
    refine leaves_cons (f := 75) (args := #[.pointer (some ⟨w.heap.size + 1, 0, none⟩), .pointer (some ⟨w.heap.size + 1 + 1, 0, none⟩)]) (by simp) (by simp [go_sem]) ?_
    refine (cidIn_idle _ _ _).mono ?_
    rintro e u' w'' ⟨rfl, rfl, rfl⟩
    refine ⟨_, results_row_cell rfl _ _ (w.heap.size + 1) 82 #[.string ⟨M.toArray⟩] (0, 0) _ ⟨w.heap.size + 2, 0, none⟩ (.bool (x == 112)) rfl (by simp [World.setCell, Array.getElem?_modify, s2]) Tryz.underlying82 rfl (by kernel_rfl) rfl (loadBool (World.cell?_setCell_same _ _ _ (by rw [World.cell?_setCell_other _ _ _ _ (by simp)]; exact k3))), rfl, ?_⟩
    exact (((hb6.drewN 1).trans (hb7.mono hb6.size)).setCell (by show w.heap.size ≤ w.heap.size + 1; omega) _).setCell (by show w.heap.size ≤ w.heap.size + 1 + 1; omega) _
end Go.Proofs.YthehmnpbepmnpaaGreatDoorR
/- Contracts: impl.cidIn where NewCidV0 panics. -/
namespace Go.Proofs.YthehmnpbepmnpaaGreatDoorR
open Go.RowKit

set_option maxRecDepth 100000 in
set_option maxHeartbeats 8000000 in
theorem cidIn_v0bad (codec code : Nat) (d : ByteArray) (hd : d.size ≤ 2147483600) (hcode : code < 9223372036854775808) (hbad : ¬ (code = 18 ∧ d.size = 32)) (w : World) (hu : CdS w) :
    Calls Tryz.prog 37 #[.agg #[.int .u64 0, .int .u64 codec, .int .u64 code, .string d]] w fun e w' => e = .returned (.tuple #[.agg #[.string ⟨#[]⟩], .bool false]) ∧ Below w.heap.size w w' := by
  have hmf := hmfA
  obtain ⟨A, c, w4, hconv, hbs, hb4, r1, r2, r3⟩ := cidIn_pre 0 codec code d w
  have HE := Lib.hid (encode_any _ _ _ _ w4 hbs (by rw [ba_len]; omega) code (by omega))
  have hml := mhEnc_len_le code d.data.toList (by omega) (by rw [ba_len]; omega)
  rw [ba_len] at hml
  have hrd := mhRd_enc code d.data.toList [] (by omega) (by rw [ba_len]; omega)
  rw [List.append_nil] at hrd
  have HRD := Lib.hid hrd
  clear hrd
  generalize mhEnc code d.data.toList = M at HE hml HRD
  have d2 := cell_of_row' (cur := [_, _, _, _]) r1 2
  have HBAD : Hid (¬ (code = 18 ∧ d.data.toList.length = 32)) := Lib.hid (by rw [ba_len]; exact hbad)
  have HR1 := Lib.hid r1
  have HR2 := Lib.hid r2
  have HR3 := Lib.hid r3
  have hml2 : M.length ≤ 2147483647 := by omega
  clear hbs r1 r2 r3 hbad hcode
  generalize hcx : (codec : Int) = x at *
  clear hcx
  go_enter_defers Tryz.func37, Tryz.ntmps37
  go_wp2_with fail
  refine HE.out.mono ?_
  rintro e w5 ⟨rfl, hr, hb5⟩
  have hbs5 := BS.of_row (c := M.length) hr.out (Nat.le_refl _)
  have hb6 := below_next hb4 hb5
  have q1 := row_below hb5 (block_of_row HR1.out) HR1.out
  have q2 := row_below hb5 (block_of_row HR2.out) HR2.out
  have q3 := row_below hb5 (block_of_row HR3.out) HR3.out
  have c0 := cell_of_row' (cur := [_, _, _, _]) q1 0
  have c1 := cell_of_row' (cur := [_, _, _, _]) q1 1
  have HV := Lib.hid (newCidV0_bad _ _ _ M w5.drew hbs5 (by omega) ((hu.below hb6).below (below_drewN _ _ 1)) _ _ HRD.out HBAD.out)
  have Q1 := Lib.hid q1
  have Q2 := Lib.hid q2
  have Q3 := Lib.hid q3
  clear hbs5 hr HE hconv d2 q1 q2 q3 hml
  go_wp2_with fail
  refine wp_region_any (by kernel_rfl) ?_
  change wpAny _ _ _ _ _ _ _ (World.drew _)
  repeat (any_goals (first
    | exact AllReady.nil
    | (refine AllReady.cons rfl (fun K hK => ?_) ?_; focus (go_simp; first
        | (refine hK _ _ ?_; clear hK K)
        | (go_wp2_with fail
           refine HV.out.mono ?_
           rintro e w6 ⟨⟨t, p, rfl⟩, hb7⟩
           have s2 := row_below hb7 (block_of_row Q2.out) Q2.out
           have s3 := row_below hb7 (block_of_row Q3.out) Q3.out
           have k2 := cell_of_row' (cur := [_]) s2 0
           have k3 := cell_of_row' (cur := [_]) s3 0
           have f2 := frozen_of_row' (cur := [_]) s2 0
           have f3 := frozen_of_row' (cur := [_]) s3 0
           dsimp only
           clear hK K
           go_wp2
           refine leaves_cons (f := 75) (args := #[.pointer (some ⟨w.heap.size + 1, 0, none⟩), .pointer (some ⟨w.heap.size + 1 + 1, 0, none⟩)]) (by simp) (by simp [go_sem]) ?_
           refine (cidIn_catch (w.heap.size + 1) (w.heap.size + 1 + 1) (by omega) _ _ _ _ [] _ k2 f2 k3 f3).mono ?_
           rintro e u' w'' ⟨rfl, rfl, rfl⟩
           refine ⟨_, results_row_cell rfl _ _ (w.heap.size + 1) 82 #[.string ⟨#[]⟩] (0, 0) _ ⟨w.heap.size + 2, 0, none⟩ (.bool false) rfl (by simp [World.setCell, Array.getElem?_modify, s2]) Tryz.underlying82 rfl (by kernel_rfl) rfl (loadBool (World.cell?_setCell_same _ _ _ (by rw [World.cell?_setCell_other _ _ _ _ (by simp)]; exact k3))), rfl, ?_⟩
           exact (((hb6.drewN 1).trans (hb7.mono hb6.size)).setCell (by show w.heap.size ≤ w.heap.size + 1; omega) _).setCell (by show w.heap.size ≤ w.heap.size + 1 + 1; omega) _)))
    | refine wpAny_ready (rs := [0, 2]) (by decide +kernel) (by simp) ?_
    | refine wpAny_ready (rs := [0, 3]) (by decide +kernel) (by simp) ?_
    | refine wpAny_ready (rs := [0, 4]) (by decide +kernel) (by simp) ?_
    | refine wpAny_ready (rs := [0]) (by decide +kernel) (by simp) ?_
    | refine wpAny_ready (rs := [1, 2]) (by decide +kernel) (by simp) ?_
    | refine wpAny_ready (rs := [1, 3]) (by decide +kernel) (by simp) ?_
    | refine wpAny_ready (rs := [1, 4]) (by decide +kernel) (by simp) ?_
    | refine wpAny_ready (rs := [1]) (by decide +kernel) (by simp) ?_))
end Go.Proofs.YthehmnpbepmnpaaGreatDoorR
/- Contracts of package cid: Version, Defined, KeyString, Bytes, Equals, uvarint of a string. -/
namespace Go.Proofs.YthehmnpbepmnpaaGreatDoorR
open Go.RowKit

section
variable {P : Program}
/-- 's[i]' of a string. -/
theorem idx_ba {t : TypeId} (ht : P.underlying t = some .string) (s : ByteArray) (i : Nat) (c : UInt8) (h : s.data.toList[i]? = some c) (x : Int) (hx : x = i) (W : World) :
    (Instr.index t (.string s) (.int .i64 x)).run P W = .ok (.int .u8 (c.toNat : Int)) W := by
  have h2 := idx_str (P := P) ht s.data.toList i c h x hx W
  rw [ba_mk] at h2
  exact h2
end

theorem get_some {s : ByteArray} {i : Nat} (h : i < s.size) : ∃ c : UInt8, s.data.toList[i]? = some c := by
  have : i < s.data.toList.length := by rw [ba_len]; exact h
  exact ⟨_, List.getElem?_eq_getElem this⟩

set_option maxRecDepth 100000 in
set_option maxHeartbeats 1000000 in
theorem cdVer0 (s : ByteArray) (w : World) (hs : s.size = 34) (hz : cidZero s.data.toList) :
    Calls Tryz.prog 108 #[.agg #[.string s]] w fun e w' => e = .returned (.int .u64 0) ∧ Below w.heap.size w w' := by
  obtain ⟨_, h0, h1⟩ := hz
  have i0 := fun W => idx_ba (P := Tryz.prog) Tryz.underlying9 s 0 18 h0 0 rfl W
  have i1 := fun W => idx_ba (P := Tryz.prog) Tryz.underlying9 s 1 32 h1 1 rfl W
  have hsz : ((s.size : Int) == 34) = true := by rw [hs]; rfl
  clear h0 h1 hs
  go_enter Tryz.func108, Tryz.ntmps108
  go_wp2
  go_ret
  exact ⟨rfl, (Below.refl _ _).alloc (Nat.le_refl _) _⟩

set_option maxRecDepth 100000 in
set_option maxHeartbeats 1000000 in
theorem cdVer1 (s : ByteArray) (w : World) (hz : ¬ (s.size = 34 ∧ cidZero s.data.toList)) :
    Calls Tryz.prog 108 #[.agg #[.string s]] w fun e w' => e = .returned (.int .u64 1) ∧ Below w.heap.size w w' := by
  by_cases hs : s.size = 34
  · obtain ⟨c, h0⟩ := get_some (s := s) (i := 0) (by omega)
    obtain ⟨d, h1⟩ := get_some (s := s) (i := 1) (by omega)
    have i0 := fun W => idx_ba (P := Tryz.prog) Tryz.underlying9 s 0 c h0 0 rfl W
    have i1 := fun W => idx_ba (P := Tryz.prog) Tryz.underlying9 s 1 d h1 1 rfl W
    have hsz : ((s.size : Int) == 34) = true := by rw [hs]; rfl
    have hl : s.data.toList.length = 34 := by rw [ba_len]; exact hs
    by_cases hc : c = 18
    · have hd : ¬ d = 32 := fun hd => hz ⟨hs, by rw [hl]; omega, by rw [h0, hc], by rw [h1, hd]⟩
      subst hc
      have hd' : ((d.toNat : Int) == 32) = false := by
        rw [beq_eq_false_iff_ne]; intro e; exact hd (UInt8.toNat_inj.1 (by show d.toNat = 32; omega))
      clear h0 h1 hs hz hl hd
      go_enter Tryz.func108, Tryz.ntmps108
      go_wp2
      go_ret
      exact ⟨rfl, (Below.refl _ _).alloc (Nat.le_refl _) _⟩
    · have hc' : ((c.toNat : Int) == 18) = false := by
        rw [beq_eq_false_iff_ne]; intro e; exact hc (UInt8.toNat_inj.1 (by show c.toNat = 18; omega))
      clear h0 h1 hs hz hl hc
      go_enter Tryz.func108, Tryz.ntmps108
      go_wp2
      go_ret
      exact ⟨rfl, (Below.refl _ _).alloc (Nat.le_refl _) _⟩
  · have hsz : ((s.size : Int) == 34) = false := by rw [beq_eq_false_iff_ne]; omega
    clear hs hz
    go_enter Tryz.func108, Tryz.ntmps108
    go_wp2
    go_ret
    exact ⟨rfl, (Below.refl _ _).alloc (Nat.le_refl _) _⟩

theorem ba_nonempty {s : ByteArray} (h : 0 < s.size) : s.toList.isEmpty = false ∧ (!s.toList.isEmpty) = true ∧ ¬ s.toList = [] := by
  have : s.toList ≠ [] := by
    rw [ByteArray.toList_eq]
    intro e
    have := ba_len s
    rw [e] at this
    simp at this
    omega
  cases h2 : s.toList with
  | nil => exact absurd h2 this
  | cons => exact ⟨rfl, rfl, by simp⟩

set_option maxRecDepth 100000 in
set_option maxHeartbeats 1000000 in
theorem cdDefined (s : ByteArray) (w : World) (h : 0 < s.size) :
    Calls Tryz.prog 141 #[.agg #[.string s]] w fun e w' => e = .returned (.bool true) ∧ Below w.heap.size w w' := by
  obtain ⟨h1, h2, h3⟩ := ba_nonempty h
  go_enter Tryz.func141, Tryz.ntmps141
  go_wp2
  go_ret
  exact ⟨rfl, (Below.refl _ _).alloc (Nat.le_refl _) _⟩
end Go.Proofs.YthehmnpbepmnpaaGreatDoorR
/- Contracts: impl.cidIn at a version that is none; impl.CdBytes. -/
namespace Go.Proofs.YthehmnpbepmnpaaGreatDoorR
open Go.RowKit

set_option maxRecDepth 100000 in
set_option maxHeartbeats 4000000 in
theorem cidIn_other (v codec code : Nat) (hv : 2 ≤ v) (hcode : code < 18446744073709551616) (d : ByteArray) (hd : d.size ≤ 2147483647) (w : World) :
    Calls Tryz.prog 37 #[.agg #[.int .u64 v, .int .u64 codec, .int .u64 code, .string d]] w fun e w' => e = .returned (.tuple #[.agg #[.string ⟨#[]⟩], .bool false]) ∧ Below w.heap.size w w' := by
  have hmf := hmfA
  obtain ⟨A, c, w4, hconv, hbs, hb4, r1, r2, r3⟩ := cidIn_pre v codec code d w
  have HE := Lib.hid (encode_any _ _ _ _ w4 hbs (by rw [ba_len]; exact hd) code hcode)
  generalize mhEnc code d.data.toList = M at HE
  have d2 := cell_of_row' (cur := [_, _, _, _]) r1 2
  have HR1 := Lib.hid r1
  have HR2 := Lib.hid r2
  have HR3 := Lib.hid r3
  have v0 : ((v : Int) == 0) = false := by rw [beq_eq_false_iff_ne]; omega
  have v1 : ((v : Int) == 1) = false := by rw [beq_eq_false_iff_ne]; omega
  clear hbs r1 r2 r3
  go_enter_defers Tryz.func37, Tryz.ntmps37
  go_wp2_with fail
  refine HE.out.mono ?_
  rintro e w5 ⟨rfl, hr, hb5⟩
  have hb6 := below_next hb4 hb5
  have q1 := row_below hb5 (block_of_row HR1.out) HR1.out
  have q2 := row_below hb5 (block_of_row HR2.out) HR2.out
  have q3 := row_below hb5 (block_of_row HR3.out) HR3.out
  have c0 := cell_of_row' (cur := [_, _, _, _]) q1 0
  have k2 := cell_of_row' (cur := [_]) q2 0
  have k3 := cell_of_row' (cur := [_]) q3 0
  have f2 := frozen_of_row' (cur := [_]) q2 0
  have f3 := frozen_of_row' (cur := [_]) q3 0
  have S2 := Lib.hid q2
  clear hr HE hconv d2 q1 q2 q3
  go_wp2
  refine leaves_cons (f := 75) (args := #[.pointer (some ⟨w.heap.size + 1, 0, none⟩), .pointer (some ⟨w.heap.size + 1 + 1, 0, none⟩)]) (by simp) (by simp [go_sem]) ?_
  refine (cidIn_idle _ _ _).mono ?_
  rintro e u' w'' ⟨rfl, rfl, rfl⟩
  refine ⟨_, results_row_cell rfl _ _ (w.heap.size + 1) 82 #[.string ⟨#[]⟩] (0, 0) _ ⟨w.heap.size + 2, 0, none⟩ (.bool false) rfl (by simp [World.setCell, Array.getElem?_modify, S2.out]) Tryz.underlying82 rfl (by kernel_rfl) rfl (loadBool (World.cell?_setCell_same _ _ _ (by rw [World.cell?_setCell_other _ _ _ _ (by simp)]; exact k3))), rfl, ?_⟩
  exact (hb6.setCell (by show w.heap.size ≤ w.heap.size + 1; omega) _).setCell (by show w.heap.size ≤ w.heap.size + 1 + 1; omega) _

/-- A tidy identifier goes in. -/
theorem cidIn_ok (c : CidD) (ht : c.tidy) (d : ByteArray) (hcd : c.dig = d.data.toList) (hd : d.size ≤ 2147483600) (w : World) (hu : UvS w) :
    Calls Tryz.prog 37 #[.agg #[.int .u64 c.ver, .int .u64 c.codec, .int .u64 c.code, .string d]] w fun e w' => e = .returned (.tuple #[.agg #[.string ⟨(cidEnc c).toArray⟩], .bool true]) ∧ Below w.heap.size w w' := by
  obtain ⟨v, codec, code, dg⟩ := c
  simp only at hcd
  subst hcd
  rcases ht with ⟨h0, h1, h2, h3⟩ | ⟨h0, h1, h2⟩
  · simp only at h0 h1 h2 h3
    subst h0 h1 h2
    rw [ba_len] at h3
    exact cidIn_v0 112 d h3 w hu
  · simp only at h0 h1 h2
    subst h0
    exact cidIn_v1 codec code (by omega) (by omega) d (by omega) w

/-- What is no tidy identifier does not. -/
theorem cidIn_no (c : CidD) (ht : ¬ c.tidy) (h1 : c.codec < 9223372036854775808) (h2 : c.code < 9223372036854775808) (d : ByteArray) (hcd : c.dig = d.data.toList) (hd : d.size ≤ 2147483600) (w : World) (hu : CdS w) :
    Calls Tryz.prog 37 #[.agg #[.int .u64 c.ver, .int .u64 c.codec, .int .u64 c.code, .string d]] w fun e w' => (∃ s, e = .returned (.tuple #[.agg #[.string s], .bool false])) ∧ Below w.heap.size w w' := by
  obtain ⟨v, codec, code, dg⟩ := c
  simp only at hcd h1 h2
  subst hcd
  by_cases hv0 : v = 0
  · subst hv0
    by_cases h : code = 18 ∧ d.size = 32
    · obtain ⟨rfl, h32⟩ := h
      have hc : ((codec : Int) == 112) = false := by
        rw [beq_eq_false_iff_ne]
        intro e
        exact ht (.inl ⟨rfl, by show codec = 112; omega, rfl, by show d.data.toList.length = 32; rw [ba_len]; exact h32⟩)
      have := cidIn_v0 codec d h32 w hu.toUvS
      rw [hc] at this
      exact this.mono fun e w' ⟨h, k⟩ => ⟨⟨_, h⟩, k⟩
    · exact (cidIn_v0bad codec code d hd h2 h w hu).mono fun e w' ⟨h, k⟩ => ⟨⟨_, h⟩, k⟩
  · by_cases hv1 : v = 1
    · subst hv1
      exact absurd (Or.inr ⟨rfl, h1, h2⟩) ht
    · exact (cidIn_other v codec code (by omega) (by omega) d (by omega) w).mono fun e w' ⟨h, k⟩ => ⟨⟨_, h⟩, k⟩

end Go.Proofs.YthehmnpbepmnpaaGreatDoorR
/- Contracts: multihash.Cast; cid.CidFromBytes where an identifier is read. -/
namespace Go.Proofs.YthehmnpbepmnpaaGreatDoorR
open Go.RowKit

section
variable {P : Program}
/-- Three results, the second a struct in a block that is known whole. -/
theorem results_tmp_row_tmp {fn : Func} {p u u2 : Tmp} {ty : TypeId} (h : fn.results = #[.tmp u, .cell p ty, .tmp u2]) (tmps : Array Value) (w : World) (g : Nat) (t : TypeId) (cs : Array Value) (fr : Nat × Nat) (d : TypeDesc)
    (hp : tmps.getD p undef = .pointer (some ⟨g, 0, none⟩)) (hg : w.heap[g]? = some (.cells cs t fr))
    (hu : P.underlying ty = some d) (hd : (match d with | .struct _ | .array _ _ => true | _ => false) = true) (hi : (P.info? ty).map (·.size) = some cs.size) :
    (results fn tmps).run P w = .ok (.tuple #[tmps.getD u undef, .agg cs, tmps.getD u2 undef]) w := by
  have hp' : tmps[p]?.getD undef = .pointer (some ⟨g, 0, none⟩) := by simpa using hp
  simp only [results, h]
  simp [Result.andThen, hp', asAddr, run_loadVar_row w g t ty cs fr d hg hu hd hi]

/-- 's[0:k]'. -/
theorem run_zero_to {t e : TypeId} (ht : P.underlying t = some (.slice e)) (hsz : (P.info? e).map (fun i => (i.zero, i.size, i.bytes)) = some (some (.int .u8 0), 1, 1)) (A : Option Addr) (n c k : Nat) (hk : k ≤ n) (hn : n ≤ c) (W : World) :
    (Instr.slice t (.slice A n c) (some (.int .i64 0)) (some (.int .i64 (k : Int))) none).run P W = .ok (.slice A k c) W := by
  have ht' : P.underlying t = some (.slice (P.elem t)) := by simp [Program.elem, ht]
  have he : P.elem t = e := by simp [Program.elem, ht]
  rw [run_slice_lh W t _ _ _ ht' .i64 .i64 _ _ (by omega) (by omega) (by omega), he, run_size hsz, Int.toNat_natCast]
  simp only [Result.andThen, Int.toNat_zero, sliced]
  congr 2
  by_cases h0 : c = 0
  · rw [if_pos h0]
  · rw [if_neg h0]; cases A <;> simp [Addr.add]
end

set_option maxRecDepth 100000 in
set_option maxHeartbeats 2000000 in
theorem mhCast_ok (A : Option Addr) (n c : Nat) (l : List UInt8) (w : World) (hs : BS w (.slice A n c) l) (hm : l.length ≤ 2147483647) (hu : UvS w) (code : Nat) (d : List UInt8) (hd : mhRd l = some (n, code, d)) :
    Calls Tryz.prog 187 #[.slice A n c] w fun e w' => e = .returned (.tuple #[.slice A n c, .nilIface]) ∧ Below w.heap.size w w' := by
  obtain ⟨A', c', hs', hc⟩ := Decode_ok A n c l w hs hm hu code d hd
  have HC := Lib.hid (hc _ (Below.refl _ _))
  clear hs hs' hc hu hd hm
  go_enter Tryz.func187, Tryz.ntmps187
  go_wp2_with fail
  refine HC.out.mono ?_
  rintro e w2 ⟨⟨g, rfl, hg, hrow⟩, hb2⟩
  go_wp2
  go_ret2
  exact ⟨rfl, hb2⟩

/-- What the first three bytes say, in the walk's words: no version 0. -/
theorem not_zero_cases {l : List UInt8} (h : ¬ cidZero l) : l.length ≤ 2 ∨ (2 < l.length ∧ ∃ a b : UInt8, l[0]? = some a ∧ l[1]? = some b ∧ (((a.toNat : Int) == 18) = false ∨ (((a.toNat : Int) == 18) = true ∧ ((b.toNat : Int) == 32) = false))) := by
  by_cases h2 : l.length ≤ 2
  · exact .inl h2
  · refine .inr ⟨by omega, l[0], l[1], List.getElem?_eq_getElem (by omega), List.getElem?_eq_getElem (by omega), ?_⟩
    by_cases h0 : l[0] = 18
    · refine .inr ⟨by rw [h0]; rfl, ?_⟩
      rw [beq_eq_false_iff_ne]
      intro e
      exact h ⟨by omega, by rw [List.getElem?_eq_getElem (by omega), h0], by rw [List.getElem?_eq_getElem (by omega)]; congr 1; exact UInt8.toNat_inj.1 (by show l[1].toNat = 32; omega)⟩
    · refine .inl ?_
      rw [beq_eq_false_iff_ne]
      intro e
      exact h0 (UInt8.toNat_inj.1 (by show l[0].toNat = 18; omega))

abbrev cidZ : Obj := .cells #[.string ⟨#[]⟩] 82

set_option maxRecDepth 100000 in
set_option maxHeartbeats 4000000 in
theorem cidFrom_zero (A : Option Addr) (n c : Nat) (l : List UInt8) (w : World) (hs : BS w (.slice A n c) l) (hm : l.length ≤ 2147483647) (hu : CdS w) (hz : cidZero l) (h34 : 34 ≤ l.length) :
    Calls Tryz.prog 177 #[.slice A n c] w fun e w' => e = .returned (.tuple #[.int .i64 34, .agg #[.string ⟨(l.take 34).toArray⟩], .nilIface]) ∧ Below w.heap.size w w' := by
  have hA : Below w.heap.size w (w.alloc cidZ) := (Below.refl _ _).alloc (Nat.le_refl _) _
  have hrd : cidRd l = some (⟨0, 112, 18, (l.drop 2).take 32⟩, 34) := by unfold cidRd; rw [if_pos hz, if_neg (by omega)]
  obtain ⟨_, ht, _, _⟩ := cidRd_take hrd
  have hmr : mhRd (l.take 34) = some (34, 18, (l.drop 2).take 32) := by
    rw [ht]
    have h32 : ((l.drop 2).take 32).length = 32 := by rw [List.length_take, List.length_drop]; omega
    have := mhRd_enc 18 ((l.drop 2).take 32) [] (by omega) (by omega)
    rw [List.append_nil, show (mhEnc 18 ((l.drop 2).take 32)).length = 34 by rw [mhEnc_18 _ h32]; simp [h32]] at this
    exact this
  obtain ⟨hnl, hcap⟩ := hs.slice
  have hs1 := hs.below hA
  obtain ⟨b, o, rfl, hcl⟩ := hs1.at_ (by omega)
  have hn2 : (2 : Int) < n := by omega
  have hn34 : ¬ (n : Int) < 34 := by omega
  have e0 := hcl 0 (by omega)
  have e1 := hcl 1 (by omega)
  have x0 : l[0] = 18 := by have := hz.2.1; rw [List.getElem?_eq_getElem (by omega)] at this; exact Option.some.inj this
  have x1 : l[1] = 32 := by have := hz.2.2; rw [List.getElem?_eq_getElem (by omega)] at this; exact Option.some.inj this
  rw [x0, Nat.add_zero] at e0
  rw [x1] at e1
  have i0 : (w.alloc cidZ).cell? ⟨b, o, none⟩ = some (.int .u8 18) := e0
  have i1 : (w.alloc cidZ).cell? ⟨b, o + 1, none⟩ = some (.int .u8 32) := e1
  obtain ⟨s1, _, hb34⟩ := hs1.to_ (P := Tryz.prog) Tryz.underlying98 info_u8 34 (by omega)
  rw [show ((34 : Nat) : Int) = 34 from rfl] at s1
  have HC := Lib.hid (mhCast_ok _ 34 c _ _ hb34 (by rw [List.length_take]; omega) (hu.below hA).toUvS 18 _ hmr)
  have HB := Lib.hid hb34
  have hr0 := heap_alloc_new w cidZ
  have n1 : (0 : Nat) < n := by omega
  have n3 : (1 : Nat) < n := by omega
  clear e0 e1 x0 x1 hcl hs hs1 hb34 hmr hrd hz ht hnl h34 hm
  go_enter Tryz.func177, Tryz.ntmps177
  go_wp2_with fail
  refine HC.out.mono ?_
  rintro e w2 ⟨rfl, hb2⟩
  have hb := below_next hA hb2
  have hz2 : w.heap.size + 1 ≤ w2.heap.size := by have := hb2.size; simpa using this
  have hr2 := row_below hb2 (block_of_row hr0) hr0
  have k0 : w2.drew.cell? ⟨w.heap.size, 0, none⟩ = _ := cell_of_row' (cur := [_]) hr2 0
  have f0 : w2.drew.frozen? ⟨w.heap.size, 0, none⟩ = _ := frozen_of_row' (cur := [_]) hr2 0
  have hcv := (((HB.out.below hb2).drewN 1).str (dst := 9) Tryz.underlying162 Tryz.underlying5 Tryz.underlying9)
  have hcv' : (convert 162 9 (.slice (some ⟨b, o, none⟩) 34 c)).run Tryz.prog w2.drew = .ok (.string ⟨(l.take 34).toArray⟩) w2.drew := hcv
  clear hcv i0 i1 s1
  go_wp2_with fail
  go_region
  all_goals
    go_wp2
    refine bodyPost_ret (results_tmp_row_tmp rfl _ _ (w.heap.size) 82 #[.string ⟨(l.take 34).toArray⟩] (0, 0) _ rfl (Lib.heap_setCell_same (i := 0) hr2 (.string ⟨(l.take 34).toArray⟩)) Tryz.underlying82 rfl (by kernel_rfl)) rfl ?_
    exact ⟨rfl, (hb.drewN 1).setCell (by exact Nat.le_refl _) _⟩
end Go.Proofs.YthehmnpbepmnpaaGreatDoorR
/- Contracts: cid.CidFromBytes at version 1. -/
namespace Go.Proofs.YthehmnpbepmnpaaGreatDoorR
open Go.RowKit

/-- What the walk asks of the first two bytes, in a world that holds them. -/
def Fst (w : World) (A : Option Addr) (n : Nat) : Prop := (n ≤ 2) ∨ (2 < n ∧ ∃ (b o : Nat) (x y : Int), A = some ⟨b, o, none⟩ ∧ w.cell? ⟨b, o, none⟩ = some (.int .u8 x) ∧ w.cell? ⟨b, o + 1, none⟩ = some (.int .u8 y) ∧ ((x == 18) = false ∨ ((x == 18) = true ∧ (y == 32) = false)))

theorem fst_of {w : World} {A : Option Addr} {n c : Nat} {l : List UInt8} (hs : BS w (.slice A n c) l) (hz : ¬ cidZero l) : Fst w A n := by
  obtain ⟨hnl, _⟩ := hs.slice
  rcases not_zero_cases hz with h | ⟨h2, a, b, ha, hb, h⟩
  · exact .inl (by omega)
  · obtain ⟨bb, oo, rfl, hcl⟩ := hs.at_ (by omega)
    refine .inr ⟨by omega, bb, oo, a.toNat, b.toNat, rfl, ?_, ?_, h⟩
    · have := hcl 0 (by omega)
      rw [(List.getElem?_eq_some_iff.1 ha).2] at this
      exact this
    · have := hcl 1 (by omega)
      rw [(List.getElem?_eq_some_iff.1 hb).2] at this
      exact this

set_option maxRecDepth 100000 in
set_option maxHeartbeats 8000000 in
theorem cidFrom_one (A : Option Addr) (n c : Nat) (l : List UInt8) (w : World) (hs : BS w (.slice A n c) l) (hm : l.length ≤ 2147483647) (hu : CdS w) (x : CidD) (k : Nat) (hd : cidRd l = some (x, k)) (hz : ¬ cidZero l) :
    Calls Tryz.prog 177 #[.slice A n c] w fun e w' => e = .returned (.tuple #[.int .i64 k, .agg #[.string ⟨(cidEnc x).toArray⟩], .nilIface]) ∧ Below w.heap.size w w' := by
  have hA : Below w.heap.size w (w.alloc cidZ) := (Below.refl _ _).alloc (Nat.le_refl _) _
  obtain ⟨hkl, htk, _, _⟩ := cidRd_take hd
  obtain ⟨hnl, hcap⟩ := hs.slice
  rcases cidRd_some hd with ⟨h, _⟩ | ⟨_, e1, m, r, e2, e3, hk, hv⟩
  · exact absurd h hz
  have hs1 := hs.below hA
  have hF := fst_of hs1 hz
  obtain ⟨g1, g2, _, _, _⟩ := uvDec_ok e2
  obtain ⟨q1, _, _, _⟩ := mhRd_take e3
  rw [List.length_drop] at g2
  rw [List.length_drop, List.length_drop] at q1
  have C1 := Lib.hid (fromUv_ok A n c l _ hs1 (by omega) (hu.below hA).toUvS 1 1 e1)
  obtain ⟨r1, hs2⟩ := hs1.from_ (P := Tryz.prog) Tryz.underlying98 info_u8 1 (by omega)
  have l1 : (l.drop 1).length = l.length - 1 := by simp
  have C2 : ∀ W, Below (w.alloc cidZ).heap.size (w.alloc cidZ) W → Hid (Calls Tryz.prog 112 #[.slice (cutA A c 1) (n - 1) (c - 1)] W fun e w' => e = .returned (.tuple #[.int .u64 x.codec, .int .i64 m, .nilIface]) ∧ Below W.heap.size W w') := fun W hb =>
    Lib.hid (fromUv_ok _ _ _ _ W (hs2.below hb) (by omega) ((hu.below hA).below hb).toUvS x.codec m e2)
  obtain ⟨r2, hs3⟩ := hs1.from_ (P := Tryz.prog) Tryz.underlying98 info_u8 (1 + m) (by omega)
  rw [← List.drop_drop] at hs3
  have C3 : ∀ W, Below (w.alloc cidZ).heap.size (w.alloc cidZ) W → Hid (Calls Tryz.prog 188 #[.slice (cutA A c (1 + m)) (n - (1 + m)) (c - (1 + m))] W fun e w' => e = .returned (.tuple #[.int .i64 r, .slice (cutA A c (1 + m)) r (c - (1 + m)), .nilIface]) ∧ Below W.heap.size W w') := fun W hb =>
    Lib.hid (MHFrom_ok _ _ _ _ W (hs3.below hb) (by rw [List.length_drop, List.length_drop]; omega) ((hu.below hA).below hb).toUvS r x.code x.dig e3 (by omega)).2
  have hkn : k ≤ n := by omega
  have r3 := fun W => run_zero_to (P := Tryz.prog) Tryz.underlying98 info_u8 A n c k hkn (by omega) W
  have hsk := (hs1.to_ (P := Tryz.prog) Tryz.underlying98 info_u8 k hkn).2.2
  rw [htk] at hsk
  have HSK := Lib.hid hsk
  have HSTR := fun (W : World) (h : BS W (.slice A k c) (cidEnc x)) => h.str (P := Tryz.prog) (dst := 9) Tryz.underlying98 Tryz.underlying5 Tryz.underlying9
  have ek : ((k : Nat) : Int) = 1 + (m : Int) + r := by omega
  have em : ((1 + m : Nat) : Int) = 1 + (m : Int) := by omega
  rw [show ((1 : Nat) : Int) = 1 from rfl] at r1 C1
  rw [em] at r2
  rw [ek] at r3
  have HEK := Lib.hid ek
  have hr0 := heap_alloc_new w cidZ
  have b1 : m ≤ 2147483647 := by omega
  have b2 : r ≤ 2147483647 := by omega
  clear hs hs1 hs2 hs3 hsk hd hz e1 e2 e3 htk hk hv l1 g1 g2 q1 hkl hnl hcap hm hu ek em
  generalize cutA A c 1 = A1 at *
  generalize cutA A c (1 + m) = A2 at *
  generalize n - 1 = N1 at *
  generalize n - (1 + m) = N2 at *
  generalize c - 1 = c1 at *
  generalize c - (1 + m) = c2 at *
  generalize (⟨(cidEnc x).toArray⟩ : ByteArray) = S at *
  generalize x.codec = cdc at *
  have fin : ∀ w4, Below (w.alloc cidZ).heap.size (w.alloc cidZ) w4 → (w4.drew.cell? ⟨w.heap.size, 0, none⟩ = some (.string ⟨#[]⟩)) ∧ (w4.drew.frozen? ⟨w.heap.size, 0, none⟩ = false) ∧ (convert 98 9 (.slice A k c)).run Tryz.prog w4.drew = .ok (.string S) w4.drew ∧ Hid ((w4.setCell ⟨w.heap.size, 0, none⟩ (.string S)).heap[w.heap.size]? = some (.cells #[.string S] 82 (0, 0))) ∧ Hid (Below w.heap.size w (w4.setCell ⟨w.heap.size, 0, none⟩ (.string S)).drew) := fun w4 hb4 => by
    have hr4 := row_below hb4 (block_of_row hr0) hr0
    refine ⟨cell_of_row' (cur := [_]) hr4 0, frozen_of_row' (cur := [_]) hr4 0, ?_, Lib.hid (Lib.heap_setCell_same (i := 0) hr4 (.string S)), Lib.hid ?_⟩
    · exact HSTR _ ((HSK.out.below hb4).drewN 1)
    · exact ((below_next hA hb4).setCell (by exact Nat.le_refl _) _).drewN 1
  clear hr0 HSK HSTR hA hkn
  obtain ⟨w0, hw0⟩ : ∃ w0, w0 = w.alloc cidZ := ⟨_, rfl⟩
  rcases hF with hn2 | ⟨hn2, b, o, x0, x1, rfl, i0, i1, h18 | ⟨h18, h32⟩⟩
  all_goals
    go_enter Tryz.func177, Tryz.ntmps177
    go_wp2_with fail
    refine C1.out.mono ?_
    rintro e w1 ⟨rfl, hb1⟩
    go_wp2_with fail
    refine (C2 w1 hb1).out.mono ?_
    rintro e w2 ⟨rfl, hb2⟩
    have hb2' := below_next hb1 hb2
    go_wp2_with fail
    refine (C3 w2 hb2').out.mono ?_
    rintro e w3 ⟨rfl, hb3⟩
    obtain ⟨p1, p2, p3, p4, p5⟩ := fin w3 (below_next hb2' hb3)
    go_wp2_with fail
    go_region
    all_goals
      go_wp2
      refine bodyPost_ret (results_tmp_row_tmp rfl _ _ (w.heap.size) 82 #[.string S] (0, 0) _ rfl p4.out Tryz.underlying82 rfl (by kernel_rfl)) rfl ?_
      exact ⟨by rw [HEK.out]; rfl, p5.out⟩
end Go.Proofs.YthehmnpbepmnpaaGreatDoorR
/- Contracts: cid.CidFromBytes where no identifier is read. -/
namespace Go.Proofs.YthehmnpbepmnpaaGreatDoorR
open Go.RowKit

/-- A number, a struct with one string, and an error. -/
def FromBad (e : Ending) : Prop := ∃ (s : ByteArray) (t : TypeId) (p : Value), e = .returned (.tuple #[.int .i64 0, .agg #[.string s], .iface t p])

/-- What each way out needs in the world behind the last call. -/
theorem from_fin {w w4 : World} {us : ByteArray} (hu : (w.alloc cidZ).cell? ⟨7, 0, none⟩ = some (.string us)) (hb4 : Below (w.alloc cidZ).heap.size (w.alloc cidZ) w4) :
    (w4.cell? ⟨w.heap.size, 0, none⟩ = some (.string ⟨#[]⟩)) ∧ (w4.frozen? ⟨w.heap.size, 0, none⟩ = false) ∧ (w4.cell? ⟨7, 0, none⟩ = some (.string us)) ∧
      Hid ((w4.setCell ⟨w.heap.size, 0, none⟩ (.string us)).heap[w.heap.size]? = some (.cells #[.string us] 82 (0, 0))) ∧ Hid (Below w.heap.size w (w4.setCell ⟨w.heap.size, 0, none⟩ (.string us))) := by
  have hA : Below w.heap.size w (w.alloc cidZ) := (Below.refl _ _).alloc (Nat.le_refl _) _
  have hr0 := heap_alloc_new w cidZ
  have hr4 := row_below hb4 (block_of_row hr0) hr0
  exact ⟨cell_of_row' (cur := [_]) hr4 0, frozen_of_row' (cur := [_]) hr4 0, below_cell hb4 hu, Lib.hid (Lib.heap_setCell_same (i := 0) hr4 _), Lib.hid ((below_next hA hb4).setCell (by exact Nat.le_refl _) _)⟩

set_option maxRecDepth 100000 in
set_option maxHeartbeats 8000000 in
theorem cidFrom_short (A : Option Addr) (n c : Nat) (l : List UInt8) (w : World) (hs : BS w (.slice A n c) l) (hu : CdS w) (hz : cidZero l) (h34 : l.length < 34) :
    Calls Tryz.prog 177 #[.slice A n c] w fun e w' => FromBad e ∧ Below w.heap.size w w' := by
  have hA : Below w.heap.size w (w.alloc cidZ) := (Below.refl _ _).alloc (Nat.le_refl _) _
  obtain ⟨hnl, hcap⟩ := hs.slice
  have hs1 := hs.below hA
  have h2 := hz.1
  obtain ⟨b, o, rfl, hcl⟩ := hs1.at_ (by omega)
  have hn2 : (2 : Int) < n := by omega
  have hn34 : (n : Int) < 34 := by omega
  have e0 := hcl 0 (by omega)
  have e1 := hcl 1 (by omega)
  have x0 : l[0] = 18 := by have := hz.2.1; rw [List.getElem?_eq_getElem (by omega)] at this; exact Option.some.inj this
  have x1 : l[1] = 32 := by have := hz.2.2; rw [List.getElem?_eq_getElem (by omega)] at this; exact Option.some.inj this
  rw [x0, Nat.add_zero] at e0
  rw [x1] at e1
  have i0 : (w.alloc cidZ).cell? ⟨b, o, none⟩ = some (.int .u8 18) := e0
  have i1 : (w.alloc cidZ).cell? ⟨b, o + 1, none⟩ = some (.int .u8 32) := e1
  obtain ⟨us, hus⟩ := (hu.below hA).undef
  have hd1 : Below (w.alloc cidZ).heap.size (w.alloc cidZ) (w.alloc cidZ).drew := below_drewN _ _ 1
  obtain ⟨p1, p2, p3, _, _⟩ := from_fin hus hd1
  have n1 : (0 : Nat) < n := by omega
  have n3 : (1 : Nat) < n := by omega
  clear e0 e1 x0 x1 hcl hs hs1 hz hnl h34 h2 hu hcap
  go_enter Tryz.func177, Tryz.ntmps177
  go_wp2_with fail
  go_region_with (go_at_call 120; refine (errorsNew _ (w.alloc cidZ).drew).mono ?_; rintro e w3 ⟨t, p, rfl, hb3⟩; obtain ⟨p1, p2, p3, p4, p5⟩ := from_fin hus (below_next hd1 hb3))
  all_goals
    go_wp2
    refine bodyPost_ret (results_tmp_row_tmp rfl _ _ (w.heap.size) 82 #[.string us] (0, 0) _ rfl p4.out Tryz.underlying82 rfl (by kernel_rfl)) rfl ?_
    exact ⟨⟨_, _, _, rfl⟩, p5.out⟩

set_option maxRecDepth 100000 in
set_option maxHeartbeats 8000000 in
/-- The version can't be read. -/
theorem cidFrom_noVer (A : Option Addr) (n c : Nat) (l : List UInt8) (w : World) (hs : BS w (.slice A n c) l) (hm : l.length ≤ 2147483647) (hu : CdS w) (hz : ¬ cidZero l) (hno : (uvDec l).no) :
    Calls Tryz.prog 177 #[.slice A n c] w fun e w' => FromBad e ∧ Below w.heap.size w w' := by
  have hA : Below w.heap.size w (w.alloc cidZ) := (Below.refl _ _).alloc (Nat.le_refl _) _
  have hs1 := hs.below hA
  have hF := fst_of hs1 hz
  obtain ⟨hnl, hcap⟩ := hs.slice
  obtain ⟨us, hus⟩ := (hu.below hA).undef
  have C1 := Lib.hid (fromUv_no A n c l _ hs1 (by omega) (hu.below hA).toUvS hno)
  have HUS := Lib.hid hus
  have hn : n ≤ 2147483647 := by omega
  clear hs hs1 hz hno hu hus hnl hcap hm hA
  obtain ⟨w0, hw0⟩ : ∃ w0, w0 = w.alloc cidZ := ⟨_, rfl⟩
  rcases hF with hn2 | ⟨hn2, b, o, x0, x1, rfl, i0, i1, h18 | ⟨h18, h32⟩⟩
  all_goals
    go_enter Tryz.func177, Tryz.ntmps177
    go_wp2_with fail
    refine C1.out.mono ?_
    rintro e w1 ⟨t, p, rfl, hb1⟩
    obtain ⟨p1, p2, p3, p4, p5⟩ := from_fin HUS.out hb1
    go_wp2_with fail
    go_region
    all_goals
      go_wp2
      refine bodyPost_ret (results_tmp_row_tmp rfl _ _ (w.heap.size) 82 #[.string us] (0, 0) _ rfl p4.out Tryz.underlying82 rfl (by kernel_rfl)) rfl ?_
      exact ⟨⟨_, _, _, rfl⟩, p5.out.drewN 1⟩

set_option maxRecDepth 100000 in
set_option maxHeartbeats 8000000 in
/-- The version is another one. -/
theorem cidFrom_badVer (A : Option Addr) (n c : Nat) (l : List UInt8) (w : World) (hs : BS w (.slice A n c) l) (hm : l.length ≤ 2147483647) (hu : CdS w) (hz : ¬ cidZero l) (v k : Nat) (hd : uvDec l = .ok v k) (hv : v ≠ 1) :
    Calls Tryz.prog 177 #[.slice A n c] w fun e w' => FromBad e ∧ Below w.heap.size w w' := by
  have hA : Below w.heap.size w (w.alloc cidZ) := (Below.refl _ _).alloc (Nat.le_refl _) _
  have hs1 := hs.below hA
  have hF := fst_of hs1 hz
  obtain ⟨hnl, hcap⟩ := hs.slice
  obtain ⟨us, hus⟩ := (hu.below hA).undef
  have C1 := Lib.hid (fromUv_ok A n c l _ hs1 (by omega) (hu.below hA).toUvS v k hd)
  have HUS := Lib.hid hus
  have hn : n ≤ 2147483647 := by omega
  have hv1 : ((v : Int) != 1) = true := by rw [bne_iff_ne]; omega
  clear hs hs1 hz hd hu hus hnl hcap hm hA hv
  generalize (v : Int) = vi at *
  obtain ⟨w0, hw0⟩ : ∃ w0, w0 = w.alloc cidZ := ⟨_, rfl⟩
  rcases hF with hn2 | ⟨hn2, b, o, x0, x1, rfl, i0, i1, h18 | ⟨h18, h32⟩⟩
  all_goals
    go_enter Tryz.func177, Tryz.ntmps177
    go_wp2_with fail
    refine C1.out.mono ?_
    rintro e w1 ⟨rfl, hb1⟩
    have hd1 := hb1.drewN 1
    obtain ⟨p1, p2, p3, _, _⟩ := from_fin HUS.out hb1
    go_wp2_with fail
    go_region_with (go_at_call 120; refine (errorsNew _ w1.drew).mono ?_; rintro e w3 ⟨t, p, rfl, hb3⟩; obtain ⟨p1, p2, p3, p4, p5⟩ := from_fin HUS.out (below_next hd1 hb3))
    all_goals
      go_wp2
      refine bodyPost_ret (results_tmp_row_tmp rfl _ _ (w.heap.size) 82 #[.string us] (0, 0) _ rfl p4.out Tryz.underlying82 rfl (by kernel_rfl)) rfl ?_
      exact ⟨⟨_, _, _, rfl⟩, p5.out⟩

set_option maxRecDepth 100000 in
set_option maxHeartbeats 8000000 in
/-- The codec can't be read. -/
theorem cidFrom_noCodec (A : Option Addr) (n c : Nat) (l : List UInt8) (w : World) (hs : BS w (.slice A n c) l) (hm : l.length ≤ 2147483647) (hu : CdS w) (hz : ¬ cidZero l) (hd : uvDec l = .ok 1 1) (hno : (uvDec (l.drop 1)).no) :
    Calls Tryz.prog 177 #[.slice A n c] w fun e w' => FromBad e ∧ Below w.heap.size w w' := by
  have hA : Below w.heap.size w (w.alloc cidZ) := (Below.refl _ _).alloc (Nat.le_refl _) _
  have hs1 := hs.below hA
  have hF := fst_of hs1 hz
  obtain ⟨hnl, hcap⟩ := hs.slice
  obtain ⟨_, g2, _⟩ := uvDec_ok hd
  obtain ⟨us, hus⟩ := (hu.below hA).undef
  have C1 := Lib.hid (fromUv_ok A n c l _ hs1 (by omega) (hu.below hA).toUvS 1 1 hd)
  obtain ⟨r1, hs2⟩ := hs1.from_ (P := Tryz.prog) Tryz.underlying98 info_u8 1 (by omega)
  have l1 : (l.drop 1).length = l.length - 1 := by simp
  have C2 : ∀ W, Below (w.alloc cidZ).heap.size (w.alloc cidZ) W → Hid (Calls Tryz.prog 112 #[.slice (cutA A c 1) (n - 1) (c - 1)] W fun e w' => ∃ t p, e = .returned (.tuple #[.int .u64 0, .int .i64 0, .iface t p]) ∧ Below W.heap.size W w') := fun W hb =>
    Lib.hid (fromUv_no _ _ _ _ W (hs2.below hb) (by omega) ((hu.below hA).below hb).toUvS hno)
  have HUS := Lib.hid hus
  have hn : n ≤ 2147483647 := by omega
  rw [show ((1 : Nat) : Int) = 1 from rfl] at r1 C1
  clear hs hs1 hs2 hz hno hu hus hnl hcap hm hA hd g2 l1
  generalize cutA A c 1 = A1 at *
  generalize n - 1 = N1 at *
  generalize c - 1 = c1 at *
  obtain ⟨w0, hw0⟩ : ∃ w0, w0 = w.alloc cidZ := ⟨_, rfl⟩
  rcases hF with hn2 | ⟨hn2, b, o, x0, x1, rfl, i0, i1, h18 | ⟨h18, h32⟩⟩
  all_goals
    go_enter Tryz.func177, Tryz.ntmps177
    go_wp2_with fail
    refine C1.out.mono ?_
    rintro e w1 ⟨rfl, hb1⟩
    go_wp2_with fail
    refine (C2 w1 hb1).out.mono ?_
    rintro e w2 ⟨t, p, rfl, hb2⟩
    obtain ⟨p1, p2, p3, p4, p5⟩ := from_fin HUS.out (below_next hb1 hb2)
    go_wp2_with fail
    go_region
    all_goals
      go_wp2
      refine bodyPost_ret (results_tmp_row_tmp rfl _ _ (w.heap.size) 82 #[.string us] (0, 0) _ rfl p4.out Tryz.underlying82 rfl (by kernel_rfl)) rfl ?_
      exact ⟨⟨_, _, _, rfl⟩, p5.out.drewN 1⟩

set_option maxRecDepth 100000 in
set_option maxHeartbeats 8000000 in
/-- The multihash can't be read. -/
theorem cidFrom_noMh (A : Option Addr) (n c : Nat) (l : List UInt8) (w : World) (hs : BS w (.slice A n c) l) (hm : l.length ≤ 2147483647) (hu : CdS w) (hz : ¬ cidZero l) (hd : uvDec l = .ok 1 1) (codec m : Nat) (hd2 : uvDec (l.drop 1) = .ok codec m) (hno : mhRd ((l.drop 1).drop m) = none) :
    Calls Tryz.prog 177 #[.slice A n c] w fun e w' => FromBad e ∧ Below w.heap.size w w' := by
  have hA : Below w.heap.size w (w.alloc cidZ) := (Below.refl _ _).alloc (Nat.le_refl _) _
  have hs1 := hs.below hA
  have hF := fst_of hs1 hz
  obtain ⟨hnl, hcap⟩ := hs.slice
  obtain ⟨_, g2, _⟩ := uvDec_ok hd
  obtain ⟨_, g3, _⟩ := uvDec_ok hd2
  rw [List.length_drop] at g3
  obtain ⟨us, hus⟩ := (hu.below hA).undef
  have C1 := Lib.hid (fromUv_ok A n c l _ hs1 (by omega) (hu.below hA).toUvS 1 1 hd)
  obtain ⟨r1, hs2⟩ := hs1.from_ (P := Tryz.prog) Tryz.underlying98 info_u8 1 (by omega)
  have l1 : (l.drop 1).length = l.length - 1 := by simp
  have C2 : ∀ W, Below (w.alloc cidZ).heap.size (w.alloc cidZ) W → Hid (Calls Tryz.prog 112 #[.slice (cutA A c 1) (n - 1) (c - 1)] W fun e w' => e = .returned (.tuple #[.int .u64 codec, .int .i64 m, .nilIface]) ∧ Below W.heap.size W w') := fun W hb =>
    Lib.hid (fromUv_ok _ _ _ _ W (hs2.below hb) (by omega) ((hu.below hA).below hb).toUvS codec m hd2)
  obtain ⟨r2, hs3⟩ := hs1.from_ (P := Tryz.prog) Tryz.underlying98 info_u8 (1 + m) (by omega)
  rw [← List.drop_drop] at hs3
  have C3 : ∀ W, Below (w.alloc cidZ).heap.size (w.alloc cidZ) W → Hid (Calls Tryz.prog 188 #[.slice (cutA A c (1 + m)) (n - (1 + m)) (c - (1 + m))] W fun e w' => ∃ t p, e = .returned (.tuple #[.int .i64 0, .slice none 0 0, .iface t p]) ∧ Below W.heap.size W w') := fun W hb =>
    Lib.hid (MHFrom_no _ _ _ _ W (hs3.below hb) (by rw [List.length_drop, List.length_drop]; omega) ((hu.below hA).below hb).toMhS hno)
  have HUS := Lib.hid hus
  have hn : n ≤ 2147483647 := by omega
  have em : ((1 + m : Nat) : Int) = 1 + (m : Int) := by omega
  have b1 : m ≤ 2147483647 := by omega
  rw [em] at r2
  rw [show ((1 : Nat) : Int) = 1 from rfl] at r1 C1
  clear hs hs1 hs2 hs3 hz hno hu hus hnl hcap hm hA hd hd2 g2 g3 l1 em
  generalize cutA A c 1 = A1 at *
  generalize cutA A c (1 + m) = A2 at *
  generalize n - 1 = N1 at *
  generalize n - (1 + m) = N2 at *
  generalize c - 1 = c1 at *
  generalize c - (1 + m) = c2 at *
  obtain ⟨w0, hw0⟩ : ∃ w0, w0 = w.alloc cidZ := ⟨_, rfl⟩
  rcases hF with hn2 | ⟨hn2, b, o, x0, x1, rfl, i0, i1, h18 | ⟨h18, h32⟩⟩
  all_goals
    go_enter Tryz.func177, Tryz.ntmps177
    go_wp2_with fail
    refine C1.out.mono ?_
    rintro e w1 ⟨rfl, hb1⟩
    go_wp2_with fail
    refine (C2 w1 hb1).out.mono ?_
    rintro e w2 ⟨rfl, hb2⟩
    have hb2' := below_next hb1 hb2
    go_wp2_with fail
    refine (C3 w2 hb2').out.mono ?_
    rintro e w3 ⟨t, p, rfl, hb3⟩
    obtain ⟨p1, p2, p3, p4, p5⟩ := from_fin HUS.out (below_next hb2' hb3)
    go_wp2_with fail
    go_region
    all_goals
      go_wp2
      refine bodyPost_ret (results_tmp_row_tmp rfl _ _ (w.heap.size) 82 #[.string us] (0, 0) _ rfl p4.out Tryz.underlying82 rfl (by kernel_rfl)) rfl ?_
      exact ⟨⟨_, _, _, rfl⟩, p5.out.drewN 1⟩

theorem cidFrom_no (A : Option Addr) (n c : Nat) (l : List UInt8) (w : World) (hs : BS w (.slice A n c) l) (hm : l.length ≤ 2147483647) (hu : CdS w) (hd : cidRd l = none) :
    Calls Tryz.prog 177 #[.slice A n c] w fun e w' => FromBad e ∧ Below w.heap.size w w' := by
  rcases cidRd_none hd with ⟨hz, h34⟩ | ⟨hz, h | ⟨v, k, e1, hv⟩ | ⟨e1, h | ⟨codec, m, e2, e3⟩⟩⟩
  · exact cidFrom_short A n c l w hs hu hz h34
  · exact cidFrom_noVer A n c l w hs hm hu hz h
  · exact cidFrom_badVer A n c l w hs hm hu hz v k e1 hv
  · exact cidFrom_noCodec A n c l w hs hm hu hz e1 h
  · exact cidFrom_noMh A n c l w hs hm hu hz e1 codec m e2 e3

theorem cidFrom_ok (A : Option Addr) (n c : Nat) (l : List UInt8) (w : World) (hs : BS w (.slice A n c) l) (hm : l.length ≤ 2147483647) (hu : CdS w) (x : CidD) (k : Nat) (hd : cidRd l = some (x, k)) :
    Calls Tryz.prog 177 #[.slice A n c] w fun e w' => e = .returned (.tuple #[.int .i64 k, .agg #[.string ⟨(cidEnc x).toArray⟩], .nilIface]) ∧ Below w.heap.size w w' := by
  by_cases hz : cidZero l
  · rcases cidRd_some hd with ⟨_, h34, hk, hx⟩ | ⟨h, _⟩
    · obtain ⟨_, ht, _, _⟩ := cidRd_take hd
      have := cidFrom_zero A n c l w hs hm hu hz h34
      rw [hk] at ht ⊢
      rw [ht] at this
      exact this
    · exact absurd hz h
  · exact cidFrom_one A n c l w hs hm hu x k hd hz
end Go.Proofs.YthehmnpbepmnpaaGreatDoorR
