/- Contracts, joined (CdI CdJ CdK CdL CdB CdM CdN). -/
import Derived.Test.YthfgnhgijgjggaaDoorJSh3
import Derived.StillTailTactics
/- Contracts: impl.cidIn at a version that is none; impl.CdBytes. -/
namespace Go.Proofs.YthfgnhgijgjggaaDoor
open Go.RowKit

set_option maxRecDepth 100000 in
set_option maxHeartbeats 4000000 in
theorem cidIn_other (v codec code : Nat) (hv : 2 ≤ v) (hcode : code < 18446744073709551616) (d : ByteArray) (hd : d.size ≤ 2147483647) (w : World) :
    Calls Tryd.prog 40 #[.agg #[.int .u64 v, .int .u64 codec, .int .u64 code, .string d]] w fun e w' => e = .returned (.tuple #[.agg #[.string ⟨#[]⟩], .bool false]) ∧ Below w.heap.size w w' := by
  have hmf := hmfA
  obtain ⟨A, c, w4, hconv, hbs, hb4, r1, r2, r3⟩ := cidIn_pre v codec code d w
  have HE := Lib.hid (encode_any _ _ _ _ w4 hbs (by rw [ba_len]; exact hd) code hcode)
  generalize mhEnc code d.data.toList = M at HE
  have d2 := cell_of_row' (cur := [_, _, _, _]) r1 2
  have HR1 := Lib.hid r1
  have HR2 := Lib.hid r2
  have HR3 := Lib.hid r3
  have v0 : ((v : Int) == 0) = false := by rw [beq_eq_false_iff_ne]; omega
  have v1 : ((v : Int) == 1) = false := by rw [beq_eq_false_iff_ne]; omega
  clear hbs r1 r2 r3
  go_enter_defers Tryd.func40, Tryd.ntmps40
  go_wp2_with fail
  refine HE.out.mono ?_
  rintro e w5 ⟨rfl, hr, hb5⟩
  have hb6 := below_next hb4 hb5
  have q1 := row_below hb5 (block_of_row HR1.out) HR1.out
  have q2 := row_below hb5 (block_of_row HR2.out) HR2.out
  have q3 := row_below hb5 (block_of_row HR3.out) HR3.out
  have c0 := cell_of_row' (cur := [_, _, _, _]) q1 0
  have k2 := cell_of_row' (cur := [_]) q2 0
  have k3 := cell_of_row' (cur := [_]) q3 0
  have f2 := frozen_of_row' (cur := [_]) q2 0
  have f3 := frozen_of_row' (cur := [_]) q3 0
  have S2 := Lib.hid q2
  clear hr HE hconv d2 q1 q2 q3
  go_wp2
  refine leaves_cons (f := 68) (args := #[.pointer (some ⟨w.heap.size + 1, 0, none⟩), .pointer (some ⟨w.heap.size + 1 + 1, 0, none⟩)]) (by simp) (by simp [go_sem]) ?_
  refine (cidIn_idle _ _ _).mono ?_
  rintro e u' w'' ⟨rfl, rfl, rfl⟩
  refine ⟨_, results_row_cell rfl _ _ (w.heap.size + 1) 80 #[.string ⟨#[]⟩] (0, 0) _ ⟨w.heap.size + 2, 0, none⟩ (.bool false) rfl (by simp [World.setCell, Array.getElem?_modify, S2.out]) Tryd.underlying80 rfl (by kernel_rfl) rfl (loadBool (World.cell?_setCell_same _ _ _ (by rw [World.cell?_setCell_other _ _ _ _ (by simp)]; exact k3))), rfl, ?_⟩
  exact (hb6.setCell (by show w.heap.size ≤ w.heap.size + 1; omega) _).setCell (by show w.heap.size ≤ w.heap.size + 1 + 1; omega) _

/-- A tidy identifier goes in. -/
theorem cidIn_ok (c : CidD) (ht : c.tidy) (d : ByteArray) (hcd : c.dig = d.data.toList) (hd : d.size ≤ 2147483600) (w : World) (hu : UvS w) :
    Calls Tryd.prog 40 #[.agg #[.int .u64 c.ver, .int .u64 c.codec, .int .u64 c.code, .string d]] w fun e w' => e = .returned (.tuple #[.agg #[.string ⟨(cidEnc c).toArray⟩], .bool true]) ∧ Below w.heap.size w w' := by
  obtain ⟨v, codec, code, dg⟩ := c
  simp only at hcd
  subst hcd
  rcases ht with ⟨h0, h1, h2, h3⟩ | ⟨h0, h1, h2⟩
  · simp only at h0 h1 h2 h3
    subst h0 h1 h2
    rw [ba_len] at h3
    exact cidIn_v0 112 d h3 w hu
  · simp only at h0 h1 h2
    subst h0
    exact cidIn_v1 codec code (by omega) (by omega) d (by omega) w

/-- What is no tidy identifier does not. -/
theorem cidIn_no (c : CidD) (ht : ¬ c.tidy) (h1 : c.codec < 9223372036854775808) (h2 : c.code < 9223372036854775808) (d : ByteArray) (hcd : c.dig = d.data.toList) (hd : d.size ≤ 2147483600) (w : World) (hu : CdS w) :
    Calls Tryd.prog 40 #[.agg #[.int .u64 c.ver, .int .u64 c.codec, .int .u64 c.code, .string d]] w fun e w' => (∃ s, e = .returned (.tuple #[.agg #[.string s], .bool false])) ∧ Below w.heap.size w w' := by
  obtain ⟨v, codec, code, dg⟩ := c
  simp only at hcd h1 h2
  subst hcd
  by_cases hv0 : v = 0
  · subst hv0
    by_cases h : code = 18 ∧ d.size = 32
    · obtain ⟨rfl, h32⟩ := h
      have hc : ((codec : Int) == 112) = false := by
        rw [beq_eq_false_iff_ne]
        intro e
        exact ht (.inl ⟨rfl, by show codec = 112; omega, rfl, by show d.data.toList.length = 32; rw [ba_len]; exact h32⟩)
      have := cidIn_v0 codec d h32 w hu.toUvS
      rw [hc] at this
      exact this.mono fun e w' ⟨h, k⟩ => ⟨⟨_, h⟩, k⟩
    · exact (cidIn_v0bad codec code d hd h2 h w hu).mono fun e w' ⟨h, k⟩ => ⟨⟨_, h⟩, k⟩
  · by_cases hv1 : v = 1
    · subst hv1
      exact absurd (Or.inr ⟨rfl, h1, h2⟩) ht
    · exact (cidIn_other v codec code (by omega) (by omega) d (by omega) w).mono fun e w' ⟨h, k⟩ => ⟨⟨_, h⟩, k⟩

set_option maxRecDepth 100000 in
set_option maxHeartbeats 2000000 in
theorem cdBytesI (a b c : Int) (d s : ByteArray) (ok : Bool) (w : World)
    (hin : ∀ w1, Below w.heap.size w w1 → Calls Tryd.prog 40 #[.agg #[.int .u64 a, .int .u64 b, .int .u64 c, .string d]] w1 fun e w' => e = .returned (.tuple #[.agg #[.string s], .bool ok]) ∧ Below w1.heap.size w1 w') :
    Calls Tryd.prog 47 #[.agg #[.int .u64 a, .int .u64 b, .int .u64 c, .string d]] w fun e w' => e = .returned (.tuple #[.string s, .bool ok]) ∧ Below w.heap.size w w' := by
  have hA : Below w.heap.size w (w.alloc (cidO a b c d)) := (Below.refl _ _).alloc (Nat.le_refl _) _
  have HC := Lib.hid (hin _ hA)
  clear hin
  go_enter Tryd.func47, Tryd.ntmps47
  go_wp2_with fail
  refine HC.out.mono ?_
  rintro e w1 ⟨rfl, hb1⟩
  have hb := below_next hA hb1
  have hb2 := hb.alloc hb.size (.cells #[.string s] 80)
  clear HC hb1 hA
  go_wp2_with fail
  refine (cdKey s _).mono ?_
  rintro e w2 ⟨rfl, hb3⟩
  have hb4 := below_next hb2 hb3
  go_wp2
  go_ret2
  exact ⟨rfl, hb4⟩

set_option maxRecDepth 100000 in
set_option maxHeartbeats 2000000 in
theorem cdBytesI_no (a b c : Int) (d : ByteArray) (w : World)
    (hin : ∀ w1, Below w.heap.size w w1 → Calls Tryd.prog 40 #[.agg #[.int .u64 a, .int .u64 b, .int .u64 c, .string d]] w1 fun e w' => (∃ s, e = .returned (.tuple #[.agg #[.string s], .bool false])) ∧ Below w1.heap.size w1 w') :
    Calls Tryd.prog 47 #[.agg #[.int .u64 a, .int .u64 b, .int .u64 c, .string d]] w fun e w' => (∃ s, e = .returned (.tuple #[.string s, .bool false])) ∧ Below w.heap.size w w' := by
  have hA : Below w.heap.size w (w.alloc (cidO a b c d)) := (Below.refl _ _).alloc (Nat.le_refl _) _
  have HC := Lib.hid (hin _ hA)
  clear hin
  go_enter Tryd.func47, Tryd.ntmps47
  go_wp2_with fail
  refine HC.out.mono ?_
  rintro e w1 ⟨⟨s, rfl⟩, hb1⟩
  have hb := below_next hA hb1
  have hb2 := hb.alloc hb.size (.cells #[.string s] 80)
  clear HC hb1 hA
  go_wp2_with fail
  refine (cdKey s _).mono ?_
  rintro e w2 ⟨rfl, hb3⟩
  have hb4 := below_next hb2 hb3
  go_wp2
  go_ret2
  exact ⟨⟨s, rfl⟩, hb4⟩
end Go.Proofs.YthfgnhgijgjggaaDoor
/- Contracts: multihash.Cast; cid.CidFromBytes where an identifier is read. -/
namespace Go.Proofs.YthfgnhgijgjggaaDoor
open Go.RowKit

section
variable {P : Program}
/-- Three results, the second a struct in a block that is known whole. -/
theorem results_tmp_row_tmp {fn : Func} {p u u2 : Tmp} {ty : TypeId} (h : fn.results = #[.tmp u, .cell p ty, .tmp u2]) (tmps : Array Value) (w : World) (g : Nat) (t : TypeId) (cs : Array Value) (fr : Nat × Nat) (d : TypeDesc)
    (hp : tmps.getD p undef = .pointer (some ⟨g, 0, none⟩)) (hg : w.heap[g]? = some (.cells cs t fr))
    (hu : P.underlying ty = some d) (hd : (match d with | .struct _ | .array _ _ => true | _ => false) = true) (hi : (P.info? ty).map (·.size) = some cs.size) :
    (results fn tmps).run P w = .ok (.tuple #[tmps.getD u undef, .agg cs, tmps.getD u2 undef]) w := by
  have hp' : tmps[p]?.getD undef = .pointer (some ⟨g, 0, none⟩) := by simpa using hp
  simp only [results, h]
  simp [Result.andThen, hp', asAddr, run_loadVar_row w g t ty cs fr d hg hu hd hi]

/-- 's[0:k]'. -/
theorem run_zero_to {t e : TypeId} (ht : P.underlying t = some (.slice e)) (hsz : (P.info? e).map (fun i => (i.zero, i.size, i.bytes)) = some (some (.int .u8 0), 1, 1)) (A : Option Addr) (n c k : Nat) (hk : k ≤ n) (hn : n ≤ c) (W : World) :
    (Instr.slice t (.slice A n c) (some (.int .i64 0)) (some (.int .i64 (k : Int))) none).run P W = .ok (.slice A k c) W := by
  have ht' : P.underlying t = some (.slice (P.elem t)) := by simp [Program.elem, ht]
  have he : P.elem t = e := by simp [Program.elem, ht]
  rw [run_slice_lh W t _ _ _ ht' .i64 .i64 _ _ (by omega) (by omega) (by omega), he, run_size hsz, Int.toNat_natCast]
  simp only [Result.andThen, Int.toNat_zero, sliced]
  congr 2
  by_cases h0 : c = 0
  · rw [if_pos h0]
  · rw [if_neg h0]; cases A <;> simp [Addr.add]
end

set_option maxRecDepth 100000 in
set_option maxHeartbeats 2000000 in
theorem mhCast_ok (A : Option Addr) (n c : Nat) (l : List UInt8) (w : World) (hs : BS w (.slice A n c) l) (hm : l.length ≤ 2147483647) (hu : UvS w) (code : Nat) (d : List UInt8) (hd : mhRd l = some (n, code, d)) :
    Calls Tryd.prog 104 #[.slice A n c] w fun e w' => e = .returned (.tuple #[.slice A n c, .nilIface]) ∧ Below w.heap.size w w' := by
  obtain ⟨A', c', hs', hc⟩ := Decode_ok A n c l w hs hm hu code d hd
  have HC := Lib.hid (hc _ (Below.refl _ _))
  clear hs hs' hc hu hd hm
  go_enter Tryd.func104, Tryd.ntmps104
  go_wp2_with fail
  refine HC.out.mono ?_
  rintro e w2 ⟨⟨g, rfl, hg, hrow⟩, hb2⟩
  go_wp2
  go_ret2
  exact ⟨rfl, hb2⟩

/-- What the first three bytes say, in the walk's words: no version 0. -/
theorem not_zero_cases {l : List UInt8} (h : ¬ cidZero l) : l.length ≤ 2 ∨ (2 < l.length ∧ ∃ a b : UInt8, l[0]? = some a ∧ l[1]? = some b ∧ (((a.toNat : Int) == 18) = false ∨ (((a.toNat : Int) == 18) = true ∧ ((b.toNat : Int) == 32) = false))) := by
  by_cases h2 : l.length ≤ 2
  · exact .inl h2
  · refine .inr ⟨by omega, l[0], l[1], List.getElem?_eq_getElem (by omega), List.getElem?_eq_getElem (by omega), ?_⟩
    by_cases h0 : l[0] = 18
    · refine .inr ⟨by rw [h0]; rfl, ?_⟩
      rw [beq_eq_false_iff_ne]
      intro e
      exact h ⟨by omega, by rw [List.getElem?_eq_getElem (by omega), h0], by rw [List.getElem?_eq_getElem (by omega)]; congr 1; exact UInt8.toNat_inj.1 (by show l[1].toNat = 32; omega)⟩
    · refine .inl ?_
      rw [beq_eq_false_iff_ne]
      intro e
      exact h0 (UInt8.toNat_inj.1 (by show l[0].toNat = 18; omega))

abbrev cidZ : Obj := .cells #[.string ⟨#[]⟩] 80

set_option maxRecDepth 100000 in
set_option maxHeartbeats 4000000 in
theorem cidFrom_zero (A : Option Addr) (n c : Nat) (l : List UInt8) (w : World) (hs : BS w (.slice A n c) l) (hm : l.length ≤ 2147483647) (hu : CdS w) (hz : cidZero l) (h34 : 34 ≤ l.length) :
    Calls Tryd.prog 85 #[.slice A n c] w fun e w' => e = .returned (.tuple #[.int .i64 34, .agg #[.string ⟨(l.take 34).toArray⟩], .nilIface]) ∧ Below w.heap.size w w' := by
  have hA : Below w.heap.size w (w.alloc cidZ) := (Below.refl _ _).alloc (Nat.le_refl _) _
  have hrd : cidRd l = some (⟨0, 112, 18, (l.drop 2).take 32⟩, 34) := by unfold cidRd; rw [if_pos hz, if_neg (by omega)]
  obtain ⟨_, ht, _, _⟩ := cidRd_take hrd
  have hmr : mhRd (l.take 34) = some (34, 18, (l.drop 2).take 32) := by
    rw [ht]
    have h32 : ((l.drop 2).take 32).length = 32 := by rw [List.length_take, List.length_drop]; omega
    have := mhRd_enc 18 ((l.drop 2).take 32) [] (by omega) (by omega)
    rw [List.append_nil, show (mhEnc 18 ((l.drop 2).take 32)).length = 34 by rw [mhEnc_18 _ h32]; simp [h32]] at this
    exact this
  obtain ⟨hnl, hcap⟩ := hs.slice
  have hs1 := hs.below hA
  obtain ⟨b, o, rfl, hcl⟩ := hs1.at_ (by omega)
  have hn2 : (2 : Int) < n := by omega
  have hn34 : ¬ (n : Int) < 34 := by omega
  have e0 := hcl 0 (by omega)
  have e1 := hcl 1 (by omega)
  have x0 : l[0] = 18 := by have := hz.2.1; rw [List.getElem?_eq_getElem (by omega)] at this; exact Option.some.inj this
  have x1 : l[1] = 32 := by have := hz.2.2; rw [List.getElem?_eq_getElem (by omega)] at this; exact Option.some.inj this
  rw [x0, Nat.add_zero] at e0
  rw [x1] at e1
  have i0 : (w.alloc cidZ).cell? ⟨b, o, none⟩ = some (.int .u8 18) := e0
  have i1 : (w.alloc cidZ).cell? ⟨b, o + 1, none⟩ = some (.int .u8 32) := e1
  obtain ⟨s1, _, hb34⟩ := hs1.to_ (P := Tryd.prog) Tryd.underlying43 info_u8 34 (by omega)
  rw [show ((34 : Nat) : Int) = 34 from rfl] at s1
  have HC := Lib.hid (mhCast_ok _ 34 c _ _ hb34 (by rw [List.length_take]; omega) (hu.below hA).toUvS 18 _ hmr)
  have HB := Lib.hid hb34
  have hr0 := heap_alloc_new w cidZ
  have n1 : (0 : Nat) < n := by omega
  have n3 : (1 : Nat) < n := by omega
  clear e0 e1 x0 x1 hcl hs hs1 hb34 hmr hrd hz ht hnl h34 hm
  go_enter Tryd.func85, Tryd.ntmps85
  go_wp2_with fail
  refine HC.out.mono ?_
  rintro e w2 ⟨rfl, hb2⟩
  have hb := below_next hA hb2
  have hz2 : w.heap.size + 1 ≤ w2.heap.size := by have := hb2.size; simpa using this
  have hr2 := row_below hb2 (block_of_row hr0) hr0
  have k0 : w2.drew.cell? ⟨w.heap.size, 0, none⟩ = _ := cell_of_row' (cur := [_]) hr2 0
  have f0 : w2.drew.frozen? ⟨w.heap.size, 0, none⟩ = _ := frozen_of_row' (cur := [_]) hr2 0
  have hcv := (((HB.out.below hb2).drewN 1).str (dst := 9) Tryd.underlying88 Tryd.underlying5 Tryd.underlying9)
  have hcv' : (convert 88 9 (.slice (some ⟨b, o, none⟩) 34 c)).run Tryd.prog w2.drew = .ok (.string ⟨(l.take 34).toArray⟩) w2.drew := hcv
  clear hcv i0 i1 s1
  go_wp2_with fail
  go_region
  all_goals
    go_wp2
    refine bodyPost_ret (results_tmp_row_tmp rfl _ _ (w.heap.size) 80 #[.string ⟨(l.take 34).toArray⟩] (0, 0) _ rfl (Lib.heap_setCell_same (i := 0) hr2 (.string ⟨(l.take 34).toArray⟩)) Tryd.underlying80 rfl (by kernel_rfl)) rfl ?_
    exact ⟨rfl, (hb.drewN 1).setCell (by exact Nat.le_refl _) _⟩
end Go.Proofs.YthfgnhgijgjggaaDoor
/- Contracts: cid.CidFromBytes at version 1. -/
namespace Go.Proofs.YthfgnhgijgjggaaDoor
open Go.RowKit

/-- What the walk asks of the first two bytes, in a world that holds them. -/
def Fst (w : World) (A : Option Addr) (n : Nat) : Prop := (n ≤ 2) ∨ (2 < n ∧ ∃ (b o : Nat) (x y : Int), A = some ⟨b, o, none⟩ ∧ w.cell? ⟨b, o, none⟩ = some (.int .u8 x) ∧ w.cell? ⟨b, o + 1, none⟩ = some (.int .u8 y) ∧ ((x == 18) = false ∨ ((x == 18) = true ∧ (y == 32) = false)))

theorem fst_of {w : World} {A : Option Addr} {n c : Nat} {l : List UInt8} (hs : BS w (.slice A n c) l) (hz : ¬ cidZero l) : Fst w A n := by
  obtain ⟨hnl, _⟩ := hs.slice
  rcases not_zero_cases hz with h | ⟨h2, a, b, ha, hb, h⟩
  · exact .inl (by omega)
  · obtain ⟨bb, oo, rfl, hcl⟩ := hs.at_ (by omega)
    refine .inr ⟨by omega, bb, oo, a.toNat, b.toNat, rfl, ?_, ?_, h⟩
    · have := hcl 0 (by omega)
      rw [(List.getElem?_eq_some_iff.1 ha).2] at this
      exact this
    · have := hcl 1 (by omega)
      rw [(List.getElem?_eq_some_iff.1 hb).2] at this
      exact this

set_option maxRecDepth 100000 in
set_option maxHeartbeats 8000000 in
theorem cidFrom_one (A : Option Addr) (n c : Nat) (l : List UInt8) (w : World) (hs : BS w (.slice A n c) l) (hm : l.length ≤ 2147483647) (hu : CdS w) (x : CidD) (k : Nat) (hd : cidRd l = some (x, k)) (hz : ¬ cidZero l) :
    Calls Tryd.prog 85 #[.slice A n c] w fun e w' => e = .returned (.tuple #[.int .i64 k, .agg #[.string ⟨(cidEnc x).toArray⟩], .nilIface]) ∧ Below w.heap.size w w' := by
  have hA : Below w.heap.size w (w.alloc cidZ) := (Below.refl _ _).alloc (Nat.le_refl _) _
  obtain ⟨hkl, htk, _, _⟩ := cidRd_take hd
  obtain ⟨hnl, hcap⟩ := hs.slice
  rcases cidRd_some hd with ⟨h, _⟩ | ⟨_, e1, m, r, e2, e3, hk, hv⟩
  · exact absurd h hz
  have hs1 := hs.below hA
  have hF := fst_of hs1 hz
  obtain ⟨g1, g2, _, _, _⟩ := uvDec_ok e2
  obtain ⟨q1, _, _, _⟩ := mhRd_take e3
  rw [List.length_drop] at g2
  rw [List.length_drop, List.length_drop] at q1
  have C1 := Lib.hid (fromUv_ok A n c l _ hs1 (by omega) (hu.below hA).toUvS 1 1 e1)
  obtain ⟨r1, hs2⟩ := hs1.from_ (P := Tryd.prog) Tryd.underlying43 info_u8 1 (by omega)
  have l1 : (l.drop 1).length = l.length - 1 := by simp
  have C2 : ∀ W, Below (w.alloc cidZ).heap.size (w.alloc cidZ) W → Hid (Calls Tryd.prog 79 #[.slice (cutA A c 1) (n - 1) (c - 1)] W fun e w' => e = .returned (.tuple #[.int .u64 x.codec, .int .i64 m, .nilIface]) ∧ Below W.heap.size W w') := fun W hb =>
    Lib.hid (fromUv_ok _ _ _ _ W (hs2.below hb) (by omega) ((hu.below hA).below hb).toUvS x.codec m e2)
  obtain ⟨r2, hs3⟩ := hs1.from_ (P := Tryd.prog) Tryd.underlying43 info_u8 (1 + m) (by omega)
  rw [← List.drop_drop] at hs3
  have C3 : ∀ W, Below (w.alloc cidZ).heap.size (w.alloc cidZ) W → Hid (Calls Tryd.prog 105 #[.slice (cutA A c (1 + m)) (n - (1 + m)) (c - (1 + m))] W fun e w' => e = .returned (.tuple #[.int .i64 r, .slice (cutA A c (1 + m)) r (c - (1 + m)), .nilIface]) ∧ Below W.heap.size W w') := fun W hb =>
    Lib.hid (MHFrom_ok _ _ _ _ W (hs3.below hb) (by rw [List.length_drop, List.length_drop]; omega) ((hu.below hA).below hb).toUvS r x.code x.dig e3 (by omega)).2
  have hkn : k ≤ n := by omega
  have r3 := fun W => run_zero_to (P := Tryd.prog) Tryd.underlying43 info_u8 A n c k hkn (by omega) W
  have hsk := (hs1.to_ (P := Tryd.prog) Tryd.underlying43 info_u8 k hkn).2.2
  rw [htk] at hsk
  have HSK := Lib.hid hsk
  have HSTR := fun (W : World) (h : BS W (.slice A k c) (cidEnc x)) => h.str (P := Tryd.prog) (dst := 9) Tryd.underlying43 Tryd.underlying5 Tryd.underlying9
  have ek : ((k : Nat) : Int) = 1 + (m : Int) + r := by omega
  have em : ((1 + m : Nat) : Int) = 1 + (m : Int) := by omega
  rw [show ((1 : Nat) : Int) = 1 from rfl] at r1 C1
  rw [em] at r2
  rw [ek] at r3
  have HEK := Lib.hid ek
  have hr0 := heap_alloc_new w cidZ
  have b1 : m ≤ 2147483647 := by omega
  have b2 : r ≤ 2147483647 := by omega
  clear hs hs1 hs2 hs3 hsk hd hz e1 e2 e3 htk hk hv l1 g1 g2 q1 hkl hnl hcap hm hu ek em
  generalize cutA A c 1 = A1 at *
  generalize cutA A c (1 + m) = A2 at *
  generalize n - 1 = N1 at *
  generalize n - (1 + m) = N2 at *
  generalize c - 1 = c1 at *
  generalize c - (1 + m) = c2 at *
  generalize (⟨(cidEnc x).toArray⟩ : ByteArray) = S at *
  generalize x.codec = cdc at *
  have fin : ∀ w4, Below (w.alloc cidZ).heap.size (w.alloc cidZ) w4 → (w4.drew.cell? ⟨w.heap.size, 0, none⟩ = some (.string ⟨#[]⟩)) ∧ (w4.drew.frozen? ⟨w.heap.size, 0, none⟩ = false) ∧ (convert 43 9 (.slice A k c)).run Tryd.prog w4.drew = .ok (.string S) w4.drew ∧ Hid ((w4.setCell ⟨w.heap.size, 0, none⟩ (.string S)).heap[w.heap.size]? = some (.cells #[.string S] 80 (0, 0))) ∧ Hid (Below w.heap.size w (w4.setCell ⟨w.heap.size, 0, none⟩ (.string S)).drew) := fun w4 hb4 => by
    have hr4 := row_below hb4 (block_of_row hr0) hr0
    refine ⟨cell_of_row' (cur := [_]) hr4 0, frozen_of_row' (cur := [_]) hr4 0, ?_, Lib.hid (Lib.heap_setCell_same (i := 0) hr4 (.string S)), Lib.hid ?_⟩
    · exact HSTR _ ((HSK.out.below hb4).drewN 1)
    · exact ((below_next hA hb4).setCell (by exact Nat.le_refl _) _).drewN 1
  clear hr0 HSK HSTR hA hkn
  obtain ⟨w0, hw0⟩ : ∃ w0, w0 = w.alloc cidZ := ⟨_, rfl⟩
  rcases hF with hn2 | ⟨hn2, b, o, x0, x1, rfl, i0, i1, h18 | ⟨h18, h32⟩⟩
  all_goals
    go_enter Tryd.func85, Tryd.ntmps85
    go_wp2_with fail
    refine C1.out.mono ?_
    rintro e w1 ⟨rfl, hb1⟩
    go_wp2_with fail
    refine (C2 w1 hb1).out.mono ?_
    rintro e w2 ⟨rfl, hb2⟩
    have hb2' := below_next hb1 hb2
    go_wp2_with fail
    refine (C3 w2 hb2').out.mono ?_
    rintro e w3 ⟨rfl, hb3⟩
    obtain ⟨p1, p2, p3, p4, p5⟩ := fin w3 (below_next hb2' hb3)
    go_wp2_with fail
    go_region
    all_goals
      go_wp2
      refine bodyPost_ret (results_tmp_row_tmp rfl _ _ (w.heap.size) 80 #[.string S] (0, 0) _ rfl p4.out Tryd.underlying80 rfl (by kernel_rfl)) rfl ?_
      exact ⟨by rw [HEK.out]; rfl, p5.out⟩
end Go.Proofs.YthfgnhgijgjggaaDoor
/- Contracts: cid.CidFromBytes where no identifier is read. -/
namespace Go.Proofs.YthfgnhgijgjggaaDoor
open Go.RowKit

/-- A number, a struct with one string, and an error. -/
def FromBad (e : Ending) : Prop := ∃ (s : ByteArray) (t : TypeId) (p : Value), e = .returned (.tuple #[.int .i64 0, .agg #[.string s], .iface t p])

/-- What each way out needs in the world behind the last call. -/
theorem from_fin {w w4 : World} {us : ByteArray} (hu : (w.alloc cidZ).cell? ⟨1, 0, none⟩ = some (.string us)) (hb4 : Below (w.alloc cidZ).heap.size (w.alloc cidZ) w4) :
    (w4.cell? ⟨w.heap.size, 0, none⟩ = some (.string ⟨#[]⟩)) ∧ (w4.frozen? ⟨w.heap.size, 0, none⟩ = false) ∧ (w4.cell? ⟨1, 0, none⟩ = some (.string us)) ∧
      Hid ((w4.setCell ⟨w.heap.size, 0, none⟩ (.string us)).heap[w.heap.size]? = some (.cells #[.string us] 80 (0, 0))) ∧ Hid (Below w.heap.size w (w4.setCell ⟨w.heap.size, 0, none⟩ (.string us))) := by
  have hA : Below w.heap.size w (w.alloc cidZ) := (Below.refl _ _).alloc (Nat.le_refl _) _
  have hr0 := heap_alloc_new w cidZ
  have hr4 := row_below hb4 (block_of_row hr0) hr0
  exact ⟨cell_of_row' (cur := [_]) hr4 0, frozen_of_row' (cur := [_]) hr4 0, below_cell hb4 hu, Lib.hid (Lib.heap_setCell_same (i := 0) hr4 _), Lib.hid ((below_next hA hb4).setCell (by exact Nat.le_refl _) _)⟩

set_option maxRecDepth 100000 in
set_option maxHeartbeats 8000000 in
theorem cidFrom_short (A : Option Addr) (n c : Nat) (l : List UInt8) (w : World) (hs : BS w (.slice A n c) l) (hu : CdS w) (hz : cidZero l) (h34 : l.length < 34) :
    Calls Tryd.prog 85 #[.slice A n c] w fun e w' => FromBad e ∧ Below w.heap.size w w' := by
  have hA : Below w.heap.size w (w.alloc cidZ) := (Below.refl _ _).alloc (Nat.le_refl _) _
  obtain ⟨hnl, hcap⟩ := hs.slice
  have hs1 := hs.below hA
  have h2 := hz.1
  obtain ⟨b, o, rfl, hcl⟩ := hs1.at_ (by omega)
  have hn2 : (2 : Int) < n := by omega
  have hn34 : (n : Int) < 34 := by omega
  have e0 := hcl 0 (by omega)
  have e1 := hcl 1 (by omega)
  have x0 : l[0] = 18 := by have := hz.2.1; rw [List.getElem?_eq_getElem (by omega)] at this; exact Option.some.inj this
  have x1 : l[1] = 32 := by have := hz.2.2; rw [List.getElem?_eq_getElem (by omega)] at this; exact Option.some.inj this
  rw [x0, Nat.add_zero] at e0
  rw [x1] at e1
  have i0 : (w.alloc cidZ).cell? ⟨b, o, none⟩ = some (.int .u8 18) := e0
  have i1 : (w.alloc cidZ).cell? ⟨b, o + 1, none⟩ = some (.int .u8 32) := e1
  obtain ⟨us, hus⟩ := (hu.below hA).undef
  have hd1 : Below (w.alloc cidZ).heap.size (w.alloc cidZ) (w.alloc cidZ).drew := below_drewN _ _ 1
  obtain ⟨p1, p2, p3, _, _⟩ := from_fin hus hd1
  have n1 : (0 : Nat) < n := by omega
  have n3 : (1 : Nat) < n := by omega
  clear e0 e1 x0 x1 hcl hs hs1 hz hnl h34 h2 hu hcap
  go_enter Tryd.func85, Tryd.ntmps85
  go_wp2_with fail
  go_region_with (go_at_call 103; refine (errorsNew _ (w.alloc cidZ).drew).mono ?_; rintro e w3 ⟨t, p, rfl, hb3⟩; obtain ⟨p1, p2, p3, p4, p5⟩ := from_fin hus (below_next hd1 hb3))
  all_goals
    go_wp2
    refine bodyPost_ret (results_tmp_row_tmp rfl _ _ (w.heap.size) 80 #[.string us] (0, 0) _ rfl p4.out Tryd.underlying80 rfl (by kernel_rfl)) rfl ?_
    exact ⟨⟨_, _, _, rfl⟩, p5.out⟩

set_option maxRecDepth 100000 in
set_option maxHeartbeats 8000000 in
/-- The version can't be read. -/
theorem cidFrom_noVer (A : Option Addr) (n c : Nat) (l : List UInt8) (w : World) (hs : BS w (.slice A n c) l) (hm : l.length ≤ 2147483647) (hu : CdS w) (hz : ¬ cidZero l) (hno : (uvDec l).no) :
    Calls Tryd.prog 85 #[.slice A n c] w fun e w' => FromBad e ∧ Below w.heap.size w w' := by
  have hA : Below w.heap.size w (w.alloc cidZ) := (Below.refl _ _).alloc (Nat.le_refl _) _
  have hs1 := hs.below hA
  have hF := fst_of hs1 hz
  obtain ⟨hnl, hcap⟩ := hs.slice
  obtain ⟨us, hus⟩ := (hu.below hA).undef
  have C1 := Lib.hid (fromUv_no A n c l _ hs1 (by omega) (hu.below hA).toUvS hno)
  have HUS := Lib.hid hus
  have hn : n ≤ 2147483647 := by omega
  clear hs hs1 hz hno hu hus hnl hcap hm hA
  obtain ⟨w0, hw0⟩ : ∃ w0, w0 = w.alloc cidZ := ⟨_, rfl⟩
  rcases hF with hn2 | ⟨hn2, b, o, x0, x1, rfl, i0, i1, h18 | ⟨h18, h32⟩⟩
  all_goals
    go_enter Tryd.func85, Tryd.ntmps85
    go_wp2_with fail
    refine C1.out.mono ?_
    rintro e w1 ⟨t, p, rfl, hb1⟩
    obtain ⟨p1, p2, p3, p4, p5⟩ := from_fin HUS.out hb1
    go_wp2_with fail
    go_region
    all_goals
      go_wp2
      refine bodyPost_ret (results_tmp_row_tmp rfl _ _ (w.heap.size) 80 #[.string us] (0, 0) _ rfl p4.out Tryd.underlying80 rfl (by kernel_rfl)) rfl ?_
      exact ⟨⟨_, _, _, rfl⟩, p5.out.drewN 1⟩

set_option maxRecDepth 100000 in
set_option maxHeartbeats 8000000 in
/-- The version is another one. -/
theorem cidFrom_badVer (A : Option Addr) (n c : Nat) (l : List UInt8) (w : World) (hs : BS w (.slice A n c) l) (hm : l.length ≤ 2147483647) (hu : CdS w) (hz : ¬ cidZero l) (v k : Nat) (hd : uvDec l = .ok v k) (hv : v ≠ 1) :
    Calls Tryd.prog 85 #[.slice A n c] w fun e w' => FromBad e ∧ Below w.heap.size w w' := by
  have hA : Below w.heap.size w (w.alloc cidZ) := (Below.refl _ _).alloc (Nat.le_refl _) _
  have hs1 := hs.below hA
  have hF := fst_of hs1 hz
  obtain ⟨hnl, hcap⟩ := hs.slice
  obtain ⟨us, hus⟩ := (hu.below hA).undef
  have C1 := Lib.hid (fromUv_ok A n c l _ hs1 (by omega) (hu.below hA).toUvS v k hd)
  have HUS := Lib.hid hus
  have hn : n ≤ 2147483647 := by omega
  have hv1 : ((v : Int) != 1) = true := by rw [bne_iff_ne]; omega
  clear hs hs1 hz hd hu hus hnl hcap hm hA hv
  generalize (v : Int) = vi at *
  obtain ⟨w0, hw0⟩ : ∃ w0, w0 = w.alloc cidZ := ⟨_, rfl⟩
  rcases hF with hn2 | ⟨hn2, b, o, x0, x1, rfl, i0, i1, h18 | ⟨h18, h32⟩⟩
  all_goals
    go_enter Tryd.func85, Tryd.ntmps85
    go_wp2_with fail
    refine C1.out.mono ?_
    rintro e w1 ⟨rfl, hb1⟩
    have hd1 := hb1.drewN 1
    obtain ⟨p1, p2, p3, _, _⟩ := from_fin HUS.out hb1
    go_wp2_with fail
    go_region_with (go_at_call 103; refine (errorsNew _ w1.drew).mono ?_; rintro e w3 ⟨t, p, rfl, hb3⟩; obtain ⟨p1, p2, p3, p4, p5⟩ := from_fin HUS.out (below_next hd1 hb3))
    all_goals
      go_wp2
      refine bodyPost_ret (results_tmp_row_tmp rfl _ _ (w.heap.size) 80 #[.string us] (0, 0) _ rfl p4.out Tryd.underlying80 rfl (by kernel_rfl)) rfl ?_
      exact ⟨⟨_, _, _, rfl⟩, p5.out⟩

set_option maxRecDepth 100000 in
set_option maxHeartbeats 8000000 in
/-- The codec can't be read. -/
theorem cidFrom_noCodec (A : Option Addr) (n c : Nat) (l : List UInt8) (w : World) (hs : BS w (.slice A n c) l) (hm : l.length ≤ 2147483647) (hu : CdS w) (hz : ¬ cidZero l) (hd : uvDec l = .ok 1 1) (hno : (uvDec (l.drop 1)).no) :
    Calls Tryd.prog 85 #[.slice A n c] w fun e w' => FromBad e ∧ Below w.heap.size w w' := by
  have hA : Below w.heap.size w (w.alloc cidZ) := (Below.refl _ _).alloc (Nat.le_refl _) _
  have hs1 := hs.below hA
  have hF := fst_of hs1 hz
  obtain ⟨hnl, hcap⟩ := hs.slice
  obtain ⟨_, g2, _⟩ := uvDec_ok hd
  obtain ⟨us, hus⟩ := (hu.below hA).undef
  have C1 := Lib.hid (fromUv_ok A n c l _ hs1 (by omega) (hu.below hA).toUvS 1 1 hd)
  obtain ⟨r1, hs2⟩ := hs1.from_ (P := Tryd.prog) Tryd.underlying43 info_u8 1 (by omega)
  have l1 : (l.drop 1).length = l.length - 1 := by simp
  have C2 : ∀ W, Below (w.alloc cidZ).heap.size (w.alloc cidZ) W → Hid (Calls Tryd.prog 79 #[.slice (cutA A c 1) (n - 1) (c - 1)] W fun e w' => ∃ t p, e = .returned (.tuple #[.int .u64 0, .int .i64 0, .iface t p]) ∧ Below W.heap.size W w') := fun W hb =>
    Lib.hid (fromUv_no _ _ _ _ W (hs2.below hb) (by omega) ((hu.below hA).below hb).toUvS hno)
  have HUS := Lib.hid hus
  have hn : n ≤ 2147483647 := by omega
  rw [show ((1 : Nat) : Int) = 1 from rfl] at r1 C1
  clear hs hs1 hs2 hz hno hu hus hnl hcap hm hA hd g2 l1
  generalize cutA A c 1 = A1 at *
  generalize n - 1 = N1 at *
  generalize c - 1 = c1 at *
  obtain ⟨w0, hw0⟩ : ∃ w0, w0 = w.alloc cidZ := ⟨_, rfl⟩
  rcases hF with hn2 | ⟨hn2, b, o, x0, x1, rfl, i0, i1, h18 | ⟨h18, h32⟩⟩
  all_goals
    go_enter Tryd.func85, Tryd.ntmps85
    go_wp2_with fail
    refine C1.out.mono ?_
    rintro e w1 ⟨rfl, hb1⟩
    go_wp2_with fail
    refine (C2 w1 hb1).out.mono ?_
    rintro e w2 ⟨t, p, rfl, hb2⟩
    obtain ⟨p1, p2, p3, p4, p5⟩ := from_fin HUS.out (below_next hb1 hb2)
    go_wp2_with fail
    go_region
    all_goals
      go_wp2
      refine bodyPost_ret (results_tmp_row_tmp rfl _ _ (w.heap.size) 80 #[.string us] (0, 0) _ rfl p4.out Tryd.underlying80 rfl (by kernel_rfl)) rfl ?_
      exact ⟨⟨_, _, _, rfl⟩, p5.out.drewN 1⟩

set_option maxRecDepth 100000 in
set_option maxHeartbeats 8000000 in
/-- The multihash can't be read. -/
theorem cidFrom_noMh (A : Option Addr) (n c : Nat) (l : List UInt8) (w : World) (hs : BS w (.slice A n c) l) (hm : l.length ≤ 2147483647) (hu : CdS w) (hz : ¬ cidZero l) (hd : uvDec l = .ok 1 1) (codec m : Nat) (hd2 : uvDec (l.drop 1) = .ok codec m) (hno : mhRd ((l.drop 1).drop m) = none) :
    Calls Tryd.prog 85 #[.slice A n c] w fun e w' => FromBad e ∧ Below w.heap.size w w' := by
  have hA : Below w.heap.size w (w.alloc cidZ) := (Below.refl _ _).alloc (Nat.le_refl _) _
  have hs1 := hs.below hA
  have hF := fst_of hs1 hz
  obtain ⟨hnl, hcap⟩ := hs.slice
  obtain ⟨_, g2, _⟩ := uvDec_ok hd
  obtain ⟨_, g3, _⟩ := uvDec_ok hd2
  rw [List.length_drop] at g3
  obtain ⟨us, hus⟩ := (hu.below hA).undef
  have C1 := Lib.hid (fromUv_ok A n c l _ hs1 (by omega) (hu.below hA).toUvS 1 1 hd)
  obtain ⟨r1, hs2⟩ := hs1.from_ (P := Tryd.prog) Tryd.underlying43 info_u8 1 (by omega)
  have l1 : (l.drop 1).length = l.length - 1 := by simp
  have C2 : ∀ W, Below (w.alloc cidZ).heap.size (w.alloc cidZ) W → Hid (Calls Tryd.prog 79 #[.slice (cutA A c 1) (n - 1) (c - 1)] W fun e w' => e = .returned (.tuple #[.int .u64 codec, .int .i64 m, .nilIface]) ∧ Below W.heap.size W w') := fun W hb =>
    Lib.hid (fromUv_ok _ _ _ _ W (hs2.below hb) (by omega) ((hu.below hA).below hb).toUvS codec m hd2)
  obtain ⟨r2, hs3⟩ := hs1.from_ (P := Tryd.prog) Tryd.underlying43 info_u8 (1 + m) (by omega)
  rw [← List.drop_drop] at hs3
  have C3 : ∀ W, Below (w.alloc cidZ).heap.size (w.alloc cidZ) W → Hid (Calls Tryd.prog 105 #[.slice (cutA A c (1 + m)) (n - (1 + m)) (c - (1 + m))] W fun e w' => ∃ t p, e = .returned (.tuple #[.int .i64 0, .slice none 0 0, .iface t p]) ∧ Below W.heap.size W w') := fun W hb =>
    Lib.hid (MHFrom_no _ _ _ _ W (hs3.below hb) (by rw [List.length_drop, List.length_drop]; omega) ((hu.below hA).below hb).toMhS hno)
  have HUS := Lib.hid hus
  have hn : n ≤ 2147483647 := by omega
  have em : ((1 + m : Nat) : Int) = 1 + (m : Int) := by omega
  have b1 : m ≤ 2147483647 := by omega
  rw [em] at r2
  rw [show ((1 : Nat) : Int) = 1 from rfl] at r1 C1
  clear hs hs1 hs2 hs3 hz hno hu hus hnl hcap hm hA hd hd2 g2 g3 l1 em
  generalize cutA A c 1 = A1 at *
  generalize cutA A c (1 + m) = A2 at *
  generalize n - 1 = N1 at *
  generalize n - (1 + m) = N2 at *
  generalize c - 1 = c1 at *
  generalize c - (1 + m) = c2 at *
  obtain ⟨w0, hw0⟩ : ∃ w0, w0 = w.alloc cidZ := ⟨_, rfl⟩
  rcases hF with hn2 | ⟨hn2, b, o, x0, x1, rfl, i0, i1, h18 | ⟨h18, h32⟩⟩
  all_goals
    go_enter Tryd.func85, Tryd.ntmps85
    go_wp2_with fail
    refine C1.out.mono ?_
    rintro e w1 ⟨rfl, hb1⟩
    go_wp2_with fail
    refine (C2 w1 hb1).out.mono ?_
    rintro e w2 ⟨rfl, hb2⟩
    have hb2' := below_next hb1 hb2
    go_wp2_with fail
    refine (C3 w2 hb2').out.mono ?_
    rintro e w3 ⟨t, p, rfl, hb3⟩
    obtain ⟨p1, p2, p3, p4, p5⟩ := from_fin HUS.out (below_next hb2' hb3)
    go_wp2_with fail
    go_region
    all_goals
      go_wp2
      refine bodyPost_ret (results_tmp_row_tmp rfl _ _ (w.heap.size) 80 #[.string us] (0, 0) _ rfl p4.out Tryd.underlying80 rfl (by kernel_rfl)) rfl ?_
      exact ⟨⟨_, _, _, rfl⟩, p5.out.drewN 1⟩

theorem cidFrom_no (A : Option Addr) (n c : Nat) (l : List UInt8) (w : World) (hs : BS w (.slice A n c) l) (hm : l.length ≤ 2147483647) (hu : CdS w) (hd : cidRd l = none) :
    Calls Tryd.prog 85 #[.slice A n c] w fun e w' => FromBad e ∧ Below w.heap.size w w' := by
  rcases cidRd_none hd with ⟨hz, h34⟩ | ⟨hz, h | ⟨v, k, e1, hv⟩ | ⟨e1, h | ⟨codec, m, e2, e3⟩⟩⟩
  · exact cidFrom_short A n c l w hs hu hz h34
  · exact cidFrom_noVer A n c l w hs hm hu hz h
  · exact cidFrom_badVer A n c l w hs hm hu hz v k e1 hv
  · exact cidFrom_noCodec A n c l w hs hm hu hz e1 h
  · exact cidFrom_noMh A n c l w hs hm hu hz e1 codec m e2 e3

theorem cidFrom_ok (A : Option Addr) (n c : Nat) (l : List UInt8) (w : World) (hs : BS w (.slice A n c) l) (hm : l.length ≤ 2147483647) (hu : CdS w) (x : CidD) (k : Nat) (hd : cidRd l = some (x, k)) :
    Calls Tryd.prog 85 #[.slice A n c] w fun e w' => e = .returned (.tuple #[.int .i64 k, .agg #[.string ⟨(cidEnc x).toArray⟩], .nilIface]) ∧ Below w.heap.size w w' := by
  by_cases hz : cidZero l
  · rcases cidRd_some hd with ⟨_, h34, hk, hx⟩ | ⟨h, _⟩
    · obtain ⟨_, ht, _, _⟩ := cidRd_take hd
      have := cidFrom_zero A n c l w hs hm hu hz h34
      rw [hk] at ht ⊢
      rw [ht] at this
      exact this
    · exact absurd hz h
  · exact cidFrom_one A n c l w hs hm hu x k hd hz
end Go.Proofs.YthfgnhgijgjggaaDoor
/- Contracts of package cid: uvarint of a string; Bytes. -/
namespace Go.Proofs.YthfgnhgijgjggaaDoor
open Go.RowKit

theorem ret3_eq {Y M : Int} {x m : Nat} (h : Y = x) (h2 : M = m) : Ending.returned (.tuple #[.int .u64 Y, .int .i64 M, .nilIface]) = .returned (.tuple #[.int .u64 x, .int .i64 m, .nilIface]) := by
  rw [h, h2]

set_option maxRecDepth 100000 in
set_option maxHeartbeats 1000000 in
/-- A varint that can be read of the string's beginning. -/
theorem cdUv_ok (s : ByteArray) (w : World) (x m : Nat) (hd : uvDec s.data.toList = .ok x m) (hm : s.size ≤ 9223372036854775807) :
    Calls Tryd.prog 80 #[.string s] w fun e w' => e = .returned (.tuple #[.int .u64 x, .int .i64 m, .nilIface]) ∧ Below w.heap.size w w' := by
  have hlen : s.data.toList.length = s.size := ba_len s
  have HL := Lib.hid hlen
  have HD := Lib.hid hd
  clear hlen hd
  go_enter Tryd.func80, Tryd.ntmps80
  go_wp2
  go_loop [5, 6, 7] (fun x' sh i => ∃ (k X : Nat), k ≤ s.size ∧ k ≤ 9 ∧ X < 2 ^ (7 * k) ∧ i = .int .i64 k ∧ sh = .int .u64 (7 * k : Nat) ∧ x' = .int .u64 X ∧ Hid (uvGo k X (s.data.toList.drop k) = .ok x m)) (fun _ _ i => s.size - (intOf i).toNat)
  case atStart => exact ⟨0, 0, by omega, by omega, by decide, rfl, rfl, rfl, Lib.hid HD.out⟩
  case round =>
    obtain ⟨k, X, hk, hk10, hX, rfl, rfl, rfl, hd⟩ := hrel
    by_cases hlt : k < s.size
    · have hlt' : k < s.data.toList.length := by rw [HL.out]; exact hlt
      obtain ⟨c, hc⟩ : ∃ c, s.data.toList[k]? = some c := ⟨_, List.getElem?_eq_getElem hlt'⟩
      have hidx := fun W => idx_ba (P := Tryd.prog) Tryd.underlying9 s k c hc k rfl W
      have hb : c.toNat < 256 := UInt8.toNat_lt _
      have hstep : uvGo k X (s.data.toList.drop k) = (if (k = 8 ∧ 128 ≤ c.toNat) ∨ 9 ≤ k then .over
          else if c.toNat < 128 then (if c.toNat = 0 ∧ 0 < k then .notMin else .ok (X + c.toNat * 2 ^ (7 * k)) (k + 1))
          else uvGo (k + 1) (X + (c.toNat % 128) * 2 ^ (7 * k)) (s.data.toList.drop (k + 1))) := by
        have e : s.data.toList[k] = c := (List.getElem?_eq_some_iff.1 hc).2
        rw [List.drop_eq_getElem_cons hlt', uvGo, e]
      have hd2 := hd.out
      rw [hstep] at hd2
      clear hstep hc hlt' hd
      by_cases h9 : (k = 8 ∧ 128 ≤ c.toNat) ∨ 9 ≤ k
      · rw [if_pos h9] at hd2; cases hd2
      rw [if_neg h9] at hd2
      have hk9 : k ≤ 8 := by omega
      have hkk : ((k : Int) > 9) = False := by simp; omega
      have hkb : ¬ (k : Int) > 9 := by omega
      have hk9e : ((k : Int) == 9) = false := by rw [beq_eq_false_iff_ne]; omega
      clear hkk
      generalize hB : c.toNat = B at *
      clear hB
      by_cases hlo : B < 128
      · rw [if_pos hlo] at hd2
        by_cases hz : B = 0 ∧ 0 < k
        · rw [if_pos hz] at hd2; cases hd2
        rw [if_neg hz] at hd2
        injection hd2 with e1 e2
        have hor := Lib.hid (uv_or k X B hk9 hX hlo)
        have E1 := Lib.hid e1
        have E2 := Lib.hid e2
        clear e1 e2 h9
        by_cases hB0 : B = 0
        · subst hB0
          have hk0 : k = 0 := by omega
          subst hk0
          clear hor
          have hor0 : Hid (bits .or .u64 (X : Int) 0 = (X : Nat)) := Lib.hid (by rw [u64_orv0 _ _ (by omega) (by omega) (by omega) (by omega) (by omega)]; omega)
          clear hz
          simp only [Int.natCast_zero] at hidx
          go_wp2
          go_ret3
          exact ⟨ret3_eq (by rw [hor0.out, ← E1.out]; simp) (by rw [← E2.out]; rfl), Below.refl _ _⟩
        · have hB0' : ((B : Int) == 0) = false := by simp; omega
          clear hz
          go_wp2
          go_ret3
          exact ⟨ret3_eq (by rw [hor.out, ← E1.out]) (by rw [← E2.out]; omega), Below.refl _ _⟩
      · rw [if_neg hlo] at hd2
        have hfin := Lib.hid hd2
        clear hd2
        have hk8 : k ≤ 7 := by omega
        clear h9
        have hor := Lib.hid (uv_or_and k X B hk9 hX hb)
        have hlt2 := uv_step_lt k X (B % 128) hX (by omega)
        go_wp2
        exact ⟨⟨k + 1, X + B % 128 * 2 ^ (7 * k), by omega, by omega, hlt2, by go_num, by go_num, by rw [hor.out], hfin⟩, by simp [intOf]; omega⟩
    · exfalso
      have hkn : k = s.data.toList.length := by rw [HL.out]; omega
      have hd2 := hd.out
      rw [hkn, List.drop_length] at hd2
      cases hd2

end Go.Proofs.YthfgnhgijgjggaaDoor
/- Contracts of package cid: Bytes, Hash, Prefix of an identifier's bytes. -/
namespace Go.Proofs.YthfgnhgijgjggaaDoor
open Go.RowKit

section
variable {P : Program}
/-- 's[k:]' of a string. -/
theorem run_str_from {t : TypeId} (ht : P.underlying t = some .string) (s : ByteArray) (k : Nat) (hk : k ≤ s.size) (x : Int) (hx : x = k) (W : World) :
    (Instr.slice t (.string s) (some (.int .i64 x)) none none).run P W = .ok (.string ⟨(s.data.toList.drop k).toArray⟩) W := by
  subst hx
  rw [run_slice_string_l W t s ht .i64 (k : Int) (by omega) (by omega), Int.toNat_natCast]
  congr 2
  apply ByteArray.ext
  apply Array.toList_inj.1
  rw [Lib.extract_data]
  show _ = s.data.toList.drop k
  rw [List.take_of_length_le]
  rw [List.length_drop, ba_len]; omega
end

/-- A slice that holds the bytes l. -/
def HasBytes (l : List UInt8) (e : Ending) (w' : World) : Prop := ∃ A n c, e = .returned (.slice A n c) ∧ BS w' (.slice A n c) l

set_option maxRecDepth 100000 in
set_option maxHeartbeats 2000000 in
theorem cdBytes (s : ByteArray) (w : World) (h : 0 < s.size) :
    Calls Tryd.prog 77 #[.agg #[.string s]] w fun e w' => HasBytes s.data.toList e w' ∧ Below w.heap.size w w' := by
  have hA : Below w.heap.size w (w.alloc (.cells #[.string s] 80)) := (Below.refl _ _).alloc (Nat.le_refl _) _
  have hr0 := heap_alloc_new w (.cells #[.string s] 80)
  have HD := Lib.hid (cdDefined s (w.alloc (.cells #[.string s] 80)) h)
  go_enter Tryd.func77, Tryd.ntmps77
  go_wp2_with fail
  refine HD.out.mono ?_
  rintro e w1 ⟨rfl, hb1⟩
  have hb := below_next hA hb1
  have c0 := cell_of_row' (cur := [_]) (row_below hb1 (block_of_row hr0) hr0) 0
  obtain ⟨c, w2, hconv, hb2, hbs⟩ := conv_in w1 s
  have HBS := Lib.hid hbs
  clear hbs hr0 HD hA h
  go_wp2
  go_ret
  exact ⟨⟨some ⟨w1.heap.size, 0, none⟩, _, c, rfl, HBS.out⟩, below_next hb hb2⟩

/-- An identifier's bytes as a string. -/
structure CidStr (s : ByteArray) (x : CidD) : Prop where
  eq : s.data.toList = cidEnc x
  tidy : x.tidy
  fits : x.dig.length ≤ 2147483600

theorem CidStr.size {s : ByteArray} {x : CidD} (h : CidStr s x) : 2 ≤ s.size ∧ s.size ≤ 2147483640 := by
  have := cidEnc_length_le x h.tidy (by have := h.fits; omega)
  rw [← h.eq, ba_len] at this
  have := h.fits
  omega
theorem CidStr.rd {s : ByteArray} {x : CidD} (h : CidStr s x) : cidRd s.data.toList = some (x, s.size) := by
  have := cidRd_enc0 x h.tidy (by have := h.fits; omega)
  rw [← h.eq, ba_len] at this
  exact this

theorem CidStr.v0 {s : ByteArray} {x : CidD} (h : CidStr s x) (hz : x.ver = 0) : s.size = 34 ∧ cidZero s.data.toList ∧ s.data.toList = mhEnc 18 x.dig ∧ x = ⟨0, 112, 18, x.dig⟩ ∧ x.dig.length = 32 := by
  obtain ⟨v, codec, code, d⟩ := x
  have he := h.eq
  rcases h.tidy with ⟨h0, h1, h2, h3⟩ | ⟨h0, _, _⟩
  · simp only at h0 h1 h2 h3 hz
    subst h0 h1 h2
    have e : s.data.toList = mhEnc 18 d := he
    have e2 := e
    rw [mhEnc_18 d h3] at e2
    refine ⟨?_, ?_, e, rfl, h3⟩
    · rw [← ba_len, e2]; simp [h3]
    · rw [e2]; exact ⟨by simp [h3], rfl, rfl⟩
  · simp only at h0 hz; omega

theorem CidStr.v1 {s : ByteArray} {x : CidD} (h : CidStr s x) (hz : x.ver ≠ 0) : ¬ cidZero s.data.toList ∧ s.data.toList = 1 :: (Lib.uvarint x.codec ++ mhEnc x.code x.dig) ∧ x.ver = 1 ∧ x.codec < 9223372036854775808 ∧ x.code < 9223372036854775808 := by
  obtain ⟨v, codec, code, d⟩ := x
  have he := h.eq
  rcases h.tidy with ⟨h0, h1, h2, h3⟩ | ⟨h0, h1, h2⟩
  · simp only at h0 hz; omega
  · simp only at h0 h1 h2 hz
    subst h0
    have e : s.data.toList = 1 :: (Lib.uvarint codec ++ mhEnc code d) := he
    exact ⟨by rw [e]; exact not_zero_one _, e, rfl, h1, h2⟩

/-- Which digest's multihash an identifier holds. -/
theorem hash_v0 {s : ByteArray} {x : CidD} (h : CidStr s x) (hz : x.ver = 0) : s.data.toList = mhEnc x.code x.dig := by
  obtain ⟨_, _, e, hx, _⟩ := h.v0 hz
  rw [e, hx]

set_option maxRecDepth 100000 in
set_option maxHeartbeats 4000000 in
theorem cdHash (s : ByteArray) (x : CidD) (h : CidStr s x) (w : World) (hu : UvS w) :
    Calls Tryd.prog 43 #[.agg #[.string s]] w fun e w' => HasBytes (mhEnc x.code x.dig) e w' ∧ Below w.heap.size w w' := by
  have hA : Below w.heap.size w (w.alloc (.cells #[.string s] 80)) := (Below.refl _ _).alloc (Nat.le_refl _) _
  have hr0 := heap_alloc_new w (.cells #[.string s] 80)
  obtain ⟨z2, zM⟩ := h.size
  have HB := Lib.hid (cdBytes s (w.alloc (.cells #[.string s] 80)) (by omega))
  by_cases hz : x.ver = 0
  · obtain ⟨h34, hcz, _⟩ := h.v0 hz
    have he := hash_v0 h hz
    rw [← he]
    have HV := fun W => Lib.hid (cdVer0 s W h34 hcz)
    have HR0 := Lib.hid hr0
    clear h hz h34 hcz he hu hr0 z2 zM
    generalize s.data.toList = L at *
    go_enter Tryd.func43, Tryd.ntmps43
    go_wp2_with fail
    refine HB.out.mono ?_
    rintro e w1 ⟨⟨A, N, c, rfl, hbs⟩, hb1⟩
    have hb := below_next hA hb1
    have HBS := Lib.hid hbs
    have c0 := cell_of_row' (cur := [_]) (row_below hb1 (block_of_row HR0.out) HR0.out) 0
    clear hbs HB hA
    go_wp2_with fail
    refine (HV w1).out.mono ?_
    rintro e w2 ⟨rfl, hb2⟩
    go_wp2
    go_ret
    exact ⟨⟨A, N, c, rfl, HBS.out.below hb2⟩, below_next hb hb2⟩
  · obtain ⟨hcz, e1, _, h63, h63'⟩ := h.v1 hz
    have HV := fun W => Lib.hid (cdVer1 s W (fun hh => hcz hh.2))
    have d1 : uvDec s.data.toList = .ok 1 1 := by rw [e1]; exact uvDec_one _
    have e2 : s.data.toList.drop 1 = Lib.uvarint x.codec ++ mhEnc x.code x.dig := by rw [e1]; rfl
    have d2 : uvDec (s.data.toList.drop 1) = .ok x.codec (Lib.uvarint x.codec).length := by rw [e2]; exact uvDec_back _ h63 _
    have e3 : s.data.toList.drop (1 + (Lib.uvarint x.codec).length) = mhEnc x.code x.dig := by rw [← List.drop_drop, e2, List.drop_left]
    have hln : s.data.toList.length = 1 + ((Lib.uvarint x.codec).length + (mhEnc x.code x.dig).length) := by rw [e1]; simp; omega
    have hln2 := ba_len s
    have hul := Lib.uvarint_length64 (x := x.codec) (by omega)
    obtain ⟨m, hm⟩ : ∃ m, m = (Lib.uvarint x.codec).length := ⟨_, rfl⟩
    rw [← hm] at d2 e3 hln hul
    have HD1 := Lib.hid d1
    have HD2 := Lib.hid d2
    have HE3 := Lib.hid e3
    have HLN := Lib.hid hln
    have HLN2 := Lib.hid hln2
    have HR0 := Lib.hid hr0
    clear h hz hcz e1 e2 e3 d1 d2 hr0 hm hln hln2
    generalize mhEnc x.code x.dig = M at *
    generalize x.codec = cdc at *
    generalize hL : s.data.toList = L at *
    obtain ⟨N, hN⟩ : ∃ N, N = L.length := ⟨_, rfl⟩
    have HN := Lib.hid hN
    have bN : N ≤ 2147483640 := by rw [hN, HLN2.out]; exact zM
    have bN1 : 1 + m ≤ N := by rw [hN, HLN.out]; omega
    have bNM : N - (1 + m) = M.length := by rw [hN, HLN.out]; omega
    have HNM := Lib.hid bNM
    clear hN hL z2 zM bNM
    go_enter Tryd.func43, Tryd.ntmps43
    go_wp2_with fail
    refine HB.out.mono ?_
    rintro e w1 ⟨⟨A, N', c, rfl, hbs⟩, hb1⟩
    obtain rfl : N = N' := HN.out.trans hbs.slice.1.symm
    have hb := below_next hA hb1
    have HBS := Lib.hid hbs
    have c0 := cell_of_row' (cur := [_]) (row_below hb1 (block_of_row HR0.out) HR0.out) 0
    clear hbs HB hA
    go_wp2_with fail
    refine (HV w1).out.mono ?_
    rintro e w2 ⟨rfl, hb2⟩
    have hb' := below_next hb hb2
    have hbs2 := HBS.out.below hb2
    have C1 := Lib.hid (fromUv_ok A N c L w2 hbs2 (by rw [← HN.out]; omega) (hu.below hb') 1 1 HD1.out)
    obtain ⟨r1, hs2⟩ := hbs2.from_ (P := Tryd.prog) Tryd.underlying43 info_u8 1 (by omega)
    have C2 : ∀ W, Below w2.heap.size w2 W → Hid (Calls Tryd.prog 79 #[.slice (cutA A c 1) (N - 1) (c - 1)] W fun e w' => e = .returned (.tuple #[.int .u64 cdc, .int .i64 m, .nilIface]) ∧ Below W.heap.size W w') := fun W hb =>
      Lib.hid (fromUv_ok _ _ _ _ W (hs2.below hb) (by rw [List.length_drop, ← HN.out]; omega) ((hu.below hb').below hb) cdc m HD2.out)
    obtain ⟨r2, hs3⟩ := hbs2.from_ (P := Tryd.prog) Tryd.underlying43 info_u8 (1 + m) (by omega)
    rw [HE3.out, HNM.out] at hs3
    rw [HNM.out] at r2
    have em : ((1 + m : Nat) : Int) = 1 + (m : Int) := by omega
    rw [em] at r2
    rw [show ((1 : Nat) : Int) = 1 from rfl] at r1 C1
    have HS3 := Lib.hid hs3
    clear hs2 hs3 em hbs2 HBS c0 hb2
    generalize cutA A c (1 + m) = A2 at *
    generalize cutA A c 1 = A1 at *
    generalize N - 1 = N1 at *
    generalize c - 1 = c1 at *
    generalize c - (1 + m) = c2 at *
    generalize hML : M.length = ML at *
    have HML := Lib.hid hML
    clear hML
    go_wp2_with fail
    refine C1.out.mono ?_
    rintro e w3 ⟨rfl, hb3⟩
    go_wp2_with fail
    refine (C2 w3 hb3).out.mono ?_
    rintro e w4 ⟨rfl, hb4⟩
    go_wp2
    go_ret
    exact ⟨⟨A2, ML, c2, rfl, HS3.out.below (below_next hb3 hb4)⟩, below_next hb' (below_next hb3 hb4)⟩
end Go.Proofs.YthfgnhgijgjggaaDoor
/- Contracts: (cid.Cid).Prefix, impl.cidOut. -/
namespace Go.Proofs.YthfgnhgijgjggaaDoor
open Go.RowKit

set_option maxRecDepth 100000 in
set_option maxHeartbeats 4000000 in
theorem cdPrefix_v0 (s : ByteArray) (x : CidD) (h : CidStr s x) (hz : x.ver = 0) (w : World) :
    Calls Tryd.prog 44 #[.agg #[.string s]] w fun e w' => e = .returned (.agg #[.int .u64 0, .int .u64 112, .int .u64 18, .int .i64 32]) ∧ Below w.heap.size w w' := by
  have hA : Below w.heap.size w ((w.alloc (.cells #[.string s] 80)).alloc (.cells #[.int .u64 0, .int .u64 0, .int .u64 0, .int .i64 0] 91)) := ((Below.refl _ _).alloc (Nat.le_refl _) _).alloc (by simp) _
  obtain ⟨h34, hcz, _⟩ := h.v0 hz
  have HV := fun W => Lib.hid (cdVer0 s W h34 hcz)
  have HR1 := Lib.hid (heap_alloc2_new w (.cells #[.string s] 80) (.cells #[.int .u64 0, .int .u64 0, .int .u64 0, .int .i64 0] 91))
  clear h34 hcz h hz
  go_enter Tryd.func44, Tryd.ntmps44
  go_wp2_with fail
  refine (HV _).out.mono ?_
  rintro e w1 ⟨rfl, hb1⟩
  have hb := below_next hA hb1
  have hr := row_below hb1 (block_of_row HR1.out) HR1.out
  have c0 := cell_of_row' (cur := [_, _, _, _]) hr 0
  have c1 := cell_of_row' (cur := [_, _, _, _]) hr 1
  have c2 := cell_of_row' (cur := [_, _, _, _]) hr 2
  have c3 := cell_of_row' (cur := [_, _, _, _]) hr 3
  have f0 := frozen_of_row' (cur := [_, _, _, _]) hr 0
  have f1 := frozen_of_row' (cur := [_, _, _, _]) hr 1
  have f2 := frozen_of_row' (cur := [_, _, _, _]) hr 2
  have f3 := frozen_of_row' (cur := [_, _, _, _]) hr 3
  have HR := Lib.hid hr
  clear hr hA HV HR1
  go_wp2
  refine bodyPost_ret (results_cell_row rfl _ _ (w.heap.size + 1) 91 #[.int .u64 0, .int .u64 112, .int .u64 18, .int .i64 32] (0, 0) _ rfl (by simp [World.setCell, Array.getElem?_modify, HR.out]) Tryd.underlying91 rfl (by kernel_rfl)) rfl ?_
  exact ⟨rfl, (((hb.setCell (by show w.heap.size ≤ w.heap.size + 1; omega) _).setCell (by show w.heap.size ≤ w.heap.size + 1; omega) _).setCell (by show w.heap.size ≤ w.heap.size + 1; omega) _).setCell (by show w.heap.size ≤ w.heap.size + 1; omega) _⟩

set_option maxRecDepth 100000 in
set_option maxHeartbeats 4000000 in
theorem cdPrefix_v1 (s : ByteArray) (x : CidD) (h : CidStr s x) (hz : x.ver ≠ 0) (w : World) :
    Calls Tryd.prog 44 #[.agg #[.string s]] w fun e w' => e = .returned (.agg #[.int .u64 1, .int .u64 x.codec, .int .u64 x.code, .int .i64 x.dig.length]) ∧ Below w.heap.size w w' := by
  have hA : Below w.heap.size w ((w.alloc (.cells #[.string s] 80)).alloc (.cells #[.int .u64 0, .int .u64 0, .int .u64 0, .int .i64 0] 91)) := ((Below.refl _ _).alloc (Nat.le_refl _) _).alloc (by simp) _
  obtain ⟨hcz, e1, _, h63, h63'⟩ := h.v1 hz
  have HV := fun W => Lib.hid (cdVer1 s W (fun hh => hcz hh.2))
  have HR0 := Lib.hid (heap_alloc2_old w (.cells #[.string s] 80) (.cells #[.int .u64 0, .int .u64 0, .int .u64 0, .int .i64 0] 91))
  have HR1 := Lib.hid (heap_alloc2_new w (.cells #[.string s] 80) (.cells #[.int .u64 0, .int .u64 0, .int .u64 0, .int .i64 0] 91))
  have hfit := h.fits
  obtain ⟨z2, zM⟩ := h.size
  obtain ⟨m, hm⟩ : ∃ m, m = (Lib.uvarint x.codec).length := ⟨_, rfl⟩
  obtain ⟨k, hk⟩ : ∃ k, k = (Lib.uvarint x.code).length := ⟨_, rfl⟩
  have lm := Lib.uvarint_length64 (x := x.codec) (by omega)
  have lk := Lib.uvarint_length64 (x := x.code) (by omega)
  rw [← hm] at lm
  rw [← hk] at lk
  have hsz : s.size = 1 + (m + (k + ((Lib.uvarint x.dig.length).length + x.dig.length))) := by
    rw [← ba_len, e1]; unfold mhEnc; simp only [List.length_cons, List.length_append]; omega
  have D0 : uvDec (s.data.toList.drop 0) = .ok 1 1 := by rw [e1]; exact uvDec_one _
  have D1 : uvDec (s.data.toList.drop 1) = .ok x.codec m := by rw [e1, hm]; exact uvDec_back _ h63 _
  have E2 : s.data.toList.drop (1 + m) = Lib.uvarint x.code ++ (Lib.uvarint x.dig.length ++ x.dig) := by rw [e1, ← List.drop_drop, hm]; show (Lib.uvarint x.codec ++ mhEnc x.code x.dig).drop _ = _; rw [List.drop_left]; rfl
  have D2 : uvDec (s.data.toList.drop (1 + m)) = .ok x.code k := by rw [E2, hk]; exact uvDec_back _ h63' _
  have D3 : uvDec (s.data.toList.drop (1 + m + k)) = .ok x.dig.length (Lib.uvarint x.dig.length).length := by rw [← List.drop_drop, E2, hk, List.drop_left]; exact uvDec_back _ (by omega) _
  have T0 := fun W => run_str_from (P := Tryd.prog) Tryd.underlying9 s 0 (by omega) 0 rfl W
  have T1 := fun W => run_str_from (P := Tryd.prog) Tryd.underlying9 s 1 (by omega) 1 rfl W
  have T2 := fun W => run_str_from (P := Tryd.prog) Tryd.underlying9 s (1 + m) (by omega) (1 + (m : Int)) (by omega) W
  have T3 := fun W => run_str_from (P := Tryd.prog) Tryd.underlying9 s (1 + m + k) (by omega) (1 + (m : Int) + k) (by omega) W
  have U : ∀ j y q, uvDec (s.data.toList.drop j) = .ok y q → ∀ W, Hid (Calls Tryd.prog 80 #[.string ⟨(s.data.toList.drop j).toArray⟩] W fun e w' => e = .returned (.tuple #[.int .u64 y, .int .i64 q, .nilIface]) ∧ Below W.heap.size W w') := fun j y q hd W =>
    Lib.hid (cdUv_ok ⟨(s.data.toList.drop j).toArray⟩ W y q hd (by show (s.data.toList.drop j).toArray.size ≤ _; rw [List.size_toArray, List.length_drop, ba_len]; omega))
  have U0 := U 0 _ _ D0
  have U1 := U 1 _ _ D1
  have U2 := U (1 + m) _ _ D2
  have U3 := U (1 + m + k) _ _ D3
  have hw : wrap64 (x.dig.length : Int) = (x.dig.length : Int) := by unfold wrap64; omega
  rw [show ((1 : Nat) : Int) = 1 from rfl] at U0
  clear U D0 D1 D2 D3 E2 e1 hcz h hz hsz hm hk z2 zM h63 h63'
  generalize (Lib.uvarint x.dig.length).length = q at *
  generalize (⟨(s.data.toList.drop 0).toArray⟩ : ByteArray) = S0 at *
  generalize (⟨(s.data.toList.drop 1).toArray⟩ : ByteArray) = S1 at *
  generalize (⟨(s.data.toList.drop (1 + m)).toArray⟩ : ByteArray) = S2 at *
  generalize (⟨(s.data.toList.drop (1 + m + k)).toArray⟩ : ByteArray) = S3 at *
  generalize x.codec = cdc at *
  generalize x.code = code at *
  generalize x.dig.length = dl at *
  go_enter Tryd.func44, Tryd.ntmps44
  go_wp2_with fail
  refine (HV _).out.mono ?_
  rintro e w1 ⟨rfl, hb1⟩
  have hb := below_next hA hb1
  have r0 := row_below hb1 (block_of_row HR0.out) HR0.out
  have r1 := row_below hb1 (block_of_row HR1.out) HR1.out
  have c0 := cell_of_row' (cur := [_]) r0 0
  have HR := Lib.hid r1
  have HRR := Lib.hid r0
  clear r0 r1 hA HV HR0 HR1 hb1
  go_wp2_with fail
  refine (U0 _).out.mono ?_
  rintro e w2 ⟨rfl, hb2⟩
  have q0 := row_below hb2 (block_of_row HRR.out) HRR.out
  have c0 := cell_of_row' (cur := [_]) q0 0
  have Q0 := Lib.hid q0
  clear q0
  go_wp2_with fail
  refine (U1 _).out.mono ?_
  rintro e w3 ⟨rfl, hb3⟩
  have q0 := row_below hb3 (block_of_row Q0.out) Q0.out
  have c0 := cell_of_row' (cur := [_]) q0 0
  have Q1 := Lib.hid q0
  clear q0
  go_wp2_with fail
  refine (U2 _).out.mono ?_
  rintro e w4 ⟨rfl, hb4⟩
  have q0 := row_below hb4 (block_of_row Q1.out) Q1.out
  have c0 := cell_of_row' (cur := [_]) q0 0
  clear q0
  go_wp2_with fail
  refine (U3 _).out.mono ?_
  rintro e w5 ⟨rfl, hb5⟩
  have hb25 := below_next (below_next (below_next hb2 hb3) hb4) hb5
  have hb' := below_next hb hb25
  have hr := row_below hb25 (block_of_row HR.out) HR.out
  have d0 := cell_of_row' (cur := [_, _, _, _]) hr 0
  have d1 := cell_of_row' (cur := [_, _, _, _]) hr 1
  have d2 := cell_of_row' (cur := [_, _, _, _]) hr 2
  have d3 := cell_of_row' (cur := [_, _, _, _]) hr 3
  have f0 := frozen_of_row' (cur := [_, _, _, _]) hr 0
  have f1 := frozen_of_row' (cur := [_, _, _, _]) hr 1
  have f2 := frozen_of_row' (cur := [_, _, _, _]) hr 2
  have f3 := frozen_of_row' (cur := [_, _, _, _]) hr 3
  have HR5 := Lib.hid hr
  clear hr hb25 hb2 hb3 hb4 hb5 Q0 Q1 HR HRR U0 U1 U2 U3
  go_wp2
  refine bodyPost_ret (results_cell_row rfl _ _ (w.heap.size + 1) 91 #[.int .u64 1, .int .u64 cdc, .int .u64 code, .int .i64 dl] (0, 0) _ rfl (by simp [World.setCell, Array.getElem?_modify, HR5.out]) Tryd.underlying91 rfl (by kernel_rfl)) rfl ?_
  exact ⟨rfl, (((hb'.setCell (by show w.heap.size ≤ w.heap.size + 1; omega) _).setCell (by show w.heap.size ≤ w.heap.size + 1; omega) _).setCell (by show w.heap.size ≤ w.heap.size + 1; omega) _).setCell (by show w.heap.size ≤ w.heap.size + 1; omega) _⟩

theorem cdPrefix (s : ByteArray) (x : CidD) (h : CidStr s x) (w : World) :
    Calls Tryd.prog 44 #[.agg #[.string s]] w fun e w' => e = .returned (.agg #[.int .u64 x.ver, .int .u64 x.codec, .int .u64 x.code, .int .i64 x.dig.length]) ∧ Below w.heap.size w w' := by
  by_cases hz : x.ver = 0
  · obtain ⟨_, _, _, hx, hl⟩ := h.v0 hz
    have := cdPrefix_v0 s x h hz w
    rw [hl, hx]
    exact this
  · obtain ⟨_, _, hv, _⟩ := h.v1 hz
    have := cdPrefix_v1 s x h hz w
    rw [hv]
    exact this
end Go.Proofs.YthfgnhgijgjggaaDoor
