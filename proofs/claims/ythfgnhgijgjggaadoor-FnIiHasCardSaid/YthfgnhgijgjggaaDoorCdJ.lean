/- Contracts: multihash.Cast; cid.CidFromBytes where an identifier is read. -/
import Derived.Test.YthfgnhgijgjggaaDoorCdI
namespace Go.Proofs.YthfgnhgijgjggaaDoor
open Go.RowKit

section
variable {P : Program}
/-- Three results, the second a struct in a block that is known whole. -/
theorem results_tmp_row_tmp {fn : Func} {p u u2 : Tmp} {ty : TypeId} (h : fn.results = #[.tmp u, .cell p ty, .tmp u2]) (tmps : Array Value) (w : World) (g : Nat) (t : TypeId) (cs : Array Value) (fr : Nat × Nat) (d : TypeDesc)
    (hp : tmps.getD p undef = .pointer (some ⟨g, 0, none⟩)) (hg : w.heap[g]? = some (.cells cs t fr))
    (hu : P.underlying ty = some d) (hd : (match d with | .struct _ | .array _ _ => true | _ => false) = true) (hi : (P.info? ty).map (·.size) = some cs.size) :
    (results fn tmps).run P w = .ok (.tuple #[tmps.getD u undef, .agg cs, tmps.getD u2 undef]) w := by
  have hp' : tmps[p]?.getD undef = .pointer (some ⟨g, 0, none⟩) := by simpa using hp
  simp only [results, h]
  simp [Result.andThen, hp', asAddr, run_loadVar_row w g t ty cs fr d hg hu hd hi]

/-- 's[0:k]'. -/
theorem run_zero_to {t e : TypeId} (ht : P.underlying t = some (.slice e)) (hsz : (P.info? e).map (fun i => (i.zero, i.size, i.bytes)) = some (some (.int .u8 0), 1, 1)) (A : Option Addr) (n c k : Nat) (hk : k ≤ n) (hn : n ≤ c) (W : World) :
    (Instr.slice t (.slice A n c) (some (.int .i64 0)) (some (.int .i64 (k : Int))) none).run P W = .ok (.slice A k c) W := by
  have ht' : P.underlying t = some (.slice (P.elem t)) := by simp [Program.elem, ht]
  have he : P.elem t = e := by simp [Program.elem, ht]
  rw [run_slice_lh W t _ _ _ ht' .i64 .i64 _ _ (by omega) (by omega) (by omega), he, run_size hsz, Int.toNat_natCast]
  simp only [Result.andThen, Int.toNat_zero, sliced]
  congr 2
  by_cases h0 : c = 0
  · rw [if_pos h0]
  · rw [if_neg h0]; cases A <;> simp [Addr.add]
end

set_option maxRecDepth 100000 in
set_option maxHeartbeats 2000000 in
theorem mhCast_ok (A : Option Addr) (n c : Nat) (l : List UInt8) (w : World) (hs : BS w (.slice A n c) l) (hm : l.length ≤ 2147483647) (hu : UvS w) (code : Nat) (d : List UInt8) (hd : mhRd l = some (n, code, d)) :
    Calls Tryd.prog 104 #[.slice A n c] w fun e w' => e = .returned (.tuple #[.slice A n c, .nilIface]) ∧ Below w.heap.size w w' := by
  obtain ⟨A', c', hs', hc⟩ := Decode_ok A n c l w hs hm hu code d hd
  have HC := Lib.hid (hc _ (Below.refl _ _))
  clear hs hs' hc hu hd hm
  go_enter Tryd.func104, Tryd.ntmps104
  go_wp2_with fail
  refine HC.out.mono ?_
  rintro e w2 ⟨⟨g, rfl, hg, hrow⟩, hb2⟩
  go_wp2
  go_ret2
  exact ⟨rfl, hb2⟩

/-- What the first three bytes say, in the walk's words: no version 0. -/
theorem not_zero_cases {l : List UInt8} (h : ¬ cidZero l) : l.length ≤ 2 ∨ (2 < l.length ∧ ∃ a b : UInt8, l[0]? = some a ∧ l[1]? = some b ∧ (((a.toNat : Int) == 18) = false ∨ (((a.toNat : Int) == 18) = true ∧ ((b.toNat : Int) == 32) = false))) := by
  by_cases h2 : l.length ≤ 2
  · exact .inl h2
  · refine .inr ⟨by omega, l[0], l[1], List.getElem?_eq_getElem (by omega), List.getElem?_eq_getElem (by omega), ?_⟩
    by_cases h0 : l[0] = 18
    · refine .inr ⟨by rw [h0]; rfl, ?_⟩
      rw [beq_eq_false_iff_ne]
      intro e
      exact h ⟨by omega, by rw [List.getElem?_eq_getElem (by omega), h0], by rw [List.getElem?_eq_getElem (by omega)]; congr 1; exact UInt8.toNat_inj.1 (by show l[1].toNat = 32; omega)⟩
    · refine .inl ?_
      rw [beq_eq_false_iff_ne]
      intro e
      exact h0 (UInt8.toNat_inj.1 (by show l[0].toNat = 18; omega))

abbrev cidZ : Obj := .cells #[.string ⟨#[]⟩] 80

set_option maxRecDepth 100000 in
set_option maxHeartbeats 4000000 in
theorem cidFrom_zero (A : Option Addr) (n c : Nat) (l : List UInt8) (w : World) (hs : BS w (.slice A n c) l) (hm : l.length ≤ 2147483647) (hu : CdS w) (hz : cidZero l) (h34 : 34 ≤ l.length) :
    Calls Tryd.prog 85 #[.slice A n c] w fun e w' => e = .returned (.tuple #[.int .i64 34, .agg #[.string ⟨(l.take 34).toArray⟩], .nilIface]) ∧ Below w.heap.size w w' := by
  have hA : Below w.heap.size w (w.alloc cidZ) := (Below.refl _ _).alloc (Nat.le_refl _) _
  have hrd : cidRd l = some (⟨0, 112, 18, (l.drop 2).take 32⟩, 34) := by unfold cidRd; rw [if_pos hz, if_neg (by omega)]
  obtain ⟨_, ht, _, _⟩ := cidRd_take hrd
  have hmr : mhRd (l.take 34) = some (34, 18, (l.drop 2).take 32) := by
    rw [ht]
    have h32 : ((l.drop 2).take 32).length = 32 := by rw [List.length_take, List.length_drop]; omega
    have := mhRd_enc 18 ((l.drop 2).take 32) [] (by omega) (by omega)
    rw [List.append_nil, show (mhEnc 18 ((l.drop 2).take 32)).length = 34 by rw [mhEnc_18 _ h32]; simp [h32]] at this
    exact this
  obtain ⟨hnl, hcap⟩ := hs.slice
  have hs1 := hs.below hA
  obtain ⟨b, o, rfl, hcl⟩ := hs1.at_ (by omega)
  have hn2 : (2 : Int) < n := by omega
  have hn34 : ¬ (n : Int) < 34 := by omega
  have e0 := hcl 0 (by omega)
  have e1 := hcl 1 (by omega)
  have x0 : l[0] = 18 := by have := hz.2.1; rw [List.getElem?_eq_getElem (by omega)] at this; exact Option.some.inj this
  have x1 : l[1] = 32 := by have := hz.2.2; rw [List.getElem?_eq_getElem (by omega)] at this; exact Option.some.inj this
  rw [x0, Nat.add_zero] at e0
  rw [x1] at e1
  have i0 : (w.alloc cidZ).cell? ⟨b, o, none⟩ = some (.int .u8 18) := e0
  have i1 : (w.alloc cidZ).cell? ⟨b, o + 1, none⟩ = some (.int .u8 32) := e1
  obtain ⟨s1, _, hb34⟩ := hs1.to_ (P := Tryd.prog) Tryd.underlying43 info_u8 34 (by omega)
  rw [show ((34 : Nat) : Int) = 34 from rfl] at s1
  have HC := Lib.hid (mhCast_ok _ 34 c _ _ hb34 (by rw [List.length_take]; omega) (hu.below hA).toUvS 18 _ hmr)
  have HB := Lib.hid hb34
  have hr0 := heap_alloc_new w cidZ
  have n1 : (0 : Nat) < n := by omega
  have n3 : (1 : Nat) < n := by omega
  clear e0 e1 x0 x1 hcl hs hs1 hb34 hmr hrd hz ht hnl h34 hm
  go_enter Tryd.func85, Tryd.ntmps85
  go_wp2_with fail
  refine HC.out.mono ?_
  rintro e w2 ⟨rfl, hb2⟩
  have hb := below_next hA hb2
  have hz2 : w.heap.size + 1 ≤ w2.heap.size := by have := hb2.size; simpa using this
  have hr2 := row_below hb2 (block_of_row hr0) hr0
  have k0 : w2.drew.cell? ⟨w.heap.size, 0, none⟩ = _ := cell_of_row' (cur := [_]) hr2 0
  have f0 : w2.drew.frozen? ⟨w.heap.size, 0, none⟩ = _ := frozen_of_row' (cur := [_]) hr2 0
  have hcv := (((HB.out.below hb2).drewN 1).str (dst := 9) Tryd.underlying88 Tryd.underlying5 Tryd.underlying9)
  have hcv' : (convert 88 9 (.slice (some ⟨b, o, none⟩) 34 c)).run Tryd.prog w2.drew = .ok (.string ⟨(l.take 34).toArray⟩) w2.drew := hcv
  clear hcv i0 i1 s1
  go_wp2_with fail
  go_region
  all_goals
    go_wp2
    refine bodyPost_ret (results_tmp_row_tmp rfl _ _ (w.heap.size) 80 #[.string ⟨(l.take 34).toArray⟩] (0, 0) _ rfl (Lib.heap_setCell_same (i := 0) hr2 (.string ⟨(l.take 34).toArray⟩)) Tryd.underlying80 rfl (by kernel_rfl)) rfl ?_
    exact ⟨rfl, (hb.drewN 1).setCell (by exact Nat.le_refl _) _⟩
end Go.Proofs.YthfgnhgijgjggaaDoor
