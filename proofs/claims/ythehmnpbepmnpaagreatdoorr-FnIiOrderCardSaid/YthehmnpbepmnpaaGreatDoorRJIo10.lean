/- Contracts, joined (IiT IiU IiV IiW IiX SoA). -/
import Derived.Test.YthehmnpbepmnpaaGreatDoorRJIo1
import Derived.Test.YthehmnpbepmnpaaGreatDoorRJIo5
import Derived.Test.YthehmnpbepmnpaaGreatDoorRJIo7
import Derived.Test.YthehmnpbepmnpaaGreatDoorRJIo9
import Derived.LoopTactic
import Derived.Deep.RegionHeld3
import Derived.Test.YthehmnpbepmnpaaGreatDoorRProg
import Derived.WalkKit
import Derived.RegionTactic
import Derived.ChangeAlike
import Derived.Deep.QuietTactic
import Derived.BigQuiet
import Derived.Lib.Hide
import Derived.Deep.Draws
import Derived.Outline
import Derived.Shelf.Abstract
/- Contracts: (*InsertionIndex).GetAll, impl.found, impl.IiAll. -/
namespace Go.Proofs.YthehmnpbepmnpaaGreatDoorR
open Go.RowKit

theorem noByte_ou {W : World} {ob : Nat} {t : TypeId} {A : Option Addr} {n c : Nat} (h : W.heap[ob]? = some (ouO t (.slice A n c))) : NoByte W ob := by
  intro o v hc
  rw [cell_of_row' (cur := [_]) h] at hc
  rcases o with _ | o <;> simp at hc
theorem inO_of {w : World} {A : Option Addr} {c : Nat} {u : List UInt8} {ob ab B0 : Nat} (h : BS w (.slice A u.length c) u) (hne : NoByte w ob) (hab : w.heap.size ≤ ab) (hB : w.heap.size ≤ B0) : BSo (GaS ob ab B0) w (.slice A u.length c) u := by
  refine ⟨h, fun hl A' n' c' a e1 e2 => ?_⟩
  injection e1 with e1 _ _
  subst e1
  obtain ⟨b, o, e3, hc⟩ := h.at_ hl
  rw [e2] at e3
  injection e3 with e3
  subst e3
  have h1 := hc 0 hl
  have := block_of_cell h1
  have h2 : (⟨b, o + 0, none⟩ : Addr).block = b := rfl
  intro h3
  rcases h3 with h3 | h3 | h3
  · exact hne (o + 0) _ (by rw [← show b = ob from h3]; exact h1)
  · have h3 : b = ab := h3
    omega
  · have h3 : B0 ≤ b := h3
    omega
theorem off_tree {w : World} {t : Tr ItD} (ht : t.At ItD.val w) {ob : Nat} {ty : TypeId} {v : Value} (h : w.heap[ob]? = some (ouO ty v)) : ob ∉ t.blocks := fun hg => by
  obtain ⟨u, l, r, b, hrow⟩ := ht.row ob hg
  rw [h] at hrow
  have := congrArg (fun o => match o with | some (Obj.cells cs _ _) => cs.size | _ => 0) hrow
  simp at this
/-- The walk's start: an index, a digest, one block that may turn, two that are new. -/
theorem asf_start {w w2 w3 : World} {g ob ab B0 : Nat} {ty : TypeId} {A0 : Option Addr} {n0 c0 : Nat} {t : Tr ItD} (hi : IdxAt w g t) (hb : Below w.heap.size w w2) (h23 : Below w2.heap.size w2 w3) (ho : w.heap[ob]? = some (ouO ty (.slice A0 n0 c0))) (A : Option Addr) (c : Nat) (u : List UInt8) (hs : BS w2 (.slice A u.length c) u) (hab : w2.heap.size ≤ ab) (hB : w2.heap.size ≤ B0) :
    AsfAt (GaS ob ab B0) t ⟨A, c, u, ⟨#[]⟩, 0⟩ w3 := by
  have hi2 := hi.below hb
  have ho2 := row_below hb (block_of_row ho) ho
  refine ⟨(hi2.below h23).at_, fun y hy => ?_, ?_, fun p hp h => ?_⟩
  · exact (inO_of (hi2.in_ y hy) (noByte_ou ho2) hab hB).keep h23.keep
  · exact (inO_of hs (noByte_ou ho2) hab hB).keep h23.keep
  · have h1 := hi2.at_.lt p hp
    rcases h with h | h | h
    · exact off_tree hi2.at_ ho2 (h ▸ hp)
    · omega
    · omega

set_option maxRecDepth 100000 in
set_option maxHeartbeats 4000000 in
theorem getAll (cs : ByteArray) (x : CidD) (h : CidStr cs x) (g : Nat) (t : Tr ItD) (w : World) (hu : UvS w) (hi : IdxAt w g t) (ob mb most : Nat) (ho : w.heap[ob]? = some (ouO 33 (.slice none 0 0))) (hm : w.heap[mb]? = some (.cells #[.int .i64 most] 3 (0, 0))) (hmo : mb ≠ ob) (h0 : 0 < most) (h1 : most ≤ 1000) (R : List Int) (hR : (scan (takeStep ItD.dig ItD.off x.dig most) [] (t.asc (fun y => blt y.dig x.dig))).2 = R) (hR0 : 0 < R.length) :
    Calls Tryz.prog 38 #[.pointer (some ⟨g, 0, none⟩), .agg #[.string cs], .func (.func 39) #[] #[.pointer (some ⟨ob, 0, none⟩), .pointer (some ⟨mb, 0, none⟩)]] w fun e w' => e = .returned .nilIface ∧ (∃ v, w'.heap[ob]? = some (ouO 33 v) ∧ w'.ownsRow w.heap.size 23 1 v R.length (R.map (fun x => .int .u64 x))) ∧ Keep (fun k => k = ob) w w' := by
  obtain ⟨FV, hFV⟩ : ∃ FV : Value, FV = .func (.func 39) #[] #[.pointer (some ⟨ob, 0, none⟩), .pointer (some ⟨mb, 0, none⟩)] := ⟨_, rfl⟩
  rw [← hFV]
  obtain ⟨w0, hw0⟩ : ∃ w0, w0 = (w.alloc (.cells #[.string cs] 82)).alloc (.cells #[FV] 88) := ⟨_, rfl⟩
  have hA : Below w.heap.size w w0 := hw0 ▸ ((Below.refl _ w).alloc (Nat.le_refl _) _).alloc (by simp) _
  have r0 : w0.heap[w.heap.size]? = some (.cells #[.string cs] 82 (0, 0)) := by rw [hw0]; exact row_alloc (heap_alloc_new w _) _
  have r1 : w0.heap[w.heap.size + 1]? = some (.cells #[FV] 88 (0, 0)) := by
    rw [hw0]
    have := heap_alloc_new (w.alloc (.cells #[.string cs] 82)) (.cells #[FV] 88)
    rw [World.size_alloc] at this
    exact this
  have HH := Lib.hid (cdHash cs x h w0 (hu.below hA))
  have HM := Lib.hid (mh_size h)
  have HRD := Lib.hid (mhRd_own x.code x.dig h.code_lt (by have := h.fits; omega))
  have j0 := cell_of_row' (cur := [_]) r0 0
  have HU := Lib.hid hu
  have HA := Lib.hid hA
  have R0 := Lib.hid r0
  have R1 := Lib.hid r1
  have HI := Lib.hid hi
  have HO := Lib.hid ho
  have HMO := Lib.hid hm
  have HRR := Lib.hid hR
  have HFV := Lib.hid hFV
  have hob := block_of_row ho
  have hmb := block_of_row hm
  rw [hw0] at j0 HH
  have HW0 := Lib.hid hw0
  clear hw0 hA r0 r1 hu hi h ho hm hR hFV
  generalize mhEnc x.code x.dig = L at *
  have hmf : ∀ (fn : Fn) (first cap : Array Value) (w : World), (Instr.makeFunc fn first cap).run Tryz.prog w = .ok (.func fn first cap) w := fun _ _ _ _ => rfl
  go_enter Tryz.func38, Tryz.ntmps38
  go_wp2_with fail
  refine HH.out.mono ?_
  rw [← HW0.out]
  rintro e w1 ⟨⟨A, n, c, rfl, hbs⟩, hb1⟩
  obtain ⟨hn, _⟩ := hbs.slice
  have hb := below_next HA.out hb1
  obtain ⟨A', c', hs', hD⟩ := Decode_ok A n c L w1 hbs HM.out (HU.out.below hb) x.code x.dig (by rw [hn]; exact HRD.out)
  have HD := Lib.hid (hD w1 (Below.refl _ _))
  have Q0 := Lib.hid (row_below hb1 (block_of_row R0.out) R0.out)
  have Q1 := Lib.hid (row_below hb1 (block_of_row R1.out) R1.out)
  have HB := Lib.hid hb
  have HS := Lib.hid hs'
  clear hbs hD hs' hb1 hb hn HH HRD HM j0
  go_wp2_with fail
  refine HD.out.mono ?_
  rintro e w2 ⟨⟨dg, rfl, hg, hrow⟩, hb2⟩
  have k3 := cell_of_row' (cur := [_, _, _, _]) hrow 3
  have hs2 := BS.below HS.out hb2
  have hbw := below_next HB.out hb2
  obtain ⟨w3, hw3⟩ : ∃ w3, w3 = ((w2.alloc (.cells #[.slice A' x.dig.length c', .string ⟨#[]⟩, .int .u64 0] 154)).alloc (.cells #[.bool false] 4)).drew := ⟨_, rfl⟩
  have h23 : Below w2.heap.size w2 w3 := hw3 ▸ (((Below.refl _ w2).alloc (Nat.le_refl _) _).alloc (by simp) _).trans (below_drewN _ _ 1)
  have hsz3 : w3.heap.size = w2.heap.size + 2 := by rw [hw3]; simp [World.alloc, World.drew, -World.alloc_eq, -World.drew_eq]
  have re : w3.heap[w2.heap.size]? = some (.cells #[.slice A' x.dig.length c', .string ⟨#[]⟩, .int .u64 0] 154 (0, 0)) := by rw [hw3]; exact row_alloc (heap_alloc_new w2 _) _
  have rf : w3.heap[w2.heap.size + 1]? = some (fbO false) := by
    rw [hw3]
    have := heap_alloc_new (w2.alloc (.cells #[.slice A' x.dig.length c', .string ⟨#[]⟩, .int .u64 0] 154)) (.cells #[.bool false] 4)
    rw [World.size_alloc] at this
    exact this
  have q1 := row_below hb2 (block_of_row Q1.out) Q1.out
  have hcl : w.heap.size + 1 < w2.heap.size := block_of_row q1
  have hb3 := below_next hbw h23
  have hrf := row_below hb3 hob HO.out
  have hrm := row_below hb3 hmb HMO.out
  have hrq := row_below h23 hcl q1
  rw [HFV.out] at hrq
  have hN : GaN w2.heap.size (w.heap.size + 1) ob mb (w2.heap.size + 1) w3.heap.size := ⟨by omega, by omega, by omega, by omega, by omega⟩
  have hst := asf_start HI.out hbw h23 HO.out A' c' x.dig hs2 (ab := w2.heap.size + 1) (B0 := w3.heap.size) (by omega) (by omega)
  have hat : GaAt w2.heap.size (w.heap.size + 1) ob mb (w2.heap.size + 1) w3.heap.size A' c' x.dig most [] w3 := ⟨re, hrq, hrm, hst.pv, ⟨_, hrf, ⟨rfl, Or.inl ⟨rfl, rfl⟩⟩⟩, rf, Nat.le_refl _⟩
  have HC := Lib.hid (asfAll _ enters_ga _ _ _ GaAt.below (fun _ => True) (gaLive most) _ (gaLives x.dig most) (gaGathers _ _ _ _ _ _ hN A' c' x.dig most) g ⟨A', c', x.dig, ⟨#[]⟩, 0⟩ t [] w3 (HI.out.below hb3) hst (fun _ _ => trivial) hat ⟨h0, h1⟩)
  have e0 := cell_of_row' (cur := [_, _, _]) re 0
  have e1 := cell_of_row' (cur := [_, _, _]) re 1
  have e2 := cell_of_row' (cur := [_, _, _]) re 2
  have HB3 := Lib.hid hb3
  have HCL := Lib.hid hcl
  have HS3 := Lib.hid hsz3
  have hsz : w.heap.size ≤ w2.heap.size + 1 := by omega
  unfold ItD.item ItD.val at HC
  dsimp only at HC
  rw [HRR.out] at HC
  obtain ⟨B3, hB3⟩ : ∃ B3, B3 = w3.heap.size := ⟨_, rfl⟩
  rw [← hB3] at HC HS3
  have HB33 := Lib.hid hB3
  rw [hw3] at HC e0 e1 e2
  have HW3 := Lib.hid hw3
  clear hrow hs2 hbw h23 re rf hcl hst hat hb3 hw3 HD hb2 Q0 Q1 HS HB hg hsz3 q1 hrf hrm hrq hN hB3
  generalize x.dig.length = DL at *
  go_wp2_with fail
  go_region_with (go_at_call 69; (with_reducible refine HC.out.mono ?_); rw [← HW3.out]; rintro e w4 ⟨rfl, hf4, hk4⟩; have hany := hf4.any; rw [decide_eq_true hR0] at hany; have j4 := cell_of_row' (cur := [_]) hany 0; have HK := Lib.hid ((HB3.out.keep (S := fun k => k = ob)).trans2 hk4 (fun i h1 h2 => by rcases h2 with h | h | h; exact h; exact absurd h (by omega); exact absurd h (by have := HB33.out; have := HB3.out.size; omega))); have HO4 := Lib.hid hf4.out; clear hf4 hk4 hany)
  all_goals
    go_wp2
    go_ret
    refine ⟨rfl, ?_, HK.out⟩
    obtain ⟨v, h1, h2⟩ := HO4.out
    refine ⟨v, h1, h2.1, ?_⟩
    rcases h2.2 with h | ⟨g, cap, cur, e, hbg, h⟩
    · exact Or.inl h
    · exact Or.inr ⟨g, cap, cur, e, by have := HB33.out; have := HB3.out.size; omega, h⟩
end Go.Proofs.YthehmnpbepmnpaaGreatDoorR
/- Contracts: impl.found of no error; impl.IiAll of entries of which one has the digest. -/
namespace Go.Proofs.YthehmnpbepmnpaaGreatDoorR
open Go.RowKit

theorem insR_insB (x : Rc) : ∀ l : List Rc, insR x l = insB Rc.dig x l
  | [] => rfl
  | y :: l => by rw [insR, insB, insR_insB x l]
theorem recsOf_stb (es : List EntD) : recsOf es = stb Rc.dig (es.map EntD.rc) := by
  have h : ∀ (es : List EntD) (m : List Rc), es.foldl (fun l e => insR e.rc l) m = (es.map EntD.rc).foldl (fun m x => insB Rc.dig x m) m := by
    intro es
    induction es with
    | nil => intro m; rfl
    | cons e es ih => intro m; rw [List.foldl_cons, ih, List.map_cons, List.foldl_cons, insR_insB]
  exact h es []
/-- The offsets of a digest, in the entries' order. -/
def offsOf (es : List EntD) (u : List UInt8) : List Int := (es.filter (fun e => decide (e.cid.dig = u))).map (fun e => (e.off : Int))
theorem offs_scan {es : List EntD} {t : Tr ItD} (h : RelT es t) (u : List UInt8) (most : Nat) (hm : es.length ≤ most) : (scan (takeStep ItD.dig ItD.off u most) [] (t.asc (fun y => blt y.dig u))).2 = offsOf es u := by
  have e1 : (t.toList.filter (fun y => decide (ItD.dig y = u))).map ItD.off = offsOf es u := by
    have e2 : (t.toList.filter (fun y => decide (ItD.dig y = u))).map ItD.off = ((t.toList.map ItD.rc).filter (fun r => decide (r.dig = u))).map Rc.off := by
      rw [List.filter_map, List.map_map]
      rfl
    rw [e2, h.recs, recsOf_stb, stb_filter, List.filter_map, List.map_map]
    rfl
  have hl : (t.toList.filter (fun y => decide (ItD.dig y = u))).length ≤ most := by
    have := h.length
    have h2 := List.length_filter_le (fun y => decide (ItD.dig y = u)) t.toList
    omega
  have h1 : t.asc (fun y => blt y.dig u) = t.toList.filter (fun x => !blt x.dig u) := Tr.asc_eq ItD.dig u t h.sorted
  rw [h1, take_scan ItD.dig ItD.off u most _ [] (h.sorted.filter _) (fun x hx => by have := (List.mem_filter.1 hx).2; simpa using this) (by rw [filter_ge]; simpa using hl), filter_ge, e1]
  rfl

set_option maxRecDepth 100000 in
theorem found_nil (w : World) : Calls Tryz.prog 40 #[.nilIface] w fun e w' => e = .returned (.int .u8 0) ∧ w' = w := by
  go_enter Tryz.func40, Tryz.ntmps40
  go_wp2
  go_ret
  exact ⟨rfl, rfl⟩

set_option maxRecDepth 100000 in
set_option maxHeartbeats 8000000 in
theorem iiAll (v : Value) (es : List EntD) (c : CidD) (most : Nat) (w : World) (hv : ES w v es) (hg : ∀ e ∈ es, e.good) (hn : es.length ≤ 100) (hm : es.length ≤ most) (hm2 : most ≤ 1000) (hc : c.st) (hu : UvS w) (h0 : 0 < (offsOf es c.dig).length) :
    Calls Tryz.prog 13 #[v, cid4 c, .int .i64 most] w fun e w' => (∃ u, e = .returned (.tuple #[u, .int .u8 0]) ∧ w'.ownsRow w.heap.size 23 1 u (offsOf es c.dig).length ((offsOf es c.dig).map (fun x => .int .u64 x))) ∧ Below w.heap.size w w' := by
  obtain ⟨w0, hw0⟩ : ∃ w0, w0 = (w.alloc (.cells #[.int .u64 c.ver, .int .u64 c.codec, .int .u64 c.code, .string ⟨c.dig.toArray⟩] 25)).alloc (.cells #[.int .i64 most] 3) := ⟨_, rfl⟩
  have hA : Below w.heap.size w w0 := hw0 ▸ ((Below.refl _ w).alloc (Nat.le_refl _) _).alloc (by simp) _
  have r0 : w0.heap[w.heap.size]? = some (.cells #[.int .u64 c.ver, .int .u64 c.codec, .int .u64 c.code, .string ⟨c.dig.toArray⟩] 25 (0, 0)) := by rw [hw0]; exact row_alloc (heap_alloc_new w _) _
  have r1 : w0.heap[w.heap.size + 1]? = some (.cells #[.int .i64 most] 3 (0, 0)) := by
    rw [hw0]
    have := heap_alloc_new (w.alloc (.cells #[.int .u64 c.ver, .int .u64 c.codec, .int .u64 c.code, .string ⟨c.dig.toArray⟩] 25)) (.cells #[.int .i64 most] 3)
    rw [World.size_alloc] at this
    exact this
  have HI := Lib.hid (insertion_ok v es w0 (hv.below hA) hg hn (hu.below hA))
  have HX : Hid (∀ t, RelT es t → (scan (takeStep ItD.dig ItD.off c.dig most) [] (t.asc (fun y => blt y.dig c.dig))).2 = offsOf es c.dig) := Lib.hid fun t ht => offs_scan ht c.dig most hm
  have hmp : 0 < most := by
    have h2 := List.length_filter_le (fun e : EntD => decide (e.cid.dig = c.dig)) es
    unfold offsOf at h0
    rw [List.length_map] at h0
    omega
  have HMP := Lib.hid hmp
  have HM2 := Lib.hid hm2
  have H0 := Lib.hid h0
  have HU := Lib.hid hu
  have HA := Lib.hid hA
  have R0 := Lib.hid r0
  have R1 := Lib.hid r1
  have HCC := Lib.hid hc
  have hcs : (⟨c.dig.toArray⟩ : ByteArray).size ≤ 2147483600 := by show c.dig.toArray.size ≤ _; simp; have := hc.2.2; omega
  have HCS := Lib.hid hcs
  rw [hw0] at HI
  have HW0 := Lib.hid hw0
  clear hw0 hA r0 r1 hu hv hg hn hc hcs hm hm2 h0 hmp
  have hmf : ∀ (fn : Fn) (first cap : Array Value) (w : World), (Instr.makeFunc fn first cap).run Tryz.prog w = .ok (.func fn first cap) w := fun _ _ _ _ => rfl
  have HFN := fun W => Lib.hid (found_nil W)
  unfold cid4
  go_enter Tryz.func13, Tryz.ntmps13
  go_wp2_with fail
  refine HI.out.mono ?_
  rw [← HW0.out]
  rintro e w1 ⟨⟨t, rfl, hi, hrel⟩, hb1⟩
  have hb := below_next HA.out hb1
  have HCI := Lib.hid (cidIn_ok c HCC.out.1 ⟨c.dig.toArray⟩ rfl HCS.out w1 (HU.out.below hb))
  have q0 := row_below hb1 (block_of_row R0.out) R0.out
  have Q1 := Lib.hid (row_below hb1 (block_of_row R1.out) R1.out)
  have k0 := cell_of_row' (cur := [_, _, _, _]) q0 0
  have k1 := cell_of_row' (cur := [_, _, _, _]) q0 1
  have k2 := cell_of_row' (cur := [_, _, _, _]) q0 2
  have k3 := cell_of_row' (cur := [_, _, _, _]) q0 3
  have H1 := Lib.hid hi
  have HREL := Lib.hid hrel
  have HB := Lib.hid hb
  clear hi hrel hb hb1 q0 HI
  obtain ⟨g, hgg⟩ : ∃ g, g = w0.heap.size := ⟨_, rfl⟩
  rw [← hgg] at H1 ⊢
  clear hgg
  obtain ⟨us, hus⟩ : ∃ us : ByteArray, us = ⟨(cidEnc c).toArray⟩ := ⟨_, rfl⟩
  rw [← hus] at HCI
  have HUS : Hid (us = cidS c) := Lib.hid hus
  clear hus
  go_wp2_with fail
  refine HCI.out.mono ?_
  rintro e w2 ⟨rfl, hb2⟩
  obtain ⟨w3, hw3⟩ : ∃ w3, w3 = (w2.alloc (.cells #[.string us] 82)).alloc (.cells #[.slice none 0 0] 33) := ⟨_, rfl⟩
  have hb3 : Below w2.heap.size w2 w3 := hw3 ▸ ((Below.refl _ w2).alloc (Nat.le_refl _) _).alloc (by simp) _
  have hb12 := below_next hb2 hb3
  have hbw := below_next HB.out hb12
  have r3 : w3.heap[w2.heap.size]? = some (.cells #[.string us] 82 (0, 0)) := by rw [hw3]; exact row_alloc (heap_alloc_new w2 _) _
  have r4 : w3.heap[w2.heap.size + 1]? = some (ouO 33 (.slice none 0 0)) := by
    rw [hw3]
    have := heap_alloc_new (w2.alloc (.cells #[.string us] 82)) (.cells #[.slice none 0 0] 33)
    rw [World.size_alloc] at this
    exact this
  have q1 := row_below hb12 (block_of_row Q1.out) Q1.out
  have hlt : w.heap.size + 1 < w2.heap.size := block_of_row (row_below hb2 (block_of_row Q1.out) Q1.out)
  have HS : CidStr us c := HUS.out ▸ CidD.st.str HCC.out
  have HE := Lib.hid (getAll us c HS g t w3 (HU.out.below hbw) (H1.out.below hb12) (w2.heap.size + 1) (w.heap.size + 1) most r4 q1 (by omega) HMP.out HM2.out _ (HX.out t HREL.out) H0.out)
  have c3 := cell_of_row' (cur := [_]) r3 0
  have HBW := Lib.hid hbw
  have HS3 : Hid (w.heap.size < w2.heap.size + 1) := Lib.hid (by omega)
  rw [hw3] at HE c3
  have HW3 := Lib.hid hw3
  clear hw3 hb3 hb12 hbw r3 r4 q1 hlt HS hb2 HCI k0 k1 k2 k3
  go_wp2_with fail
  refine HE.out.mono ?_
  rw [← HW3.out]
  rintro e w4 ⟨rfl, ⟨u, hu1, hu2⟩, hk⟩
  have c4 := cell_of_row' (cur := [_]) hu1 0
  have HF := Lib.hid (HBW.out.trans (hk.below (fun k h1 h2 => by have := HS3.out; omega) HBW.out.size))
  have hown : w4.ownsRow w.heap.size 23 1 u (offsOf es c.dig).length ((offsOf es c.dig).map (fun x => .int .u64 x)) := by
    refine ⟨hu2.1, ?_⟩
    rcases hu2.2 with h | ⟨g, cap, cur, e, hbg, h⟩
    · exact Or.inl h
    · exact Or.inr ⟨g, cap, cur, e, Nat.le_trans HBW.out.size hbg, h⟩
  have HOW := Lib.hid hown
  clear hu1 hu2 hk hown HE c3
  go_wp2_with fail
  go_region_with (go_at_call 40; refine (HFN _).out.mono ?_; rintro e w5 ⟨rfl, rfl⟩)
  all_goals
    go_wp2
    go_ret2
    exact ⟨⟨u, rfl, HOW.out⟩, HF.out.drewN _⟩
end Go.Proofs.YthehmnpbepmnpaaGreatDoorR
/- Contract: (*LLRB).Min of a tree that is not empty. -/
namespace Go.Proofs.YthehmnpbepmnpaaGreatDoorR
open Go.RowKit

/-- s is t, or one comes to it going to the left. -/
inductive Lft {α : Type} : Tr α → Tr α → Prop
  | here (t : Tr α) : Lft t t
  | left {p : Nat} {l : Tr α} {x : α} {r : Tr α} {b : Bool} {s : Tr α} (h : Lft l s) : Lft (.node p l x r b) s
theorem Lft.step {α : Type} {p : Nat} {l : Tr α} {x : α} {r : Tr α} {b : Bool} : ∀ {t : Tr α}, Lft t (.node p l x r b) → Lft t l
  | _, .here _ => .left (.here l)
  | _, .left h => .left h.step
theorem Lft.mem {α : Type} {p : Nat} {l : Tr α} {x : α} {r : Tr α} {b : Bool} : ∀ {t : Tr α}, Lft t (.node p l x r b) → p ∈ t.blocks
  | _, .here _ => by simp [Tr.blocks]
  | .node q l' x' r' b', .left h => by simp [Tr.blocks, h.mem]
theorem Lft.at_ {α : Type} {it : α → Value} {w : World} {s : Tr α} : ∀ {t : Tr α}, Lft t s → t.At it w → s.At it w
  | _, .here _, h => h
  | .node _ _ _ _ _, .left h, ha => h.at_ ha.2.1
theorem Lft.head {α : Type} {s : Tr α} : ∀ {t : Tr α}, Lft t s → s ≠ .nil → t.toList.head? = s.toList.head?
  | _, .here _, _ => rfl
  | .node p l x r b, .left h, hs => by
    have ih := h.head hs
    cases s with
    | nil => exact absurd rfl hs
    | node q l2 y r2 b2 =>
      show (l.toList ++ x :: r.toList).head? = _
      cases hl : l.toList with
      | nil =>
        rw [hl] at ih
        simp [Tr.toList] at ih
      | cons z m =>
        rw [hl] at ih
        rw [← ih]
        rfl
/-- How far it is to the left end. -/
theorem lft_rank {α : Type} : ∀ t : Tr α, t.blocks.Nodup → ∃ rk : Nat → Nat, (∀ p, rk p ≤ t.toList.length) ∧ ∀ p l x r b, Lft t (.node p l x r b) → ∀ q l' x' r' b', l = .node q l' x' r' b' → rk q < rk p
  | .nil, _ => ⟨fun _ => 0, fun _ => Nat.le_refl _, fun p l x r b h => by cases h⟩
  | .node p0 l0 x0 r0 b0, hn => by
    have hb : (Tr.node p0 l0 x0 r0 b0).blocks = p0 :: (l0.blocks ++ r0.blocks) := by simp [Tr.blocks]
    rw [hb, List.nodup_cons] at hn
    obtain ⟨rk, h1, h2⟩ := lft_rank l0 (List.nodup_append.1 hn.2).1
    have hp : p0 ∉ l0.blocks := fun h => hn.1 (List.mem_append_left _ h)
    refine ⟨fun k => if k = p0 then l0.toList.length + 1 else rk k, fun p => ?_, fun p l x r b h q l' x' r' b' e => ?_⟩
    · have hl : (Tr.node p0 l0 x0 r0 b0).toList.length = l0.toList.length + (r0.toList.length + 1) := by simp [Tr.toList]
      show (if p = p0 then l0.toList.length + 1 else rk p) ≤ _
      have := h1 p
      split <;> omega
    · show (if q = p0 then l0.toList.length + 1 else rk q) < (if p = p0 then l0.toList.length + 1 else rk p)
      subst e
      cases h with
      | here =>
        have hq : q ≠ p0 := fun e => hp (by rw [← e]; simp [Tr.blocks])
        rw [if_pos rfl, if_neg hq]
        have := h1 q
        omega
      | left h =>
        have hq : q ≠ p0 := fun e => hp (by rw [← e]; exact h.step.mem)
        have hp2 : p ≠ p0 := fun e => hp (by rw [← e]; exact h.mem)
        rw [if_neg hq, if_neg hp2]
        exact h2 p _ x r b h q l' x' r' b' rfl
def rkv (rk : Nat → Nat) : Value → Nat
  | .pointer (some a) => rk a.block
  | _ => 0

set_option maxRecDepth 100000 in
set_option maxHeartbeats 4000000 in
theorem min_any (g : Nat) (t : Tr ItD) (W : World) (hi : IdxAt W g t) (x : ItD) (hx : t.toList.head? = some x) :
    Calls Tryz.prog 70 #[.pointer (some ⟨g, 0, none⟩)] W fun e w' => e = .returned x.item ∧ w' = W := by
  obtain ⟨rk, _, hrk⟩ := lft_rank t hi.nodup
  have k1 : W.cell? ⟨g, 1, none⟩ = some (.pointer t.addr) := cell_of_row' (cur := [_, _]) hi.row 1
  have HRK := Lib.hid hrk
  have HX := Lib.hid hx
  have HA := Lib.hid hi.at_
  cases t with
  | nil => simp [Tr.toList] at hx
  | node p0 l0 x0 r0 b0 =>
    clear hi hrk hx
    have k1' : W.cell? ⟨g, 1, none⟩ = some (.pointer (some ⟨p0, 0, none⟩)) := k1
    clear k1
    go_enter Tryz.func70, Tryz.ntmps70
    go_wp2
    go_loopw [3] (fun v wr => wr = W ∧ ∃ p l y r b, v = .pointer (some ⟨p, 0, none⟩) ∧ Lft (.node p0 l0 x0 r0 b0) (.node p l y r b)) (fun v _ => rkv rk v)
    case atStart => exact ⟨rfl, p0, l0, x0, r0, b0, rfl, .here _⟩
    case round =>
      obtain ⟨rfl, p, l, y, r, b, rfl, hL⟩ := hrel
      obtain ⟨⟨p0', p1, _, _⟩, _⟩ := node_cells (hL.at_ HA.out).1
      have HL := Lib.hid hL
      clear hL
      cases l with
      | nil =>
        have p1' : wr.cell? ⟨p, 1, none⟩ = some (.pointer none) := p1
        clear p1
        go_wp2
        go_ret
        refine ⟨?_, rfl⟩
        have h := HL.out.head (fun e => by cases e)
        rw [HX.out] at h
        have h2 : (Tr.node p Tr.nil y r b).toList.head? = some y := by simp [Tr.toList]
        rw [h2] at h
        injection h with h
        rw [h]
        rfl
      | node q l2 y2 r2 b2 =>
        have p1' : wr.cell? ⟨p, 1, none⟩ = some (.pointer (some ⟨q, 0, none⟩)) := p1
        clear p1
        go_wp2
        go_roundw
        case rel => exact ⟨trivial, q, l2, y2, r2, b2, rfl, HL.out.step⟩
        case measure => exact HRK.out p _ y r b HL.out q l2 y2 r2 b2 rfl
end Go.Proofs.YthehmnpbepmnpaaGreatDoorR
/- Contract: the function of IiEach: an entry appended. -/
namespace Go.Proofs.YthehmnpbepmnpaaGreatDoorR
open Go.RowKit

/-- The variables of package varint are off these blocks. -/
structure UvOff (S : Nat → Prop) : Prop where
  a : ¬ S 4
  b : ¬ S 5
  c : ¬ S 6
theorem UvS.keepS {S : Nat → Prop} {W W' : World} (h : UvS W) (hS : UvOff S) (hk : Keep S W W') : UvS W' := by
  obtain ⟨T, ⟨p1, h1⟩, ⟨p2, h2⟩, ⟨p3, h3⟩⟩ := h.T
  exact ⟨T, ⟨p1, hk.cell h1 hS.a⟩, ⟨p2, hk.cell h2 hS.b⟩, ⟨p3, hk.cell h3 hS.c⟩⟩

theorem stepEach {ops : Array Oper} {o : Oper} {a : Act} {w : World} {K : Act → World → Prop} {Q : Exit → Act → World → Prop} {E : Prop} (hgd : o.guard = none)
    (ho : o.op = .call { callee := .builtin .append, args := #[.tmp 6, .tmp 11], argTypes := #[22, 22] })
    {w1 : World} (hb : Below w1.heap.size w1 w) (ob B0 : Nat) (hob : ob < B0) (hB : B0 ≤ w1.heap.size) (v : Value) (es : List EntD) (hs : a.eval (.tmp 6) = v) (hown : w1.ownsRow B0 29 5 v es.length (cellsES es)) (ho1 : w1.heap[ob]? = some (ouO 22 v))
    (g : Nat) (hx : a.eval (.tmp 11) = .slice (some ⟨g, 0, none⟩) 1 1) (z : EntD) (hg : w.heap[g]? = some (entB z)) (hn : es.length ≤ 200)
    (h : ∀ A c w', Hid (w'.heap[ob]? = some (ouO 22 v)) → w'.cell? ⟨ob, 0, none⟩ = some v → w'.frozen? ⟨ob, 0, none⟩ = false → Hid (w'.ownsRow B0 29 5 (.slice A (es.length + 1) c) (es.length + 1) (cellsES (es ++ [z]))) → Hid (Keep (fun k => B0 ≤ k) w1 w') → K (a.put o.dst (.slice A (es.length + 1) c)) w') :
    if Region.wanted o (yielded ops a.tmps) = true then Oper.wp Tryz.prog o a w K Q else E := by
  have hownw := own_below hown hb
  refine step_append_es hgd (.tmp 6) (.tmp 11) ho B0 v es.length (cellsES es) hs hownw (some ⟨g, 0, none⟩) 1 1 (cellsE z) hx (by rfl) ?_ (oneCell_E _) (by omega) (Nat.le_trans hB hb.size) ?_
  · intro _
    exact ⟨_, rfl, World.news_of_block hg⟩
  · intro v' w' hown' hgrow _
    have hb6 : Below B0 w1 w' := (hb.mono hB).grown hgrow (Nat.le_trans hB hb.size) (fun q hq => (hownw.lt q hq).1)
    have hr := row_below hb6 hob ho1
    rw [← cellsES_snoc] at hown'
    obtain ⟨A, c, rfl⟩ : ∃ A c, v' = .slice A (es.length + 1) c := by
      rcases hown'.2 with ⟨_, h0⟩ | ⟨g, cap, cur, e, _⟩
      · omega
      · exact ⟨_, cap, e⟩
    exact h A c w' (Lib.hid hr) (cell_of_row' (cur := [_]) hr 0) (frozen_of_row' (cur := [_]) hr 0) (Lib.hid hown') (Lib.hid (keep_of_below hb6))
theorem below_any {a w w' : World} (h : Below a.heap.size a w) (k : Below w.heap.size w w') : Below a.heap.size a w' := below_next h k

set_option maxRecDepth 100000 in
set_option maxHeartbeats 4000000 in
theorem eachOne (us : ByteArray) (x : CidD) (hx : CidStr us x) (off : Nat) (ob B0 : Nat) (v : Value) (es : List EntD) (W : World) (h1 : W.heap[ob]? = some (ouO 22 v)) (h2 : W.ownsRow B0 29 5 v es.length (cellsES es)) (hob : ob < B0) (hB : B0 ≤ W.heap.size) (hn : es.length ≤ 200) (hu : UvS W) :
    Calls Tryz.prog 35 #[.agg #[.string us], .int .u64 off, .pointer (some ⟨ob, 0, none⟩)] W fun e w' =>
      ∃ v', e = .returned .nilIface ∧ w'.heap[ob]? = some (ouO 22 v') ∧ w'.ownsRow B0 29 5 v' (es.length + 1) (cellsES (es ++ [⟨x, off⟩])) ∧ Keep (fun k => k = ob ∨ B0 ≤ k) W w' := by
  obtain ⟨i0, hi, hz0, hz1, hz2⟩ := info_ent
  have hA : Below W.heap.size W (W.alloc (.cells #[.string us] 82)) := (Below.refl _ W).alloc (Nat.le_refl _) _
  have r0 := heap_alloc_new W (.cells #[.string us] 82)
  obtain ⟨w1, hw1⟩ : ∃ w1, w1 = W.alloc (.cells #[.string us] 82) := ⟨_, rfl⟩
  have hA1 : Below W.heap.size W w1 := hw1 ▸ hA
  have r1 : w1.heap[W.heap.size]? = some (.cells #[.string us] 82 (0, 0)) := by rw [hw1]; exact r0
  have ho1 := row_below hA1 (block_of_row h1) h1
  have HO1 := Lib.hid ho1
  have HOW := Lib.hid (own_below h2 hA1)
  have c0 : w1.cell? ⟨W.heap.size, 0, none⟩ = some (.string us) := cell_of_row' (cur := [_]) r1 0
  have d0 : w1.cell? ⟨ob, 0, none⟩ = some v := cell_of_row' (cur := [_]) ho1 0
  have HC0 := Lib.hid c0
  have HD0 := Lib.hid d0
  have HCO := fun W' (h : Below w1.heap.size w1 W') => Lib.hid (cidOut_ok us x hx W' (hu.below (below_next hA1 h)))
  have HA := Lib.hid hA1
  have HW1 := Lib.hid hw1
  clear hA r0 hA1 r1 ho1 h1 h2 hx hu hw1
  go_enter Tryz.func35, Tryz.ntmps35
  go_wp2_with fail
  rw [← HW1.out]
  have a0 : ∀ o, (w1.alloc o).cell? ⟨ob, 0, none⟩ = some v := fun o => below_cell ((Below.refl _ w1).alloc (Nat.le_refl _) o) HD0.out
  go_region_law (first
      | (refine stepEach (by rfl) (by rfl) (w1 := w1) (by repeat (first | assumption | exact Below.refl _ _ | apply Below.drew | apply bel_alloc)) ob B0 hob (Nat.le_trans hB HA.out.size) v es (by rfl) HOW.out HO1.out _ (by rfl) ⟨x, off⟩ (heap_alloc_new _ _) hn ?_
         intro A' c' w6 hr6 m0 m1 hown6 hk6)
      | (rw [if_pos (by rfl)]
         go_simp
         go_at_call 36
         refine (HCO _ (by repeat (first | assumption | exact Below.refl _ _ | apply Below.drew | apply bel_alloc))).out.mono ?_
         rintro e w2 ⟨rfl, hb2'⟩
         have hb2 := below_any (a := w1) (by repeat (first | assumption | exact Below.refl _ _ | apply Below.drew | apply bel_alloc)) hb2'
         have q0 := below_cell hb2 HD0.out
         have q1 : ∀ o, (w2.alloc o).cell? ⟨ob, 0, none⟩ = some v := fun o => below_cell (bel_alloc hb2 o) HD0.out))
  all_goals
    have HSET : Hid ((w6.setCell ⟨ob, 0, none⟩ (.slice A' (es.length + 1) c')).heap[ob]? = some (ouO 22 (.slice A' (es.length + 1) c'))) := Lib.hid (Lib.heap_setCell_same (i := 0) hr6.out _)
    have HOW6 := Lib.hid (own_keep (w' := w6.setCell ⟨ob, 0, none⟩ (.slice A' (es.length + 1) c')) hown6.out (fun g o hg h => (Below.heap_setCell _ _ _ _ (show g ≠ ob by omega)).trans h))
    have HK := Lib.hid ((HA.out.keep (S := fun k => k = ob ∨ B0 ≤ k)).trans ((hk6.out.mono (T := fun k => k = ob ∨ B0 ≤ k) (fun _ _ h => Or.inr h)).setCell (p := ob) (Or.inl rfl) 0 (.slice A' (es.length + 1) c')))
    clear hb2' q0 q1 m0 m1 c0 d0 a0 hb2
    go_wp2
    go_ret
    exact ⟨_, rfl, HSET.out, HOW6.out, HK.out⟩

theorem field_rec (a b c : Value) (W : World) : (Instr.field 154 (.agg #[a, b, c]) 1).run Tryz.prog W = .ok (.agg #[b, c]) W := by kernel_rfl
theorem enters_e1 : ∀ args w, (callFunc 35 args).run Tryz.prog w = .ok (.enter 35 args) w := enters_of Tryz.func35 (by kernel_rfl) rfl
theorem enters_fe : ∀ args w, (callFunc 71 args).run Tryz.prog w = .ok (.enter 71 args) w := enters_of Tryz.func71 (by kernel_rfl) rfl

/-- The places that ForEachCid's function asks: the function, the error, the entries. -/
structure FeN (fnb eb ob B0 : Nat) : Prop where
  f : fnb < B0 ∧ fnb ≠ ob ∧ fnb ≠ eb
  e : eb < B0 ∧ eb ≠ ob
  o : ob < B0
  uv : UvOff (GaS ob eb B0)
structure FeAt (fnb eb ob B0 : Nat) (s : List ItD) (W : World) : Prop where
  fn : W.heap[fnb]? = some (.cells #[.func (.func 35) #[] #[.pointer (some ⟨ob, 0, none⟩)]] 84 (0, 0))
  err : W.heap[eb]? = some (.cells #[.nilIface] 79 (0, 0))
  out : ∃ (v : Value) (es : List EntD), W.heap[ob]? = some (ouO 22 v) ∧ W.ownsRow B0 29 5 v es.length (cellsES es) ∧ es.map EntD.rc = s.map ItD.rc ∧ ∀ e ∈ es, e.good
  uv : UvS W
  size : B0 ≤ W.heap.size
theorem FeAt.below {fnb eb ob B0 : Nat} (s : List ItD) (W W' : World) (h : FeAt fnb eb ob B0 s W) (hb : Below W.heap.size W W') : FeAt fnb eb ob B0 s W' :=
  ⟨row_below hb (block_of_row h.fn) h.fn, row_below hb (block_of_row h.err) h.err, by
    obtain ⟨v, es, h1, h2, h3⟩ := h.out
    exact ⟨v, es, row_below hb (block_of_row h1) h1, own_below h2 hb, h3⟩, h.uv.below hb, Nat.le_trans h.size hb.size⟩
def feStep (s : List ItD) (x : ItD) : Bool × List ItD := (true, s ++ [x])
def feLive (s : List ItD) (k : Nat) : Prop := s.length + k ≤ 200
theorem feLives : Lives feLive feStep :=
  ⟨fun s k j h => by unfold feLive at *; omega, fun s x k h _ => by unfold feLive feStep at *; rw [List.length_append, List.length_singleton]; omega⟩
theorem fe_scan : ∀ (l s : List ItD), scan feStep s l = (true, s ++ l)
  | [], s => by simp [scan]
  | x :: l, s => by
    rw [scan, show feStep s x = (true, s ++ [x]) from rfl, if_pos rfl, fe_scan l]
    simp

set_option maxRecDepth 100000 in
set_option maxHeartbeats 4000000 in
theorem feGathers (fnb eb ob B0 : Nat) (N : FeN fnb eb ob B0) :
    Gathers 71 #[.pointer (some ⟨fnb, 0, none⟩), .pointer (some ⟨eb, 0, none⟩)] (GaS ob eb B0) (FeAt fnb eb ob B0) (fun x => ∃ e : EntD, e.good ∧ e.rc = x.rc) feLive feStep := by
  rintro ⟨B, d, dg, us, off⟩ s W ⟨z, hz, hrc⟩ hlv hE hin
  have hus : us = cidS z.cid := by
    have := congrArg Rc.us hrc
    exact this.symm
  have hof : off = (z.off : Int) := by
    have := congrArg Rc.off hrc
    exact this.symm
  have hcs : CidStr us z.cid := hus ▸ CidD.st.str hz
  obtain ⟨w1, hw1⟩ : ∃ w1, w1 = W.alloc (.cells #[.string us, .int .u64 off] 152) := ⟨_, rfl⟩
  have hb : Below W.heap.size W w1 := hw1 ▸ (Below.refl _ W).alloc (Nat.le_refl _) _
  have hE1 := FeAt.below _ _ _ hE hb
  have hra := heap_alloc_new W (.cells #[.string us, .int .u64 off] 152)
  rw [← hw1] at hra
  obtain ⟨v, es, ho1, ho2, ho3, ho4⟩ := hE1.out
  have hlen : es.length = s.length := by
    have := congrArg List.length ho3
    simpa using this
  have hl200 : es.length ≤ 200 := by unfold feLive at hlv; omega
  have HC := Lib.hid (eachOne us z.cid hcs z.off ob B0 v es w1 ho1 ho2 N.o hE1.size hl200 hE1.uv)
  rw [← hof] at HC
  have g0 := cell_of_row' (cur := [_]) hE1.fn 0
  have i0 := cell_of_row' (cur := [_, _]) hra 0
  have i1 := cell_of_row' (cur := [_, _]) hra 1
  have f0 := frozen_of_row' (cur := [_]) hE1.err 0
  have hta := fun v W => assert_one v W
  have eA := enters_e1
  have hfd := fun a b c W => field_rec a b c W
  have HKB := Lib.hid (hb.keep (S := GaS ob eb B0))
  have HE1 := Lib.hid hE1
  have HN := Lib.hid N
  have HO3 := Lib.hid ho3
  have HO4 := Lib.hid ho4
  have HZ := Lib.hid hz
  have HRC := Lib.hid hrc
  rw [hw1] at HC g0 i0 i1 f0
  have HW1 := Lib.hid hw1
  clear hin hE hw1 hra hE1 hlv N hb ho1 ho2 ho3 ho4 hz hrc hcs hus hof hlen
  show Calls Tryz.prog _ #[.iface 154 (.agg #[.slice B dg.length d, .string us, .int .u64 off]), _, _] W _
  unfold feStep
  generalize dg.length = n at *
  go_enter Tryz.func71, Tryz.ntmps71
  go_wp2_with (go_at_fn 35; refine HC.out.mono ?_; rw [← HW1.out]; rintro e w4 ⟨v', rfl, h5, h6, h7⟩; have he4 := h7.row HE1.out.err (fun h => by have := HN.out.e; omega); have j4 := cell_of_row' (cur := [_]) he4 0; have f4 := frozen_of_row' (cur := [_]) he4 0; have hs4 : (w4.setCell ⟨eb, 0, none⟩ .nilIface).heap[eb]? = some (.cells #[.nilIface] 79 (0, 0)) := Lib.heap_setCell_same (i := 0) he4 _; have l4 := cell_of_row' (cur := [_]) hs4 0; have H5 := Lib.hid h5; have H6 := Lib.hid h6; have H7 := Lib.hid h7; have HS4 := Lib.hid hs4; clear h5 h6 h7 he4 hs4 g0 i0 i1 f0 HC)
  go_ret
  have hoth : ∀ k, k ≠ eb → (w4.setCell ⟨eb, 0, none⟩ .nilIface).heap[k]? = w4.heap[k]? := fun k hk => Below.heap_setCell _ _ _ _ hk
  have hk2 : Keep (GaS ob eb B0) w1 (w4.setCell ⟨eb, 0, none⟩ .nilIface) := (H7.out.mono (T := GaS ob eb B0) (fun k _ h => by
      rcases h with h | h
      · exact Or.inl h
      · exact Or.inr (Or.inr h))).setCell (p := eb) (Or.inr (Or.inl rfl)) 0 .nilIface
  refine ⟨rfl, ⟨(hoth fnb HN.out.f.2.2).trans (H7.out.row HE1.out.fn (fun h => by have := HN.out.f; omega)), HS4.out, ⟨v', es ++ [⟨z.cid, z.off⟩], (hoth ob (fun h => HN.out.e.2 h.symm)).trans H5.out, ?_, ?_, ?_⟩, HE1.out.uv.keepS HN.out.uv hk2, Nat.le_trans HE1.out.size hk2.size⟩, HKB.out.trans hk2⟩
  · rw [List.length_append, List.length_singleton]
    exact own_keep H6.out (fun g o hg h => (hoth g (fun e => by have := HN.out.e.1; omega)).trans h)
  · rw [List.map_append, List.map_append, HO3.out]
    show _ ++ [z.rc] = _
    rw [HRC.out]
    rfl
  · intro e he
    rcases List.mem_append.1 he with h | h
    · exact HO4.out e h
    · obtain rfl : e = ⟨z.cid, z.off⟩ := by simpa using h
      exact HZ.out
end Go.Proofs.YthehmnpbepmnpaaGreatDoorR
/- Contracts: (*InsertionIndex).ForEachCid, impl.IiEach. -/
namespace Go.Proofs.YthehmnpbepmnpaaGreatDoorR
open Go.RowKit

theorem uv_off {w : World} (h : UvS w) {ob eb B0 : Nat} {t : TypeId} {A : Option Addr} {n c : Nat} (ho : w.heap[ob]? = some (ouO t (.slice A n c))) (he : w.heap.size ≤ eb) (hB : w.heap.size ≤ B0) : UvOff (GaS ob eb B0) := by
  obtain ⟨T, ⟨p1, h1⟩, ⟨p2, h2⟩, ⟨p3, h3⟩⟩ := h.T
  have key : ∀ (g : Nat) (T : TypeId) (p : Value), w.cell? ⟨g, 0, none⟩ = some (.iface T p) → ¬ GaS ob eb B0 g := fun g T p hc hS => by
    have hlt := block_of_cell hc
    have e : (⟨g, 0, none⟩ : Addr).block = g := rfl
    rcases hS with h | h | h
    · rw [h, cell_of_row' (cur := [_]) ho] at hc
      simp at hc
    · omega
    · omega
  exact ⟨key _ _ _ h1, key _ _ _ h2, key _ _ _ h3⟩
/-- From its first item on: the whole tree. -/
theorem asc_all {t : Tr ItD} (hs : Tr.Sorted ItD.dig t.toList) {x : ItD} (hx : t.toList.head? = some x) : t.asc (fun y => blt y.dig x.dig) = t.toList := by
  have h1 : t.asc (fun y => blt y.dig x.dig) = t.toList.filter (fun y => !blt y.dig x.dig) := Tr.asc_eq ItD.dig x.dig t hs
  rw [h1, List.filter_eq_self]
  intro y hy
  cases hl : t.toList with
  | nil => rw [hl] at hx; simp at hx
  | cons z l =>
    rw [hl] at hx hy hs
    obtain rfl : z = x := by simpa using hx
    rcases List.mem_cons.1 hy with rfl | hy
    · rw [blt_irrefl]; rfl
    · have := (List.pairwise_cons.1 hs).1 y hy
      have h2 : blt y.dig z.dig = false := this
      rw [h2]; rfl

set_option maxRecDepth 100000 in
set_option maxHeartbeats 4000000 in
theorem forEachCid (g : Nat) (t : Tr ItD) (es0 : List EntD) (hr : RelT es0 t) (w : World) (hu : UvS w) (hi : IdxAt w g t) (ob : Nat) (ho : w.heap[ob]? = some (ouO 22 (.slice none 0 0))) (hg : ∀ e ∈ es0, e.good) (hn : es0.length ≤ 200) (h0 : 0 < es0.length) :
    Calls Tryz.prog 34 #[.pointer (some ⟨g, 0, none⟩), .func (.func 35) #[] #[.pointer (some ⟨ob, 0, none⟩)]] w fun e w' => e = .returned .nilIface ∧ (∃ (v : Value) (es : List EntD), w'.heap[ob]? = some (ouO 22 v) ∧ w'.ownsRow w.heap.size 29 5 v es.length (cellsES es) ∧ es.map EntD.rc = recsOf es0 ∧ ∀ e ∈ es, e.good) ∧ Keep (fun k => k = ob) w w' := by
  obtain ⟨FV, hFV⟩ : ∃ FV : Value, FV = .func (.func 35) #[] #[.pointer (some ⟨ob, 0, none⟩)] := ⟨_, rfl⟩
  rw [← hFV]
  have htl := hr.length
  obtain ⟨x, hx⟩ : ∃ x, t.toList.head? = some x := by
    cases hl : t.toList with
    | nil => rw [hl] at htl; simp at htl; omega
    | cons x l => exact ⟨x, rfl⟩
  have hxm : x ∈ t.toList := by
    cases hl : t.toList with
    | nil => rw [hl] at hx; simp at hx
    | cons z l =>
      rw [hl] at hx
      obtain rfl : z = x := by simpa using hx
      simp
  have hPz : ∀ y ∈ t.toList, ∃ e : EntD, e.good ∧ e.rc = y.rc := fun y hy => by
    have hm : y.rc ∈ recsOf es0 := by rw [← hr.recs]; exact List.mem_map.2 ⟨y, hy, rfl⟩
    obtain ⟨e, he, h4⟩ := (mem_recsOf es0).1 hm
    exact ⟨e, hg e he, h4⟩
  obtain ⟨w3, hw3⟩ : ∃ w3, w3 = ((w.alloc (.cells #[FV] 84)).alloc (.cells #[.nilIface] 79)).drew := ⟨_, rfl⟩
  have hA : Below w.heap.size w w3 := hw3 ▸ (((Below.refl _ w).alloc (Nat.le_refl _) _).alloc (by simp) _).trans (below_drewN _ _ 1)
  have hsz3 : w3.heap.size = w.heap.size + 2 := by rw [hw3]; simp [World.alloc, World.drew, -World.alloc_eq, -World.drew_eq]
  have r0 : w3.heap[w.heap.size]? = some (.cells #[FV] 84 (0, 0)) := by rw [hw3]; exact row_alloc (heap_alloc_new w _) _
  have r1 : w3.heap[w.heap.size + 1]? = some (.cells #[.nilIface] 79 (0, 0)) := by
    rw [hw3]
    have := heap_alloc_new (w.alloc (.cells #[FV] 84)) (.cells #[.nilIface] 79)
    rw [World.size_alloc] at this
    exact this
  have hob := block_of_row ho
  have hro := row_below hA hob ho
  rw [hFV] at r0
  have hoff := uv_off hu ho (eb := w.heap.size + 1) (B0 := w3.heap.size) (by omega) (by omega)
  have hN : FeN w.heap.size (w.heap.size + 1) ob w3.heap.size := ⟨by omega, by omega, by omega, hoff⟩
  have hst : AsfAt (GaS ob (w.heap.size + 1) w3.heap.size) t x w3 := ⟨(hi.below hA).at_, fun y hy => (inO_of (hi.in_ y hy) (noByte_ou ho) (by omega) (by omega)).keep hA.keep, (inO_of (hi.in_ x hxm) (noByte_ou ho) (by omega) (by omega)).keep hA.keep, fun p hp h => by
    have h1 := hi.at_.lt p hp
    rcases h with h | h | h
    · exact off_tree hi.at_ ho (h ▸ hp)
    · omega
    · omega⟩
  have hat : FeAt w.heap.size (w.heap.size + 1) ob w3.heap.size [] w3 := ⟨r0, r1, ⟨_, [], hro, ⟨rfl, Or.inl ⟨rfl, rfl⟩⟩, rfl, fun e he => by simp at he⟩, hu.below hA, Nat.le_refl _⟩
  have HMIN := Lib.hid (min_any g t w3 (hi.below hA) x hx)
  have HC := Lib.hid (asfAll _ enters_fe _ _ _ FeAt.below _ feLive _ feLives (feGathers _ _ _ _ hN) g x t [] w3 (hi.below hA) hst hPz hat (by
    rw [asc_all hr.sorted hx, htl]
    show 0 + _ ≤ 200
    omega))
  rw [asc_all hr.sorted hx, fe_scan, List.nil_append] at HC
  have HRL := Lib.hid hr.recs
  have HA := Lib.hid hA
  have HS3 := Lib.hid hsz3
  have HFV := Lib.hid hFV
  have hmf : ∀ (fn : Fn) (first cap : Array Value) (w : World), (Instr.makeFunc fn first cap).run Tryz.prog w = .ok (.func fn first cap) w := fun _ _ _ _ => rfl
  unfold ItD.item at HC HMIN
  generalize x.val = xv at *
  obtain ⟨B3, hB3⟩ : ∃ B3, B3 = w3.heap.size := ⟨_, rfl⟩
  rw [← hB3] at HC HS3
  have HB33 := Lib.hid hB3
  rw [hw3] at HC HMIN
  have HW3 := Lib.hid hw3
  clear hx hxm hPz htl hr hA hsz3 r0 r1 hob hro hoff hN hst hat hi hu ho hg hn h0 hFV hw3 hB3
  go_enter Tryz.func34, Tryz.ntmps34
  go_wp2_with fail
  go_region_with (first
    | (go_at_call 70; (with_reducible refine HMIN.out.mono ?_); rintro e w4 ⟨rfl, rfl⟩)
    | (go_at_call 69; (with_reducible refine HC.out.mono ?_); rw [← HW3.out]; rintro e w4 ⟨rfl, hf4, hk4⟩; have j4 := cell_of_row' (cur := [_]) hf4.err 0; have HK := Lib.hid ((HA.out.keep (S := fun k => k = ob)).trans2 hk4 (fun i h1 h2 => by rcases h2 with h | h | h; exact h; exact absurd h (by omega); exact absurd h (by have := HS3.out; omega))); have HO4 := Lib.hid hf4.out; clear hf4 hk4))
  all_goals
    go_wp2
    go_ret
    refine ⟨rfl, ?_, HK.out⟩
    obtain ⟨v, es, h1, h2, h3, h4⟩ := HO4.out
    refine ⟨v, es, h1, ⟨h2.1, ?_⟩, h3.trans HRL.out, h4⟩
    rcases h2.2 with h | ⟨g, cap, cur, e, hbg, h⟩
    · exact Or.inl h
    · exact Or.inr ⟨g, cap, cur, e, by have := HS3.out; omega, h⟩

/-- Entries in the order of their digests, those of one digest as they came. -/
def sortE (es : List EntD) : List EntD := stb (fun e => e.cid.dig) es
theorem rc_inj {a b : EntD} (ha : a.good) (hb : b.good) (h : a.rc = b.rc) : a = b := by
  have h1 : cidS a.cid = cidS b.cid := congrArg Rc.us h
  have h2 : (a.off : Int) = b.off := congrArg Rc.off h
  have h3 := (cidS_inj (a := a.cid) (b := b.cid) ha hb).1 h1
  obtain ⟨c, o⟩ := a
  obtain ⟨c', o'⟩ := b
  have h4 : o = o' := by have : (o : Int) = o' := h2; omega
  have h5 : c = c' := h3
  rw [h4, h5]
theorem map_rc_inj : ∀ {l m : List EntD}, (∀ e ∈ l, e.good) → (∀ e ∈ m, e.good) → l.map EntD.rc = m.map EntD.rc → l = m
  | [], [], _, _, _ => rfl
  | [], _ :: _, _, _, h => by simp at h
  | _ :: _, [], _, _, h => by simp at h
  | a :: l, b :: m, h1, h2, h => by
    rw [List.map_cons, List.map_cons] at h
    injection h with h3 h4
    rw [rc_inj (h1 a (by simp)) (h2 b (by simp)) h3, map_rc_inj (fun e he => h1 e (by simp [he])) (fun e he => h2 e (by simp [he])) h4]
theorem sortE_of_rc {es es0 : List EntD} (h0 : ∀ e ∈ es0, e.good) (h1 : ∀ e ∈ es, e.good) (h : es.map EntD.rc = recsOf es0) : es = sortE es0 := by
  refine map_rc_inj h1 (fun e he => h0 e ((mem_stb es0).1 he)) ?_
  rw [h, recsOf_stb]
  exact (stb_map Rc.dig (fun e => e.cid.dig) EntD.rc (fun _ => rfl) es0).symm

set_option maxRecDepth 100000 in
set_option maxHeartbeats 4000000 in
theorem iiEach (v : Value) (es : List EntD) (w : World) (hv : ES w v es) (hg : ∀ e ∈ es, e.good) (hn : es.length ≤ 100) (h0 : 0 < es.length) (hu : UvS w) :
    Calls Tryz.prog 12 #[v] w fun e w' => (∃ u, e = .returned u ∧ w'.ownsRow w.heap.size 29 5 u es.length (cellsES (sortE es))) ∧ Below w.heap.size w w' := by
  have HI := Lib.hid (insertion_ok v es w hv hg hn hu)
  have HG := Lib.hid hg
  have HN := Lib.hid hn
  have H0 := Lib.hid h0
  have HU := Lib.hid hu
  clear hv hg hn h0 hu
  have hmf : ∀ (fn : Fn) (first cap : Array Value) (w : World), (Instr.makeFunc fn first cap).run Tryz.prog w = .ok (.func fn first cap) w := fun _ _ _ _ => rfl
  go_enter Tryz.func12, Tryz.ntmps12
  go_wp2_with fail
  refine HI.out.mono ?_
  rintro e w1 ⟨⟨t, rfl, hi, hrel⟩, hb1⟩
  obtain ⟨g, hgg⟩ : ∃ g, g = w.heap.size := ⟨_, rfl⟩
  rw [← hgg] at hi ⊢
  obtain ⟨w2, hw2⟩ : ∃ w2, w2 = w1.alloc (.cells #[.slice none 0 0] 22) := ⟨_, rfl⟩
  have h12 : Below w1.heap.size w1 w2 := hw2 ▸ (Below.refl _ w1).alloc (Nat.le_refl _) _
  have r2 : w2.heap[w1.heap.size]? = some (ouO 22 (.slice none 0 0)) := by rw [hw2]; exact heap_alloc_new w1 _
  have hb := below_next hb1 h12
  have HE := Lib.hid (forEachCid g t es hrel w2 (HU.out.below hb) (hi.below h12) w1.heap.size r2 HG.out (by have := HN.out; omega) H0.out)
  have HB := Lib.hid hb
  have HB1 := Lib.hid hb1.size
  have HGG := Lib.hid hgg
  have hlen : Hid (sortE es = sortE es ∧ (sortE es).length = es.length) := Lib.hid ⟨rfl, stb_length _ _⟩
  rw [hw2] at HE
  have HW2 := Lib.hid hw2
  clear hi hrel hb1 h12 r2 hb hgg hw2 HI
  go_wp2_with fail
  refine HE.out.mono ?_
  rw [← HW2.out]
  rintro e w4 ⟨rfl, ⟨u, es', h1, h2, h3, h4⟩, hk⟩
  have c4 := cell_of_row' (cur := [_]) h1 0
  have hse := sortE_of_rc HG.out h4 h3
  subst hse
  rw [hlen.out.2] at h2
  have HOW : Hid (w4.ownsRow w.heap.size 29 5 u es.length (cellsES (sortE es))) := Lib.hid ⟨h2.1, by
    rcases h2.2 with h | ⟨g, cap, cur, e, hbg, h⟩
    · exact Or.inl h
    · exact Or.inr ⟨g, cap, cur, e, Nat.le_trans HB.out.size hbg, h⟩⟩
  have HF := Lib.hid (HB.out.trans (hk.below (fun k h1 h2 => by have := HB1.out; omega) HB.out.size))
  clear h1 h2 h3 h4 hk HE
  go_wp2
  go_ret
  exact ⟨⟨u, rfl, HOW.out⟩, HF.out⟩
end Go.Proofs.YthehmnpbepmnpaaGreatDoorR
/- Contracts: sort.insertionSort_func, swapRange_func, rotate_func over any test and any exchange. -/
namespace Go.Proofs.YthehmnpbepmnpaaGreatDoorR
open Go.RowKit
variable {α : Type}

/-- What the sort is handed: a test and an exchange, and what tells (H) that a world holds a row. -/
structure SoEnv (K : SoK α) (n blk : Nat) (g : FuncId) (lb : Array Value) (sf : FuncId) (sb : Array Value) (H : (Nat → α) → World → Prop) : Prop where
  eg : ∀ args w, (callFunc g args).run Tryz.prog w = .ok (.enter g args) w
  below : ∀ d W W', H d W → Below W.heap.size W W' → H d W'
  size : ∀ d W, H d W → blk < W.heap.size
  less : ∀ d W, H d W → ∀ i j : Nat, i < n → j < n → Calls Tryz.prog g (#[.int .i64 i, .int .i64 j] ++ lb) W fun e w' => e = .returned (.bool (K.lt (d i) (d j))) ∧ Below W.heap.size W w'
  swap : ∀ d W, H d W → ∀ i j : Nat, i < n → j < n → i ≠ j → ∃ W', (callFunc sf (#[.int .i64 i, .int .i64 j] ++ sb)).run Tryz.prog W = .ok (.value (.tuple #[])) W' ∧ H (sw d i j) W' ∧ Keep (fun k => k = blk) W W'
/-- What a step of the sort leaves. -/
def SoPost (blk : Nat) (H : (Nat → α) → World → Prop) (Q : (Nat → α) → Prop) (W : World) (e : Ending) (w' : World) : Prop := e = .returned (.tuple #[]) ∧ ∃ d', H d' w' ∧ Q d' ∧ Keep (fun k => k = blk) W w'
abbrev soFs (g : FuncId) (lb : Array Value) (sf : FuncId) (sb : Array Value) : Array Value := #[.func (.func g) #[] lb, .func (.func sf) #[] sb]
abbrev soO (g : FuncId) (lb : Array Value) (sf : FuncId) (sb : Array Value) : Obj := .cells (soFs g lb sf sb) 73
/-- Where a loop of the sort stands: the row, the parameter's block. -/
structure SoAt (blk : Nat) (H : (Nat → α) → World → Prop) (g : FuncId) (lb : Array Value) (sf : FuncId) (sb : Array Value) (W : World) (d : Nat → α) (wr : World) : Prop where
  row : H d wr
  box : wr.heap[W.heap.size]? = some (.cells (soFs g lb sf sb) 73 (0, 0))
  keep : Keep (fun k => k = blk) W wr
section
variable {K : SoK α} {n blk : Nat} {g : FuncId} {lb : Array Value} {sf : FuncId} {sb : Array Value} {H : (Nat → α) → World → Prop}
theorem SoAt.start (E : SoEnv K n blk g lb sf sb H) {W : World} {d : Nat → α} (h : H d W) : SoAt blk H g lb sf sb W d (W.alloc (soO g lb sf sb)) :=
  ⟨E.below _ _ _ h ((Below.refl _ _).alloc (Nat.le_refl _) _), heap_alloc_new W _, (Keep.refl _ W).alloc _⟩
theorem SoAt.less {W wr w' : World} {d : Nat → α} (E : SoEnv K n blk g lb sf sb H) (h : SoAt blk H g lb sf sb W d wr) (hb : Below wr.heap.size wr w') : SoAt blk H g lb sf sb W d w' :=
  ⟨E.below _ _ _ h.row hb, row_below hb (block_of_row h.box) h.box, h.keep.trans (hb.keep)⟩
theorem SoAt.turn {W wr w' : World} {d d' : Nat → α} (hW : blk < W.heap.size) (h : SoAt blk H g lb sf sb W d wr) (hk : Keep (fun k => k = blk) wr w') (hr : H d' w') : SoAt blk H g lb sf sb W d' w' :=
  ⟨hr, hk.row h.box (by omega), h.keep.trans hk⟩
end

set_option maxRecDepth 100000 in
set_option maxHeartbeats 4000000 in
theorem so_ins {K : SoK α} {n blk : Nat} {g : FuncId} {lb : Array Value} {sf : FuncId} {sb : Array Value} {H : (Nat → α) → World → Prop} (E : SoEnv K n blk g lb sf sb H) (hn : n ≤ 1000000) (d : Nat → α) (W : World) (hH : H d W) (a b : Nat) (hab : a ≤ b) (hb : b ≤ n) (hu : K.up a b d) :
    Calls Tryz.prog 65 #[.agg (soFs g lb sf sb), .int .i64 a, .int .i64 b] W (SoPost blk H (SoOut K a b d) W) := by
  have eg := E.eg
  have HE := Lib.hid E
  have HU := Lib.hid hu
  have HS := Lib.hid (E.size _ _ hH)
  have H0 := Lib.hid (SoAt.start E hH)
  clear hH hu E
  go_enter Tryz.func65, Tryz.ntmps65
  go_wp2
  go_loopw [6] (fun vi wr => ∃ (i : Nat) (dk : Nat → α), vi = .int .i64 i ∧ a < i ∧ (i ≤ b ∨ (i = a + 1 ∧ b ≤ a + 1)) ∧ SoAt blk H g lb sf sb W dk wr ∧ SoOut K a i d dk ∧ (i = a + 1 → dk = d)) (fun vi _ => b + 1 - (intOf vi).toNat)
  case atStart => exact ⟨a + 1, d, by go_num, by omega, by omega, H0.out, SoOut.start K a d, fun _ => rfl⟩
  case round =>
    obtain ⟨i, dk, rfl, hai, hib, hat, hO, hdd⟩ := hrel
    have HD := Lib.hid hdd
    have HO := Lib.hid hO
    have HA := Lib.hid hat
    clear hO hat hdd
    by_cases hlt : i < b
    · go_wp2
      go_loopw [7] (fun vj wr2 => ∃ (j : Nat) (dj : Nat → α), vj = .int .i64 j ∧ a ≤ j ∧ j ≤ i ∧ SoAt blk H g lb sf sb W dj wr2 ∧ Prm a (i + 1) dk dj ∧ SoIns K a i j dj) (fun vj _ => (intOf vj).toNat)
      case atStart => exact ⟨i, dk, rfl, by omega, Nat.le_refl _, HA.out, Prm.refl _ _ _, HO.out.inner HU.out hlt⟩
      case round =>
        obtain ⟨j, dj, rfl, haj, hji, hat, hP, hI⟩ := hrel
        have HB := Lib.hid hat
        have HP := Lib.hid hP
        have HI := Lib.hid hI
        have c0 := cell_of_row' (cur := [_, _]) hat.box 0
        clear hat hP hI HA
        by_cases hja : a < j
        · have hl := HE.out.less _ _ HB.out.row j (j - 1) (by omega) (by omega)
          rw [show (((j - 1 : Nat) : Int)) = (j : Int) - 1 by omega] at hl
          have HL := Lib.hid hl
          clear hl
          cases hlv : K.lt (dj j) (dj (j - 1)) with
          | true =>
            rw [hlv] at HL
            have HLV := Lib.hid hlv
            clear hlv
            go_wp2_with (go_at_fn g; refine HL.out.mono ?_; rintro e w' ⟨rfl, hb'⟩; have hB2 := HB.out.less HE.out hb'; have c1 := cell_of_row' (cur := [_, _]) hB2.box 1; have HB2 := Lib.hid hB2; clear hB2 hb' c0)
            obtain ⟨W', hs, hr, hk⟩ := HE.out.swap _ _ HB2.out.row j (j - 1) (by omega) (by omega) (by omega)
            rw [show (((j - 1 : Nat) : Int)) = (j : Int) - 1 by omega] at hs
            rw [hs, Oper.upon_value]
            have HB3 := Lib.hid (HB2.out.turn HS.out hk hr)
            clear hs hr hk c1 HL
            go_wp2
            go_roundw
            case rel => exact ⟨j - 1, sw dj j (j - 1), by go_num, by omega, by omega, HB3.out, HP.out.trans (Prm.sw dj (by omega) (by omega)), HI.out.step hja hji HLV.out⟩
            case measure => simp [intOf]; omega
          | false =>
            rw [hlv] at HL
            have HLV := Lib.hid hlv
            clear hlv
            go_wp2_with (go_at_fn g; refine HL.out.mono ?_; rintro e w' ⟨rfl, hb'⟩; have HB2 := Lib.hid (HB.out.less HE.out hb'); clear hb' c0)
            go_roundw
            case rel => exact ⟨i + 1, dj, by go_num, by omega, by omega, HB2.out, HO.out.next HP.out HI.out haj hji (fun _ => HLV.out), fun h => absurd h (by omega)⟩
            case measure => simp [intOf]; omega
        · go_wp2
          go_roundw
          case rel => exact ⟨i + 1, dj, by go_num, by omega, by omega, HB.out, HO.out.next HP.out HI.out haj hji (fun h => absurd h hja), fun h => absurd h (by omega)⟩
          case measure => simp [intOf]; omega
    · go_wp2
      go_end0
      refine ⟨rfl, dk, HA.out.row, ?_, HA.out.keep⟩
      by_cases h : i ≤ b
      · obtain rfl : i = b := by omega
        exact HO.out
      · rw [HD.out (by omega)]
        exact SoOut.none K d (by omega)

set_option maxRecDepth 100000 in
set_option maxHeartbeats 4000000 in
theorem so_swr {K : SoK α} {n blk : Nat} {g : FuncId} {lb : Array Value} {sf : FuncId} {sb : Array Value} {H : (Nat → α) → World → Prop} (E : SoEnv K n blk g lb sf sb H) (hn : n ≤ 1000000) (d : Nat → α) (W : World) (hH : H d W) (a b m : Nat) (hab : a + m ≤ b) (hb : b + m ≤ n) :
    Calls Tryz.prog 137 #[.agg (soFs g lb sf sb), .int .i64 a, .int .i64 b, .int .i64 m] W (SoPost blk H (fun d' => d' = swr a b m d) W) := by
  have HE := Lib.hid E
  have HS := Lib.hid (E.size _ _ hH)
  have H0 := Lib.hid (SoAt.start E hH)
  clear hH E
  go_enter Tryz.func137, Tryz.ntmps137
  go_wp2
  go_loopw [8] (fun vi wr => ∃ (i : Nat), vi = .int .i64 i ∧ i ≤ m ∧ SoAt blk H g lb sf sb W (swr a b i d) wr) (fun vi _ => m - (intOf vi).toNat)
  case atStart => exact ⟨0, rfl, Nat.zero_le _, by rw [swr_zero]; exact H0.out⟩
  case round =>
    obtain ⟨i, rfl, him, hat⟩ := hrel
    have HA := Lib.hid hat
    have c1 := cell_of_row' (cur := [_, _]) hat.box 1
    clear hat
    by_cases hlt : i < m
    · obtain ⟨W', hs, hr, hk⟩ := HE.out.swap _ _ HA.out.row (a + i) (b + i) (by omega) (by omega) (by omega)
      rw [show (((a + i : Nat) : Int)) = (a : Int) + i by omega, show (((b + i : Nat) : Int)) = (b : Int) + i by omega] at hs
      rw [swr_next d hab hlt] at hr
      have HB := Lib.hid (HA.out.turn HS.out hk hr)
      have HR := Lib.hid hs
      clear hr hk hs
      go_wp2_with fail
      rw [HR.out, Oper.upon_value]
      go_wp2
      go_roundw
      case rel => exact ⟨i + 1, by go_num, by omega, HB.out⟩
      case measure => simp [intOf]; omega
    · go_wp2
      go_end0
      obtain rfl : i = m := by omega
      exact ⟨rfl, _, HA.out.row, rfl, HA.out.keep⟩

set_option maxRecDepth 100000 in
set_option maxHeartbeats 4000000 in
theorem so_rot {K : SoK α} {n blk : Nat} {g : FuncId} {lb : Array Value} {sf : FuncId} {sb : Array Value} {H : (Nat → α) → World → Prop} (E : SoEnv K n blk g lb sf sb H) (hn : n ≤ 1000000) (d : Nat → α) (W : World) (hH : H d W) (a m b : Nat) (ham : a < m) (hmb : m < b) (hb : b ≤ n) :
    Calls Tryz.prog 104 #[.agg (soFs g lb sf sb), .int .i64 a, .int .i64 m, .int .i64 b] W (SoPost blk H (fun d' => d' = rot a m b d) W) := by
  have HE := Lib.hid E
  have HS := Lib.hid (E.size _ _ hH)
  have H0 := Lib.hid (SoAt.start E hH)
  clear hH E
  go_enter Tryz.func104, Tryz.ntmps104
  go_wp2
  go_loopw [8, 9] (fun vi vj wr => ∃ (i j : Nat) (dk : Nat → α), vi = .int .i64 i ∧ vj = .int .i64 j ∧ 0 < i ∧ 0 < j ∧ a + i ≤ m ∧ m + j ≤ b ∧ SoAt blk H g lb sf sb W dk wr ∧ rot (m - i) m (m + j) dk = rot a m b d) (fun vi vj _ => (intOf vi).toNat + (intOf vj).toNat)
  case atStart => exact ⟨m - a, b - m, d, by go_num, by go_num, by omega, by omega, by omega, by omega, H0.out, by rw [show m - (m - a) = a by omega, show m + (b - m) = b by omega]⟩
  case round =>
    obtain ⟨i, j, dk, rfl, rfl, hi, hj, hai, hjb, hat, hR⟩ := hrel
    have HA := Lib.hid hat
    have HR := Lib.hid hR
    have c0 := cell_of_row' (cur := [_, _]) hat.box 0
    have c1 := cell_of_row' (cur := [_, _]) hat.box 1
    clear hat hR
    by_cases h1 : j < i
    · have hc := so_swr HE.out hn dk wr HA.out.row (m - i) m j (by omega) (by omega)
      rw [show (((m - i : Nat) : Int)) = (m : Int) - i by omega] at hc
      have HC := Lib.hid hc
      clear hc
      go_wp2_with fail
      refine HC.out.mono ?_
      rintro e w' ⟨rfl, d', hr, rfl, hk⟩
      have HB := Lib.hid (HA.out.turn HS.out hk hr)
      clear hr hk HC c0 c1
      go_wp2
      go_roundw
      case rel => exact ⟨i - j, j, _, by go_num, rfl, by omega, hj, by omega, hjb, HB.out, by rw [rot_long dk (by omega) h1]; exact HR.out⟩
      case measure => simp [intOf]; omega
    · by_cases h2 : i < j
      · have hc := so_swr HE.out hn dk wr HA.out.row (m - i) (m + j - i) i (by omega) (by omega)
        rw [show (((m - i : Nat) : Int)) = (m : Int) - i by omega, show (((m + j - i : Nat) : Int)) = (m : Int) + j - i by omega] at hc
        have HC := Lib.hid hc
        clear hc
        go_wp2_with fail
        refine HC.out.mono ?_
        rintro e w' ⟨rfl, d', hr, rfl, hk⟩
        have HB := Lib.hid (HA.out.turn HS.out hk hr)
        clear hr hk HC c0 c1
        go_wp2
        go_roundw
        case rel => exact ⟨i, j - i, _, rfl, by go_num, hi, by omega, hai, by omega, HB.out, by rw [rot_short dk (by omega) h2]; exact HR.out⟩
        case measure => simp [intOf]; omega
      · obtain rfl : i = j := by omega
        have hc := so_swr HE.out hn dk wr HA.out.row (m - i) m i (by omega) (by omega)
        rw [show (((m - i : Nat) : Int)) = (m : Int) - i by omega] at hc
        have HC := Lib.hid hc
        clear hc
        go_wp2_with fail
        refine HC.out.mono ?_
        rintro e w' ⟨rfl, d', hr, rfl, hk⟩
        have HB := Lib.hid (HA.out.turn HS.out hk hr)
        clear hr hk HC c0 c1
        go_wp2
        go_end0
        exact ⟨rfl, _, HB.out.row, by rw [swr_all dk (by omega)]; exact HR.out, HB.out.keep⟩
end Go.Proofs.YthehmnpbepmnpaaGreatDoorR
