/- Contracts: a record of an identifier; (*InsertionIndex).InsertNoReplace. -/
import Derived.Test.YthfgnhgijgjggaaDoorIiE
namespace Go.Proofs.YthfgnhgijgjggaaDoor
open Go.RowKit

theorem mhRd_own (code : Nat) (d : List UInt8) (hc : code < 9223372036854775808) (hd : d.length ≤ 2147483647) : mhRd (mhEnc code d) = some ((mhEnc code d).length, code, d) := by
  have := mhRd_enc code d [] hc hd
  rwa [List.append_nil] at this
theorem CidStr.code_lt {us : ByteArray} {x : CidD} (h : CidStr us x) : x.code < 9223372036854775808 := by
  rcases h.tidy with ⟨_, _, h2, _⟩ | ⟨_, _, h2⟩
  · rw [h2]; decide
  · exact h2

/-- A struct with a record's parts. -/
def IsRec (us : ByteArray) (d : List UInt8) (off : Int) (e : Ending) (w' : World) : Prop := ∃ r : ItD, r.dig = d ∧ r.us = us ∧ r.off = off ∧ e = .returned r.val ∧ r.In w'

set_option maxRecDepth 100000 in
set_option maxHeartbeats 4000000 in
theorem newRec (us : ByteArray) (x : CidD) (h : CidStr us x) (off : Int) (w : World) (hu : UvS w) :
    Calls Tryd.prog 92 #[.agg #[.string us], .int .u64 off] w fun e w' => IsRec us x.dig off e w' ∧ Below w.heap.size w w' := by
  obtain ⟨w0, hw0⟩ : ∃ w0, w0 = (w.alloc (.cells #[.string us] 80)).alloc (.cells #[.slice none 0 0, .string ⟨#[]⟩, .int .u64 0] 139) := ⟨_, rfl⟩
  have hA : Below w.heap.size w w0 := hw0 ▸ ((Below.refl _ w).alloc (Nat.le_refl _) _).alloc (by simp) _
  have r0 : w0.heap[w.heap.size]? = _ := hw0 ▸ row_alloc (heap_alloc_new w (.cells #[.string us] 80)) (.cells #[.slice none 0 0, .string ⟨#[]⟩, .int .u64 0] 139)
  have r1 := heap_alloc_new (w.alloc (.cells #[.string us] 80)) (.cells #[.slice none 0 0, .string ⟨#[]⟩, .int .u64 0] 139)
  rw [World.size_alloc, ← hw0] at r1
  have HH := Lib.hid (cdHash us x h w0 (hu.below hA))
  have hml : (mhEnc x.code x.dig).length ≤ 2147483647 := by
    have h1 : (mhEnc x.code x.dig).length ≤ (cidEnc x).length := by unfold cidEnc; split <;> simp <;> omega
    have h2 := h.size.2
    rw [← ba_len, h.eq] at h2
    omega
  have hrd := mhRd_own x.code x.dig h.code_lt (by have := h.fits; omega)
  have HM := Lib.hid hml
  have HRD := Lib.hid hrd
  have HU := Lib.hid hu
  have HA := Lib.hid hA
  have R0 := Lib.hid r0
  have R1 := Lib.hid r1
  have j0 := cell_of_row' (cur := [_]) r0 0
  rw [hw0] at j0 HH
  have HW0 := Lib.hid hw0
  clear hw0 hA r0 r1 hml hrd hu h
  generalize mhEnc x.code x.dig = L at *
  go_enter Tryd.func92, Tryd.ntmps92
  go_wp2_with fail
  refine HH.out.mono ?_
  rw [← HW0.out]
  rintro e w1 ⟨⟨A, n, c, rfl, hbs⟩, hb1⟩
  obtain ⟨hn, _⟩ := hbs.slice
  have hb := below_next HA.out hb1
  obtain ⟨A', c', hs', hD⟩ := Decode_ok A n c L w1 hbs HM.out (HU.out.below hb) x.code x.dig (by rw [hn]; exact HRD.out)
  have HD := Lib.hid (hD w1 (Below.refl _ _))
  have q0 := row_below hb1 (block_of_row R0.out) R0.out
  have q1 := row_below hb1 (block_of_row R1.out) R1.out
  have Q0 := Lib.hid q0
  have Q1 := Lib.hid q1
  have HB := Lib.hid hb
  have HS := Lib.hid hs'
  clear hbs hD hs' q0 q1 hb1 hb hn HH HRD HM j0
  obtain ⟨D, hDD⟩ : ∃ D, D = x.dig.length := ⟨_, rfl⟩
  rw [← hDD] at HD
  have HDD := Lib.hid hDD
  clear hDD
  go_wp2_with fail
  refine HD.out.mono ?_
  rintro e w2 ⟨⟨g, rfl, hg, hrow⟩, hb2⟩
  have k0 := cell_of_row' (cur := [_, _, _, _]) hrow 3
  have s0 := row_below hb2 (block_of_row Q0.out) Q0.out
  have s1 := row_below hb2 (block_of_row Q1.out) Q1.out
  have j0 := cell_of_row' (cur := [_]) s0 0
  have i0 := cell_of_row' (cur := [_, _, _]) s1 0
  have i1 := cell_of_row' (cur := [_, _, _]) s1 1
  have i2 := cell_of_row' (cur := [_, _, _]) s1 2
  have f0 := frozen_of_row' (cur := [_, _, _]) s1 0
  have f1 := frozen_of_row' (cur := [_, _, _]) s1 1
  have f2 := frozen_of_row' (cur := [_, _, _]) s1 2
  have t0 : (w2.setCell ⟨w.heap.size + 1, 0, none⟩ (.slice A' D c')).heap[w.heap.size + 1]? = some (.cells #[.slice A' D c', .string ⟨#[]⟩, .int .u64 0] 139 (0, 0)) := Lib.heap_setCell_same (i := 0) s1 _
  have t1 : ((w2.setCell ⟨w.heap.size + 1, 0, none⟩ (.slice A' D c')).setCell ⟨w.heap.size + 1, 1, none⟩ (.string us)).heap[w.heap.size + 1]? = some (.cells #[.slice A' D c', .string us, .int .u64 0] 139 (0, 0)) := Lib.heap_setCell_same (i := 1) t0 _
  have t2 : (((w2.setCell ⟨w.heap.size + 1, 0, none⟩ (.slice A' D c')).setCell ⟨w.heap.size + 1, 1, none⟩ (.string us)).setCell ⟨w.heap.size + 1, 2, none⟩ (.int .u64 off)).heap[w.heap.size + 1]? = some (.cells #[.slice A' D c', .string us, .int .u64 off] 139 (0, 0)) := Lib.heap_setCell_same (i := 2) t1 _
  have T2 := Lib.hid (show (((w2.setCell ⟨w.heap.size + 1, 0, none⟩ (.slice A' D c')).setCell ⟨w.heap.size + 1, 1, none⟩ (.string us)).setCell ⟨w.heap.size + 1, 2, none⟩ (.int .u64 off)).drew.heap[w.heap.size + 1]? = some (.cells #[.slice A' D c', .string us, .int .u64 off] 139 (0, 0)) from t2)
  have hk : Keep (fun k => k = w.heap.size + 1) w2 (((w2.setCell ⟨w.heap.size + 1, 0, none⟩ (.slice A' D c')).setCell ⟨w.heap.size + 1, 1, none⟩ (.string us)).setCell ⟨w.heap.size + 1, 2, none⟩ (.int .u64 off)).drew :=
    ((((Keep.refl (fun k => k = w.heap.size + 1) w2).setCell rfl _ _).setCell rfl _ _).setCell rfl _ _).trans (keep_drew _ _)
  have HF : Hid (Below w.heap.size w (((w2.setCell ⟨w.heap.size + 1, 0, none⟩ (.slice A' D c')).setCell ⟨w.heap.size + 1, 1, none⟩ (.string us)).setCell ⟨w.heap.size + 1, 2, none⟩ (.int .u64 off)).drew) :=
    Lib.hid ((below_next HB.out hb2).trans (hk.below (fun k h1 h2 => by omega) (below_next HB.out hb2).size))
  have HIn : Hid ((ItD.mk A' c' x.dig us off).In (((w2.setCell ⟨w.heap.size + 1, 0, none⟩ (.slice A' D c')).setCell ⟨w.heap.size + 1, 1, none⟩ (.string us)).setCell ⟨w.heap.size + 1, 2, none⟩ (.int .u64 off)).drew) := Lib.hid <|
    ItD.In.keep' (x := ItD.mk A' c' x.dig us off) (BS.below HS.out hb2) hk fun k hk o v hc => by
      rw [hk, cell_of_row' (cur := [_, _, _]) s1] at hc
      rcases o with _ | _ | _ | o <;> simp at hc
  clear hrow s0 s1 hk t0 t1 t2 hb2 HD Q0 Q1
  go_wp2_with fail
  go_region
  all_goals
    go_wp2
    refine bodyPost_ret (results_cell_row rfl _ _ (w.heap.size + 1) 139 #[.slice A' D c', .string us, .int .u64 off] (0, 0) _ rfl T2.out Tryd.underlying139 rfl (by kernel_rfl)) rfl ?_
    exact ⟨⟨ItD.mk A' c' x.dig us off, rfl, rfl, rfl, by rw [HDD.out]; rfl, HIn.out⟩, HF.out⟩

/-- What an insertion of an identifier leaves of the index. -/
def PutCid (g : Nat) (t : Tr ItD) (us : ByteArray) (d : List UInt8) (off : Int) (w w' : World) : Prop := ∃ r : ItD, r.dig = d ∧ r.us = us ∧ r.off = off ∧ PutAt g t r w w'

set_option maxRecDepth 100000 in
set_option maxHeartbeats 4000000 in
theorem idxPut (us : ByteArray) (x : CidD) (h : CidStr us x) (off : Int) (t : Tr ItD) (g : Nat) (w : World) (hu : UvS w) (hi : IdxAt w g t) (hn : t.toList.length < 1000000) :
    Calls Tryd.prog 67 #[.pointer (some ⟨g, 0, none⟩), .agg #[.string us], .int .u64 off] w fun e w' => e = .returned (.tuple #[]) ∧ PutCid g t us x.dig off w w' := by
  obtain ⟨w0, hw0⟩ : ∃ w0, w0 = (w.alloc (.cells #[.string us] 80)).drew := ⟨_, rfl⟩
  have hA : Below w.heap.size w w0 := hw0 ▸ below_next ((Below.refl _ w).alloc (Nat.le_refl _) _) (below_drewN _ _ 1)
  have r0 : w0.heap[w.heap.size]? = some (.cells #[.string us] 80 (0, 0)) := by rw [hw0]; exact heap_alloc_new w (.cells #[.string us] 80)
  have HR := Lib.hid (newRec us x h off w0 (hu.below hA))
  have j0 := cell_of_row' (cur := [_]) r0 0
  have HI := Lib.hid hi
  have HA := Lib.hid hA
  rw [hw0] at j0 HR
  have HW0 := Lib.hid hw0
  have HN := Lib.hid hn
  clear hw0 hA r0 hu hi hn h
  go_enter Tryd.func67, Tryd.ntmps67
  go_wp2_with fail
  go_region_with (first
    | (go_at_call 92; (with_reducible refine HR.out.mono ?_); rw [← HW0.out]; rintro e w1 ⟨⟨r, h1, h2, h3, rfl, hin⟩, hb⟩; have hb1 := below_next HA.out hb; have HP := Lib.hid (llrbPut r t g w1 (HI.out.below hb1) hin HN.out); have HB1 := Lib.hid hb1; have H1 := Lib.hid h1; have H2 := Lib.hid h2; have H3 := Lib.hid h3; clear h1 h2 h3 hin hb hb1)
    | (go_at_call 91; (with_reducible refine HP.out.mono ?_); rintro e w2 ⟨rfl, hput⟩))
  all_goals
    go_end0
    obtain ⟨q, hq, h5, h6⟩ := hput
    exact ⟨rfl, r, H1.out, H2.out, H3.out, q, Nat.le_trans HB1.out.size hq, h5, (HB1.out.keep).trans h6⟩
end Go.Proofs.YthfgnhgijgjggaaDoor
