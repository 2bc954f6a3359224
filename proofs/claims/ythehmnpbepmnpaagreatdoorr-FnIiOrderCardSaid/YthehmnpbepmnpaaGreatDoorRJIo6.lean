/- Contracts, joined (SpB CdS CdT IiE IiF IiG IiH IiI IiJ IiK). -/
import Derived.Test.YthehmnpbepmnpaaGreatDoorRJIo2
import Derived.Test.YthehmnpbepmnpaaGreatDoorRJIo3
import Derived.Test.YthehmnpbepmnpaaGreatDoorRJIo4
import Derived.Test.YthehmnpbepmnpaaGreatDoorRJIo5
import Derived.Lib.QuietBelow
import Derived.Deep.RegionHeld
import Derived.LoopTactic
import Derived.Shelf.Abstract
import Derived.Test.YthehmnpbepmnpaaGreatDoorRShelf
/- Contracts of package spec: MultihashBytes, CidBytes, Tidy. -/
namespace Go.Proofs.YthehmnpbepmnpaaGreatDoorR
open Go.RowKit

/-- A slice that turns to the string S, now and behind all that only makes memory. -/
def TurnsTo (S : ByteArray) (e : Ending) (w' : World) : Prop := ∃ A n c, e = .returned (.slice A n c) ∧ ∀ W, Below w'.heap.size w' W → (convert 98 9 (.slice A n c)).run Tryz.prog W = .ok (.string S) W

theorem spVarintS (n : Nat) (hn : n < 18446744073709551616) (S : ByteArray) (hS : S = ⟨(Lib.uvarint n).toArray⟩) (w : World) :
    Calls Tryz.prog 87 #[.int .u64 n] w fun e w' => TurnsTo S e w' ∧ Below w.heap.size w w' :=
  (spVarint n hn w).mono fun e w' ⟨⟨A, n, c, he, hbs⟩, hb⟩ => ⟨⟨A, n, c, he, fun W hW => by rw [hS]; exact (hbs.below hW).str (dst := 9) Tryz.underlying98 Tryz.underlying5 Tryz.underlying9⟩, hb⟩

theorem ba_cat' (a b : List UInt8) : (⟨a.toArray⟩ : ByteArray) ++ ⟨b.toArray⟩ = ⟨(a ++ b).toArray⟩ := by
  apply ByteArray.ext
  rw [ByteArray.data_append]; simp
theorem ba_eta (s : ByteArray) : s = ⟨s.data.toList.toArray⟩ := (ba_mk s).symm

set_option maxRecDepth 100000 in
set_option maxHeartbeats 400000 in
theorem spMh (code : Nat) (hcode : code < 18446744073709551616) (d : ByteArray) (hd : d.size ≤ 2147483647) (w : World) :
    Calls Tryz.prog 122 #[.int .u64 code, .string d] w fun e w' => e = .returned (.string ⟨(mhEnc code d.data.toList).toArray⟩) ∧ Below w.heap.size w w' := by
  obtain ⟨S1, hS1⟩ : ∃ S : ByteArray, S = ⟨(Lib.uvarint code).toArray⟩ := ⟨_, rfl⟩
  obtain ⟨S2, hS2⟩ : ∃ S : ByteArray, S = ⟨(Lib.uvarint d.size).toArray⟩ := ⟨_, rfl⟩
  have z1 : S1.size ≤ 10 := by rw [hS1]; show (Lib.uvarint code).toArray.size ≤ 10; rw [List.size_toArray]; exact Lib.uvarint_length64 hcode
  have z2 : S2.size ≤ 10 := by rw [hS2]; show (Lib.uvarint d.size).toArray.size ≤ 10; rw [List.size_toArray]; exact Lib.uvarint_length64 (by omega)
  have hout : (⟨(mhEnc code d.data.toList).toArray⟩ : ByteArray) = S1 ++ S2 ++ d := by
    rw [hS1, hS2]
    conv => rhs; rw [ba_eta d]
    rw [ba_cat', ba_cat']
    unfold mhEnc
    rw [ba_len, List.append_assoc]
  rw [hout]
  have C1 := fun W => Lib.hid (spVarintS code hcode S1 hS1 W)
  have C2 := fun W => Lib.hid (spVarintS d.size (by omega) S2 hS2 W)
  have z3 : (S1 ++ S2).size ≤ 20 := by rw [ByteArray.size_append]; omega
  have z4 : (S1 ++ S2).size + d.size ≤ 3000000000 := by omega
  have z5 : S1.size + S2.size ≤ 20 := by omega
  have hwr : IntKind.u64.wrap (d.size : Int) = (d.size : Int) := IntWalk.u64_in _ (by omega)
  generalize (code : Int) = ci at *
  clear hS1 hS2 hout
  obtain ⟨w0, hw0⟩ : ∃ w0 : World, w0 = w.drew := ⟨_, rfl⟩
  have hb0 : Below w.heap.size w w.drew := below_drewN _ _ 1
  go_enter Tryz.func122, Tryz.ntmps122
  go_wp2_with fail
  go_region_with (first
    | (go_at_call_of 87 (ci); (with_reducible refine (C1 _).out.mono ?_); rintro e w1 ⟨⟨A, n, c, rfl, hcv⟩, hb1⟩; have hrefl := Below.refl w1.heap.size w1)
    | (go_at_call 87; (with_reducible refine (C2 _).out.mono ?_); rintro e w2 ⟨⟨A, n, c, rfl, hcv⟩, hb2⟩; have hrefl := Below.refl w2.heap.size w2))
  all_goals
    clear hwr
    have hb := below_next (below_next hb0 hb1) hb2
    go_wp2
    go_ret
    exact ⟨rfl, hb⟩

set_option maxRecDepth 100000 in
set_option maxHeartbeats 400000 in
theorem spCidBytes_v0 (codec code : Nat) (hcode : code < 18446744073709551616) (d : ByteArray) (hd : d.size ≤ 2147483647) (w : World) :
    Calls Tryz.prog 88 #[.agg #[.int .u64 0, .int .u64 codec, .int .u64 code, .string d]] w fun e w' => e = .returned (.string ⟨(mhEnc code d.data.toList).toArray⟩) ∧ Below w.heap.size w w' := by
  have hA : Below w.heap.size w (w.alloc (.cells #[.int .u64 0, .int .u64 codec, .int .u64 code, .string d] 25)) := (Below.refl _ _).alloc (Nat.le_refl _) _
  have HC := fun W => Lib.hid (spMh code hcode d hd W)
  go_enter Tryz.func88, Tryz.ntmps88
  go_wp2_with fail
  refine (HC _).out.mono ?_
  rintro e w1 ⟨rfl, hb1⟩
  go_wp2
  go_ret
  exact ⟨rfl, below_next hA hb1⟩

set_option maxRecDepth 100000 in
set_option maxHeartbeats 2000000 in
theorem spCidBytes_v1 (v codec code : Nat) (hv : v ≠ 0) (hcodec : codec < 18446744073709551616) (hcode : code < 18446744073709551616) (d : ByteArray) (hd : d.size ≤ 2147483647) (w : World) :
    Calls Tryz.prog 88 #[.agg #[.int .u64 v, .int .u64 codec, .int .u64 code, .string d]] w fun e w' => e = .returned (.string ⟨(1 :: (Lib.uvarint codec ++ mhEnc code d.data.toList)).toArray⟩) ∧ Below w.heap.size w w' := by
  obtain ⟨S1, hS1⟩ : ∃ S : ByteArray, S = ⟨(Lib.uvarint 1).toArray⟩ := ⟨_, rfl⟩
  obtain ⟨S2, hS2⟩ : ∃ S : ByteArray, S = ⟨(Lib.uvarint codec).toArray⟩ := ⟨_, rfl⟩
  obtain ⟨S3, hS3⟩ : ∃ S : ByteArray, S = ⟨(mhEnc code d.data.toList).toArray⟩ := ⟨_, rfl⟩
  have z1 : S1.size ≤ 10 := by rw [hS1]; show (Lib.uvarint 1).toArray.size ≤ 10; rw [List.size_toArray]; exact Lib.uvarint_length64 (by omega)
  have z2 : S2.size ≤ 10 := by rw [hS2]; show (Lib.uvarint codec).toArray.size ≤ 10; rw [List.size_toArray]; exact Lib.uvarint_length64 hcodec
  have z3 : S3.size ≤ 3000000000 := by
    rw [hS3]; show (mhEnc code d.data.toList).toArray.size ≤ _; rw [List.size_toArray]
    have := (mhEnc_len_le code d.data.toList hcode (by rw [ba_len]; omega)).2
    rw [ba_len] at this
    omega
  have hout : (⟨(1 :: (Lib.uvarint codec ++ mhEnc code d.data.toList)).toArray⟩ : ByteArray) = S1 ++ S2 ++ S3 := by
    rw [hS1, hS2, hS3, ba_cat', ba_cat', uvarint1]
    rfl
  rw [hout]
  have C1 := fun W => Lib.hid (spVarintS 1 (by omega) S1 hS1 W)
  rw [show ((1 : Nat) : Int) = 1 from rfl] at C1
  have C2 := fun W => Lib.hid (spVarintS codec hcodec S2 hS2 W)
  have C3 := fun W => Lib.hid (spMh code hcode d hd W)
  rw [← hS3] at C3
  have z4 : (S1 ++ S2).size ≤ 20 := by rw [ByteArray.size_append]; omega
  have z5 : (S1 ++ S2).size + S3.size ≤ 4000000000 := by omega
  have z6 : S1.size + S2.size ≤ 20 := by omega
  have z7 : S1.size + S2.size + S3.size ≤ 4000000000 := by omega
  have hA : Below w.heap.size w (w.alloc (.cells #[.int .u64 v, .int .u64 codec, .int .u64 code, .string d] 25)) := (Below.refl _ _).alloc (Nat.le_refl _) _
  have hr0 := heap_alloc_new w (.cells #[.int .u64 v, .int .u64 codec, .int .u64 code, .string d] 25)
  have hv0 : ((v : Int) == 0) = false := by rw [beq_eq_false_iff_ne]; omega
  generalize (code : Int) = c2 at *
  generalize (codec : Int) = c1 at *
  generalize (v : Int) = c0 at *
  clear hS1 hS2 hS3 hout
  have Q1 : ∀ W, Below (w.alloc (.cells #[.int .u64 c0, .int .u64 c1, .int .u64 c2, .string d] 25)).heap.size (w.alloc (.cells #[.int .u64 c0, .int .u64 c1, .int .u64 c2, .string d] 25)) W → W.cell? ⟨w.heap.size, 1, none⟩ = some (.int .u64 c1) := fun W h => cell_of_row' (cur := [_, _, _, _]) (row_below h (block_of_row hr0) hr0) 1
  have Q2 : ∀ W, Below (w.alloc (.cells #[.int .u64 c0, .int .u64 c1, .int .u64 c2, .string d] 25)).heap.size (w.alloc (.cells #[.int .u64 c0, .int .u64 c1, .int .u64 c2, .string d] 25)) W → W.cell? ⟨w.heap.size, 2, none⟩ = some (.int .u64 c2) := fun W h => cell_of_row' (cur := [_, _, _, _]) (row_below h (block_of_row hr0) hr0) 2
  have Q3 : ∀ W, Below (w.alloc (.cells #[.int .u64 c0, .int .u64 c1, .int .u64 c2, .string d] 25)).heap.size (w.alloc (.cells #[.int .u64 c0, .int .u64 c1, .int .u64 c2, .string d] 25)) W → W.cell? ⟨w.heap.size, 3, none⟩ = some (.string d) := fun W h => cell_of_row' (cur := [_, _, _, _]) (row_below h (block_of_row hr0) hr0) 3
  have hr0' := Lib.hid hr0
  clear hr0
  go_enter Tryz.func88, Tryz.ntmps88
  go_wp2_with fail
  generalize hw1 : w.alloc (.cells #[.int .u64 c0, .int .u64 c1, .int .u64 c2, .string d] 25) = w1 at *
  clear hw1
  have h0 : Below w1.heap.size w1 w1.drew := below_drewN _ _ 1
  have q1 := Q1 _ h0
  have q2 := Q2 _ h0
  have q3 := Q3 _ h0
  go_region_held (fun W : World => Below w1.heap.size w1 W ∧ W.cell? ⟨w.heap.size, 1, none⟩ = some (.int .u64 c1) ∧ W.cell? ⟨w.heap.size, 2, none⟩ = some (.int .u64 c2) ∧ W.cell? ⟨w.heap.size, 3, none⟩ = some (.string d))
    (first | assumption | (refine ⟨?_, ?_, ?_, ?_⟩ <;> assumption) | (go_split_ands; refine ⟨?_, ?_, ?_, ?_⟩ <;> assumption))
    (first
    | (go_at_call_of 87 (c1); (with_reducible refine (C2 _).out.mono ?_); rintro e wb ⟨⟨A2, n2, k2, rfl, hcvb⟩, hbb⟩; have hrefb := Below.refl wb.heap.size wb; have hkb := below_next (And.left (by assumption)) hbb; have qb1 := Q1 wb hkb; have qb2 := Q2 wb hkb; have qb3 := Q3 wb hkb)
    | (go_at_call 87; (with_reducible refine (C1 _).out.mono ?_); rintro e wa ⟨⟨A1, n1, k1, rfl, hcva⟩, hba⟩; have hrefa := Below.refl wa.heap.size wa; have hka := below_next (And.left (by assumption)) hba; have qa1 := Q1 wa hka; have qa2 := Q2 wa hka; have qa3 := Q3 wa hka)
    | (go_at_call 122; (with_reducible refine (C3 _).out.mono ?_); rintro e wc ⟨rfl, hbc⟩; have hac := below_next hbb hbc; have hkc := below_next (And.left (by assumption)) hbc; have qc1 := Q1 wc hkc; have qc2 := Q2 wc hkc; have qc3 := Q3 wc hkc))
  all_goals
    have hb := below_next hA hkc
    clear Q1 Q2 Q3 C1 C2 C3
    go_wp2
    go_ret
    exact ⟨rfl, hb⟩
end Go.Proofs.YthehmnpbepmnpaaGreatDoorR
/- Contracts: laws.cdOne, laws.cdGood. FnCdBytes' walk. -/
namespace Go.Proofs.YthehmnpbepmnpaaGreatDoorR
open Go.RowKit

def oneCid : CidD := ⟨1, 85, 0, [97]⟩
theorem one_tidy : oneCid.tidy := .inr ⟨rfl, by decide, by decide⟩
theorem uvarint0 : Lib.uvarint 0 = [0] := Lib.uvarint_small (by omega)
theorem uvarint85 : Lib.uvarint 85 = [85] := Lib.uvarint_small (by omega)
theorem one_enc : cidEnc oneCid = [1, 85, 0, 1, 97] := by
  show 1 :: (Lib.uvarint 85 ++ (Lib.uvarint 0 ++ (Lib.uvarint 1 ++ [97]))) = _
  rw [uvarint85, uvarint0, uvarint1]; rfl
theorem one_rd : cidRd [1, 85, 0, 1, 97] = some (oneCid, 5) := by
  have := cidRd_enc0 oneCid one_tidy (by decide)
  rw [one_enc] at this
  exact this

end Go.Proofs.YthehmnpbepmnpaaGreatDoorR
/- FnCdBytes' walk: an identifier's bytes are as the specification has them, and there are none of what is no identifier. -/
namespace Go.Proofs.YthehmnpbepmnpaaGreatDoorR
open Go.RowKit

/-- A variable of type impl.Cid that holds an identifier. -/
def InRow (w : World) (g : Nat) (a b c : Int) (d : ByteArray) : Prop := w.heap[g]? = some (.cells #[.int .u64 a, .int .u64 b, .int .u64 c, .string d] 25 (0, 0))
theorem InRow.cells {w : World} {g : Nat} {a b c : Int} {d : ByteArray} (h : InRow w g a b c d) : w.cell? ⟨g, 0, none⟩ = some (.int .u64 a) ∧ w.cell? ⟨g, 1, none⟩ = some (.int .u64 b) ∧ w.cell? ⟨g, 2, none⟩ = some (.int .u64 c) ∧ w.cell? ⟨g, 3, none⟩ = some (.string d) :=
  ⟨cell_of_row' (cur := [_, _, _, _]) h 0, cell_of_row' (cur := [_, _, _, _]) h 1, cell_of_row' (cur := [_, _, _, _]) h 2, cell_of_row' (cur := [_, _, _, _]) h 3⟩
theorem InRow.below {w w' : World} {g : Nat} {a b c : Int} {d : ByteArray} (h : InRow w g a b c d) (hb : Below w.heap.size w w') : InRow w' g a b c d := row_below hb (block_of_row h) h
theorem InRow.new (w : World) (a b c : Int) (d : ByteArray) : InRow (w.alloc (cidO a b c d)) w.heap.size a b c d := heap_alloc_new w _

/-- An identifier as the law's argument. -/
structure CidArg (x : CidD) (d : ByteArray) : Prop where
  dig : x.dig = d.data.toList

theorem spCidBytes_ok (x : CidD) (d : ByteArray) (hx : x.dig = d.data.toList) (ht : x.tidy) (hd : d.size ≤ 2147483647) (w : World) :
    Calls Tryz.prog 88 #[.agg #[.int .u64 x.ver, .int .u64 x.codec, .int .u64 x.code, .string d]] w fun e w' => e = .returned (.string ⟨(cidEnc x).toArray⟩) ∧ Below w.heap.size w w' := by
  obtain ⟨v, codec, code, dg⟩ := x
  simp only at hx
  subst hx
  rcases ht with ⟨h0, h1, h2, h3⟩ | ⟨h0, h1, h2⟩
  · simp only at h0 h1 h2
    subst h0 h1 h2
    exact spCidBytes_v0 112 18 (by omega) d hd w
  · simp only at h0 h1 h2
    subst h0
    exact spCidBytes_v1 1 codec code (by omega) (by omega) (by omega) d hd w

end Go.Proofs.YthehmnpbepmnpaaGreatDoorR
/- Contracts: an insertion index: its tree in memory, a record put in. -/
namespace Go.Proofs.YthehmnpbepmnpaaGreatDoorR
open Go.RowKit

/-- No byte lies in this block. -/
def NoByte (w : World) (k : Nat) : Prop := ∀ (o : Nat) (v : Int), w.cell? ⟨k, o, none⟩ ≠ some (.int .u8 v)
theorem ItD.In.keep' {x : ItD} {S : Nat → Prop} {w w' : World} (h : x.In w) (hk : Keep S w w') (hS : ∀ k, S k → NoByte w k) : x.In w' := by
  obtain ⟨A, c, h1, h2, h3⟩ := h
  refine ⟨A, c, h1, h2, fun h0 => ?_⟩
  obtain ⟨b, o, e, hc⟩ := h3 h0
  exact ⟨b, o, e, fun j hj => hk.cell (hc j hj) fun hb => hS b hb _ _ (hc j hj)⟩
theorem noByte_node {w : World} {t : Tr ItD} (ht : t.At ItD.val w) : ∀ k ∈ t.blocks, NoByte w k := fun k hk o v h => by
  obtain ⟨u, l, r, b, hrow⟩ := ht.row k hk
  rw [cell_of_row' (cur := [_, _, _, _]) hrow] at h
  rcases o with _ | _ | _ | _ | o <;> simp at h

/-- An index in memory: how many records, and their tree. -/
structure IdxAt (w : World) (g : Nat) (t : Tr ItD) : Prop where
  row : w.heap[g]? = some (.cells #[.int .i64 t.toList.length, .pointer t.addr] 146 (0, 0))
  at_ : t.At ItD.val w
  nodup : t.blocks.Nodup
  in_ : ∀ y ∈ t.toList, y.In w
theorem IdxAt.off {w : World} {g : Nat} {t : Tr ItD} (h : IdxAt w g t) : g ∉ t.blocks := fun hg => by
  obtain ⟨u, l, r, b, hrow⟩ := h.at_.row g hg
  rw [h.row] at hrow
  have := congrArg (fun o => match o with | some (Obj.cells cs _ _) => cs.size | _ => 0) hrow
  simp at this
theorem IdxAt.noByte {w : World} {g : Nat} {t : Tr ItD} (h : IdxAt w g t) : ∀ k, (k = g ∨ k ∈ t.blocks) → NoByte w k := by
  rintro k (rfl | hk)
  · intro o v hc
    rw [cell_of_row' (cur := [_, _]) h.row] at hc
    rcases o with _ | _ | o <;> simp at hc
  · exact noByte_node h.at_ k hk
theorem IdxAt.below {w w' : World} {g : Nat} {t : Tr ItD} (h : IdxAt w g t) (hb : Below w.heap.size w w') : IdxAt w' g t :=
  ⟨row_below hb (block_of_row h.row) h.row, h.at_.below hb, h.nodup, fun y hy => (h.in_ y hy).below hb⟩

/-- An item of the tree put in. -/
abbrev Tr.put (t : Tr ItD) (q : Nat) (x : ItD) : Tr ItD := (t.ins ItD.lt q x).blacken

theorem Tr.up3_node {α : Type} (p : Nat) (l : Tr α) (x : α) (r : Tr α) (b : Bool) : ∃ p' l' x' r' b', (Tr.node p l x r b).up3 = .node p' l' x' r' b' := by
  unfold Tr.up3
  split
  · exact ⟨_, _, _, _, _, rfl⟩
  · exact ⟨_, _, _, _, _, rfl⟩
theorem Tr.ins_node {α : Type} (lt : α → α → Bool) (q : Nat) (x : α) (t : Tr α) : ∃ p' l' x' r' b', t.ins lt q x = .node p' l' x' r' b' := by
  have hup : ∀ (p : Nat) (l : Tr α) (x : α) (r : Tr α) (b : Bool), ∃ p' l' x' r' b', (Tr.node p l x r b).up = .node p' l' x' r' b' := fun p l x r b => by
    unfold Tr.up
    obtain ⟨p1, l1, x1, r1, b1, e1⟩ := Tr.up1_node p l x r b
    rw [e1]
    obtain ⟨p2, l2, x2, r2, b2, e2⟩ := Tr.up2_node p1 l1 x1 r1 b1
    rw [e2]
    exact Tr.up3_node _ _ _ _ _
  cases t with
  | nil => exact ⟨_, _, _, _, _, rfl⟩
  | node p l y r b =>
    unfold Tr.ins
    split
    · exact hup _ _ _ _ _
    · exact hup _ _ _ _ _
theorem Tr.length_ins {α : Type} (lt : α → α → Bool) (q : Nat) (x : α) (t : Tr α) : (t.ins lt q x).toList.length = t.toList.length + 1 := by
  rw [Tr.length_toList, (Tr.blocks_ins lt q x t).length_eq, Tr.length_toList]
  rfl

/-- What an insertion leaves of the index. -/
def PutAt (g : Nat) (t : Tr ItD) (x : ItD) (w w' : World) : Prop := ∃ q, w.heap.size ≤ q ∧ IdxAt w' g (t.put q x) ∧ Keep (fun k => k = g ∨ k ∈ t.blocks) w w'

theorem ItD.mem_ins {q : Nat} {x : ItD} : ∀ {t : Tr ItD} {y : ItD}, y ∈ (t.ins ItD.lt q x).toList → y = x ∨ y ∈ t.toList
  | .nil, y, h => by simp [Tr.ins, Tr.toList] at h; exact .inl h
  | .node p l z r b, y, h => by
    unfold Tr.ins at h
    rw [Tr.toList_up] at h
    split at h
    · simp only [Tr.toList, List.mem_append, List.mem_cons] at h ⊢
      rcases h with h | h | h
      · rcases ItD.mem_ins h with h | h
        · exact .inl h
        · exact .inr (.inl h)
      · exact .inr (.inr (.inl h))
      · exact .inr (.inr (.inr h))
    · simp only [Tr.toList, List.mem_append, List.mem_cons] at h ⊢
      rcases h with h | h | h
      · exact .inr (.inl h)
      · exact .inr (.inr (.inl h))
      · rcases ItD.mem_ins h with h | h
        · exact .inl h
        · exact .inr (.inr (.inr h))

/-- The three stores behind the insertion. -/
theorem put_at {g : Nat} {t : Tr ItD} {x : ItD} {w w1 : World} (h : IdxAt w g t) (hx : x.In w) {q : Nat} (hq : w.heap.size ≤ q) (ht : (t.ins ItD.lt q x).At ItD.val w1) (hk : Keep (fun k => k ∈ t.blocks) w w1) {p' : Nat} {l' r' : Tr ItD} {x' : ItD} {b' : Bool} (he : t.ins ItD.lt q x = .node p' l' x' r' b') :
    PutAt g t x w (((w1.setCell ⟨g, 1, none⟩ (.pointer (some ⟨p', 0, none⟩))).setCell ⟨p', 3, none⟩ (.bool true)).setCell ⟨g, 0, none⟩ (.int .i64 (t.toList.length + 1 : Nat))) := by
  have hgt := h.off
  have hg1 : w1.heap[g]? = some (.cells #[.int .i64 t.toList.length, .pointer t.addr] 146 (0, 0)) := hk.row h.row hgt
  have hbl : ∀ k, k ∈ (t.ins ItD.lt q x).blocks ↔ k = q ∨ k ∈ t.blocks := fun k => by rw [(Tr.blocks_ins ItD.lt q x t).mem_iff, List.mem_cons]
  have hgl := block_of_row h.row
  have hgi : g ∉ (t.ins ItD.lt q x).blocks := fun hm => by
    rcases (hbl g).1 hm with h | h
    · omega
    · exact hgt h
  have hp' : p' ∈ (t.ins ItD.lt q x).blocks := by rw [he]; simp [Tr.blocks]
  have hpg : p' ≠ g := fun e => hgi (e ▸ hp')
  have hnd : (t.ins ItD.lt q x).blocks.Nodup := (Tr.blocks_ins ItD.lt q x t).nodup_iff.2 (List.nodup_cons.2 ⟨fun hm => absurd (h.at_.lt q hm) (by omega), h.nodup⟩)
  have hkA : Keep (fun k => k = g ∨ k = p') w1 (((w1.setCell ⟨g, 1, none⟩ (.pointer (some ⟨p', 0, none⟩))).setCell ⟨p', 3, none⟩ (.bool true)).setCell ⟨g, 0, none⟩ (.int .i64 (t.toList.length + 1 : Nat))) :=
    (((Keep.refl _ w1).setCell (.inl rfl) _ _).setCell (.inr rfl) _ _).setCell (.inl rfl) _ _
  have hkall : Keep (fun k => k = g ∨ k ∈ t.blocks) w (((w1.setCell ⟨g, 1, none⟩ (.pointer (some ⟨p', 0, none⟩))).setCell ⟨p', 3, none⟩ (.bool true)).setCell ⟨g, 0, none⟩ (.int .i64 (t.toList.length + 1 : Nat))) :=
    (hk.mono (T := fun k => k = g ∨ k ∈ t.blocks) fun k _ h => .inr h).trans2 hkA fun k hkw hkk => by
      rcases hkk with rfl | rfl
      · exact .inl rfl
      · rcases (hbl k).1 hp' with h | h
        · omega
        · exact .inr h
  refine ⟨q, hq, ⟨?_, ?_, ?_, ?_⟩, hkall⟩
  · have e1 : (t.put q x).toList.length = t.toList.length + 1 := by rw [Tr.toList_blacken, Tr.length_ins]
    have e2 : (t.put q x).addr = some ⟨p', 0, none⟩ := by show (t.ins ItD.lt q x).blacken.addr = _; rw [he]; rfl
    rw [e1, e2]
    have r1 : (w1.setCell ⟨g, 1, none⟩ (.pointer (some ⟨p', 0, none⟩))).heap[g]? = some (.cells #[.int .i64 t.toList.length, .pointer (some ⟨p', 0, none⟩)] 146 (0, 0)) := Lib.heap_setCell_same (i := 1) hg1 _
    have r2 : ((w1.setCell ⟨g, 1, none⟩ (.pointer (some ⟨p', 0, none⟩))).setCell ⟨p', 3, none⟩ (.bool true)).heap[g]? = some (.cells #[.int .i64 t.toList.length, .pointer (some ⟨p', 0, none⟩)] 146 (0, 0)) :=
      (Keep.setCell (S := fun k => k = p') (Keep.refl _ _) rfl _ _).row r1 (fun e => hpg e.symm)
    exact Lib.heap_setCell_same (i := 0) r2 _
  · show (t.ins ItD.lt q x).blacken.At ItD.val _
    rw [he] at ht hnd hgi ⊢
    simp only [Tr.blocks, List.nodup_cons, List.mem_append, List.nodup_append, not_or] at hnd
    simp only [Tr.blocks, List.mem_cons, List.mem_append, not_or] at hgi
    refine ⟨?_, ht.2.1.keep hkA fun k hm e => ?_, ht.2.2.keep hkA fun k hm e => ?_⟩
    · have r1 : (w1.setCell ⟨g, 1, none⟩ (.pointer (some ⟨p', 0, none⟩))).heap[p']? = _ := (Keep.setCell (S := fun k => k = g) (Keep.refl _ _) rfl _ _).row ht.1 hpg
      exact (Keep.setCell (S := fun k => k = g) (Keep.refl _ _) rfl _ _).row ((node_set r1).2.2 true) hpg
    · rcases e with rfl | rfl
      · exact hgi.2.1 hm
      · exact hnd.1.1 hm
    · rcases e with rfl | rfl
      · exact hgi.2.2 hm
      · exact hnd.1.2 hm
  · show (t.ins ItD.lt q x).blacken.blocks.Nodup
    rw [Tr.blocks_blacken]; exact hnd
  · intro y hy
    rw [Tr.toList_blacken] at hy
    rcases ItD.mem_ins hy with rfl | hy
    · exact hx.keep' hkall h.noByte
    · exact (h.in_ y hy).keep' hkall h.noByte

set_option maxRecDepth 100000 in
set_option maxHeartbeats 2000000 in
theorem llrbPut (x : ItD) (t : Tr ItD) (g : Nat) (w : World) (h : IdxAt w g t) (hx : x.In w) (hn : t.toList.length < 1000000) :
    Calls Tryz.prog 105 #[.pointer (some ⟨g, 0, none⟩), x.item] w fun e w' => e = .returned (.tuple #[]) ∧ PutAt g t x w w' := by
  have HI := Lib.hid (insert_any x t w (some ⟨g, 0, none⟩) h.at_ h.nodup hx h.in_)
  have c0 := cell_of_row' (cur := [_, _]) h.row 0
  have c1 := cell_of_row' (cur := [_, _]) h.row 1
  have k0 : w.cell? ⟨g, 0, none⟩ = some (.int .i64 t.toList.length) := c0
  have k1 : w.cell? ⟨g, 1, none⟩ = some (.pointer t.addr) := c1
  have hqe : (binOp .eql 149 x.item .nilIface).run Tryz.prog w = .ok (.bool false) w := by kernel_rfl
  have HT := Lib.hid h
  have HX := Lib.hid hx
  obtain ⟨n, hN⟩ : ∃ n, n = t.toList.length := ⟨_, rfl⟩
  rw [← hN] at hn k0
  have HN := Lib.hid hN
  clear h hx c0 c1 hN
  go_enter Tryz.func105, Tryz.ntmps105
  go_wp2_with fail
  refine HI.out.mono ?_
  rintro e w1 ⟨q, hq, rfl, ht, hk⟩
  obtain ⟨p', l', x', r', b', he⟩ := Tr.ins_node ItD.lt q x t
  have HP := Lib.hid (put_at HT.out HX.out hq ht hk he)
  have hg1 := hk.row HT.out.row HT.out.off
  have hp1 : w1.heap[p']? = some (ndO x'.val l'.addr r'.addr b') := by rw [he] at ht; exact ht.1
  have hpg : g ≠ p' := fun e => by
    rw [e, hp1] at hg1
    have := congrArg (fun o => match o with | some (Obj.cells cs _ _) => cs.size | _ => 0) hg1
    simp at this
  have hgp : p' ≠ g := hpg.symm
  have j0 : w1.cell? ⟨g, 0, none⟩ = some (.int .i64 n) := by rw [HN.out]; exact cell_of_row' (cur := [_, _]) hg1 0
  have j1 : w1.cell? ⟨g, 1, none⟩ = some (.pointer t.addr) := cell_of_row' (cur := [_, _]) hg1 1
  have f0 := frozen_of_row' (cur := [_, _]) hg1 0
  have f1 := frozen_of_row' (cur := [_, _]) hg1 1
  obtain ⟨⟨_, _, _, d3⟩, _, _, _, e3⟩ := node_cells hp1
  rw [show (t.ins ItD.lt q x).addr = some ⟨p', 0, none⟩ by rw [he]; rfl]
  rw [← HN.out] at HP
  clear hq ht hk he hg1 hp1 hqe k0 k1 HI
  go_wp2
  go_end0
  exact ⟨rfl, by rw [show ((n : Int) + 1) = ((n + 1 : Nat) : Int) by omega]; exact HP.out⟩
end Go.Proofs.YthehmnpbepmnpaaGreatDoorR
/- Contracts: a record of an identifier; (*InsertionIndex).InsertNoReplace. -/
namespace Go.Proofs.YthehmnpbepmnpaaGreatDoorR
open Go.RowKit

theorem mhRd_own (code : Nat) (d : List UInt8) (hc : code < 9223372036854775808) (hd : d.length ≤ 2147483647) : mhRd (mhEnc code d) = some ((mhEnc code d).length, code, d) := by
  have := mhRd_enc code d [] hc hd
  rwa [List.append_nil] at this
theorem CidStr.code_lt {us : ByteArray} {x : CidD} (h : CidStr us x) : x.code < 9223372036854775808 := by
  rcases h.tidy with ⟨_, _, h2, _⟩ | ⟨_, _, h2⟩
  · rw [h2]; decide
  · exact h2

/-- A struct with a record's parts. -/
def IsRec (us : ByteArray) (d : List UInt8) (off : Int) (e : Ending) (w' : World) : Prop := ∃ r : ItD, r.dig = d ∧ r.us = us ∧ r.off = off ∧ e = .returned r.val ∧ r.In w'

set_option maxRecDepth 100000 in
set_option maxHeartbeats 4000000 in
theorem newRec (us : ByteArray) (x : CidD) (h : CidStr us x) (off : Int) (w : World) (hu : UvS w) :
    Calls Tryz.prog 106 #[.agg #[.string us], .int .u64 off] w fun e w' => IsRec us x.dig off e w' ∧ Below w.heap.size w w' := by
  obtain ⟨w0, hw0⟩ : ∃ w0, w0 = (w.alloc (.cells #[.string us] 82)).alloc (.cells #[.slice none 0 0, .string ⟨#[]⟩, .int .u64 0] 154) := ⟨_, rfl⟩
  have hA : Below w.heap.size w w0 := hw0 ▸ ((Below.refl _ w).alloc (Nat.le_refl _) _).alloc (by simp) _
  have r0 : w0.heap[w.heap.size]? = _ := hw0 ▸ row_alloc (heap_alloc_new w (.cells #[.string us] 82)) (.cells #[.slice none 0 0, .string ⟨#[]⟩, .int .u64 0] 154)
  have r1 := heap_alloc_new (w.alloc (.cells #[.string us] 82)) (.cells #[.slice none 0 0, .string ⟨#[]⟩, .int .u64 0] 154)
  rw [World.size_alloc, ← hw0] at r1
  have HH := Lib.hid (cdHash us x h w0 (hu.below hA))
  have hml : (mhEnc x.code x.dig).length ≤ 2147483647 := by
    have h1 : (mhEnc x.code x.dig).length ≤ (cidEnc x).length := by unfold cidEnc; split <;> simp <;> omega
    have h2 := h.size.2
    rw [← ba_len, h.eq] at h2
    omega
  have hrd := mhRd_own x.code x.dig h.code_lt (by have := h.fits; omega)
  have HM := Lib.hid hml
  have HRD := Lib.hid hrd
  have HU := Lib.hid hu
  have HA := Lib.hid hA
  have R0 := Lib.hid r0
  have R1 := Lib.hid r1
  have j0 := cell_of_row' (cur := [_]) r0 0
  rw [hw0] at j0 HH
  have HW0 := Lib.hid hw0
  clear hw0 hA r0 r1 hml hrd hu h
  generalize mhEnc x.code x.dig = L at *
  go_enter Tryz.func106, Tryz.ntmps106
  go_wp2_with fail
  refine HH.out.mono ?_
  rw [← HW0.out]
  rintro e w1 ⟨⟨A, n, c, rfl, hbs⟩, hb1⟩
  obtain ⟨hn, _⟩ := hbs.slice
  have hb := below_next HA.out hb1
  obtain ⟨A', c', hs', hD⟩ := Decode_ok A n c L w1 hbs HM.out (HU.out.below hb) x.code x.dig (by rw [hn]; exact HRD.out)
  have HD := Lib.hid (hD w1 (Below.refl _ _))
  have q0 := row_below hb1 (block_of_row R0.out) R0.out
  have q1 := row_below hb1 (block_of_row R1.out) R1.out
  have Q0 := Lib.hid q0
  have Q1 := Lib.hid q1
  have HB := Lib.hid hb
  have HS := Lib.hid hs'
  clear hbs hD hs' q0 q1 hb1 hb hn HH HRD HM j0
  obtain ⟨D, hDD⟩ : ∃ D, D = x.dig.length := ⟨_, rfl⟩
  rw [← hDD] at HD
  have HDD := Lib.hid hDD
  clear hDD
  go_wp2_with fail
  refine HD.out.mono ?_
  rintro e w2 ⟨⟨g, rfl, hg, hrow⟩, hb2⟩
  have k0 := cell_of_row' (cur := [_, _, _, _]) hrow 3
  have s0 := row_below hb2 (block_of_row Q0.out) Q0.out
  have s1 := row_below hb2 (block_of_row Q1.out) Q1.out
  have j0 := cell_of_row' (cur := [_]) s0 0
  have i0 := cell_of_row' (cur := [_, _, _]) s1 0
  have i1 := cell_of_row' (cur := [_, _, _]) s1 1
  have i2 := cell_of_row' (cur := [_, _, _]) s1 2
  have f0 := frozen_of_row' (cur := [_, _, _]) s1 0
  have f1 := frozen_of_row' (cur := [_, _, _]) s1 1
  have f2 := frozen_of_row' (cur := [_, _, _]) s1 2
  have t0 : (w2.setCell ⟨w.heap.size + 1, 0, none⟩ (.slice A' D c')).heap[w.heap.size + 1]? = some (.cells #[.slice A' D c', .string ⟨#[]⟩, .int .u64 0] 154 (0, 0)) := Lib.heap_setCell_same (i := 0) s1 _
  have t1 : ((w2.setCell ⟨w.heap.size + 1, 0, none⟩ (.slice A' D c')).setCell ⟨w.heap.size + 1, 1, none⟩ (.string us)).heap[w.heap.size + 1]? = some (.cells #[.slice A' D c', .string us, .int .u64 0] 154 (0, 0)) := Lib.heap_setCell_same (i := 1) t0 _
  have t2 : (((w2.setCell ⟨w.heap.size + 1, 0, none⟩ (.slice A' D c')).setCell ⟨w.heap.size + 1, 1, none⟩ (.string us)).setCell ⟨w.heap.size + 1, 2, none⟩ (.int .u64 off)).heap[w.heap.size + 1]? = some (.cells #[.slice A' D c', .string us, .int .u64 off] 154 (0, 0)) := Lib.heap_setCell_same (i := 2) t1 _
  have T2 := Lib.hid (show (((w2.setCell ⟨w.heap.size + 1, 0, none⟩ (.slice A' D c')).setCell ⟨w.heap.size + 1, 1, none⟩ (.string us)).setCell ⟨w.heap.size + 1, 2, none⟩ (.int .u64 off)).drew.heap[w.heap.size + 1]? = some (.cells #[.slice A' D c', .string us, .int .u64 off] 154 (0, 0)) from t2)
  have hk : Keep (fun k => k = w.heap.size + 1) w2 (((w2.setCell ⟨w.heap.size + 1, 0, none⟩ (.slice A' D c')).setCell ⟨w.heap.size + 1, 1, none⟩ (.string us)).setCell ⟨w.heap.size + 1, 2, none⟩ (.int .u64 off)).drew :=
    ((((Keep.refl (fun k => k = w.heap.size + 1) w2).setCell rfl _ _).setCell rfl _ _).setCell rfl _ _).trans (keep_drew _ _)
  have HF : Hid (Below w.heap.size w (((w2.setCell ⟨w.heap.size + 1, 0, none⟩ (.slice A' D c')).setCell ⟨w.heap.size + 1, 1, none⟩ (.string us)).setCell ⟨w.heap.size + 1, 2, none⟩ (.int .u64 off)).drew) :=
    Lib.hid ((below_next HB.out hb2).trans (hk.below (fun k h1 h2 => by omega) (below_next HB.out hb2).size))
  have HIn : Hid ((ItD.mk A' c' x.dig us off).In (((w2.setCell ⟨w.heap.size + 1, 0, none⟩ (.slice A' D c')).setCell ⟨w.heap.size + 1, 1, none⟩ (.string us)).setCell ⟨w.heap.size + 1, 2, none⟩ (.int .u64 off)).drew) := Lib.hid <|
    ItD.In.keep' (x := ItD.mk A' c' x.dig us off) (BS.below HS.out hb2) hk fun k hk o v hc => by
      rw [hk, cell_of_row' (cur := [_, _, _]) s1] at hc
      rcases o with _ | _ | _ | o <;> simp at hc
  clear hrow s0 s1 hk t0 t1 t2 hb2 HD Q0 Q1
  go_wp2_with fail
  go_region
  all_goals
    go_wp2
    refine bodyPost_ret (results_cell_row rfl _ _ (w.heap.size + 1) 154 #[.slice A' D c', .string us, .int .u64 off] (0, 0) _ rfl T2.out Tryz.underlying154 rfl (by kernel_rfl)) rfl ?_
    exact ⟨⟨ItD.mk A' c' x.dig us off, rfl, rfl, rfl, by rw [HDD.out]; rfl, HIn.out⟩, HF.out⟩

/-- What an insertion of an identifier leaves of the index. -/
def PutCid (g : Nat) (t : Tr ItD) (us : ByteArray) (d : List UInt8) (off : Int) (w w' : World) : Prop := ∃ r : ItD, r.dig = d ∧ r.us = us ∧ r.off = off ∧ PutAt g t r w w'

set_option maxRecDepth 100000 in
set_option maxHeartbeats 4000000 in
theorem idxPut (us : ByteArray) (x : CidD) (h : CidStr us x) (off : Int) (t : Tr ItD) (g : Nat) (w : World) (hu : UvS w) (hi : IdxAt w g t) (hn : t.toList.length < 1000000) :
    Calls Tryz.prog 68 #[.pointer (some ⟨g, 0, none⟩), .agg #[.string us], .int .u64 off] w fun e w' => e = .returned (.tuple #[]) ∧ PutCid g t us x.dig off w w' := by
  obtain ⟨w0, hw0⟩ : ∃ w0, w0 = (w.alloc (.cells #[.string us] 82)).drew := ⟨_, rfl⟩
  have hA : Below w.heap.size w w0 := hw0 ▸ below_next ((Below.refl _ w).alloc (Nat.le_refl _) _) (below_drewN _ _ 1)
  have r0 : w0.heap[w.heap.size]? = some (.cells #[.string us] 82 (0, 0)) := by rw [hw0]; exact heap_alloc_new w (.cells #[.string us] 82)
  have HR := Lib.hid (newRec us x h off w0 (hu.below hA))
  have j0 := cell_of_row' (cur := [_]) r0 0
  have HI := Lib.hid hi
  have HA := Lib.hid hA
  rw [hw0] at j0 HR
  have HW0 := Lib.hid hw0
  have HN := Lib.hid hn
  clear hw0 hA r0 hu hi hn h
  go_enter Tryz.func68, Tryz.ntmps68
  go_wp2_with fail
  go_region_with (first
    | (go_at_call 106; (with_reducible refine HR.out.mono ?_); rw [← HW0.out]; rintro e w1 ⟨⟨r, h1, h2, h3, rfl, hin⟩, hb⟩; have hb1 := below_next HA.out hb; have HP := Lib.hid (llrbPut r t g w1 (HI.out.below hb1) hin HN.out); have HB1 := Lib.hid hb1; have H1 := Lib.hid h1; have H2 := Lib.hid h2; have H3 := Lib.hid h3; clear h1 h2 h3 hin hb hb1)
    | (go_at_call 105; (with_reducible refine HP.out.mono ?_); rintro e w2 ⟨rfl, hput⟩))
  all_goals
    go_end0
    obtain ⟨q, hq, h5, h6⟩ := hput
    exact ⟨rfl, r, H1.out, H2.out, H3.out, q, Nat.le_trans HB1.out.size hq, h5, (HB1.out.keep).trans h6⟩
end Go.Proofs.YthehmnpbepmnpaaGreatDoorR
/- Contract: impl.insertion: an index of entries. -/
namespace Go.Proofs.YthehmnpbepmnpaaGreatDoorR
open Go.RowKit

/-- A record's parts. -/
structure Rc where
  dig : List UInt8
  us : ByteArray
  off : Int
def ItD.rc (x : ItD) : Rc := ⟨x.dig, x.us, x.off⟩
/-- A record put behind those that are not behind it. -/
def insR (x : Rc) : List Rc → List Rc
  | [] => [x]
  | y :: l => if blt x.dig y.dig = true then x :: y :: l else y :: insR x l
theorem insR_split (x : Rc) : ∀ (a b : List Rc), (∀ y ∈ a, blt x.dig y.dig = false) → (∀ y ∈ b, blt x.dig y.dig = true) → insR x (a ++ b) = a ++ x :: b
  | [], [], _, _ => rfl
  | [], y :: b, _, h => by
    show insR x (y :: b) = x :: y :: b
    rw [insR, if_pos (h y (by simp))]
  | y :: a, b, h, k => by
    show insR x (y :: (a ++ b)) = y :: (a ++ x :: b)
    rw [insR, if_neg (by rw [h y (by simp)]; simp), insR_split x a b (fun z hz => h z (by simp [hz])) k]
theorem mem_insR {x z : Rc} : ∀ {l : List Rc}, z ∈ insR x l ↔ z = x ∨ z ∈ l
  | [] => by simp [insR]
  | y :: l => by
    rw [insR]
    split
    · simp
    · rw [List.mem_cons, mem_insR, List.mem_cons]
      constructor
      · rintro (h | h | h)
        · exact .inr (.inl h)
        · exact .inl h
        · exact .inr (.inr h)
      · rintro (h | h | h)
        · exact .inr (.inl h)
        · exact .inl h
        · exact .inr (.inr h)

/-- An entry: an identifier and an offset. -/
structure EntD where
  cid : CidD
  off : Nat
def cidS (x : CidD) : ByteArray := ⟨(cidEnc x).toArray⟩
def EntD.rc (e : EntD) : Rc := ⟨e.cid.dig, cidS e.cid, e.off⟩
/-- The records of entries, in the tree's order. -/
def recsOf (es : List EntD) : List Rc := es.foldl (fun l e => insR e.rc l) []
theorem recsOf_snoc (es : List EntD) (e : EntD) : recsOf (es ++ [e]) = insR e.rc (recsOf es) := by
  unfold recsOf
  rw [List.foldl_append]
  rfl
theorem mem_recsOf {z : Rc} (es : List EntD) : z ∈ recsOf es ↔ ∃ e ∈ es, e.rc = z := by
  have h : ∀ (es : List EntD) (l : List Rc), z ∈ es.foldl (fun l e => insR e.rc l) l ↔ z ∈ l ∨ ∃ e ∈ es, e.rc = z := by
    intro es
    induction es with
    | nil => intro l; simp
    | cons e es ih =>
      intro l
      rw [List.foldl_cons, ih, mem_insR]
      constructor
      · rintro ((h | h) | ⟨e', h1, h2⟩)
        · exact .inr ⟨e, by simp, h.symm⟩
        · exact .inl h
        · exact .inr ⟨e', by simp [h1], h2⟩
      · rintro (h | ⟨e', h1, h2⟩)
        · exact .inl (.inr h)
        · rcases List.mem_cons.1 h1 with rfl | h1
          · exact .inl (.inl h2.symm)
          · exact .inr ⟨e', h1, h2⟩
  rw [show recsOf es = es.foldl (fun l e => insR e.rc l) [] from rfl, h]
  simp

/-- The tree holds the records of the entries. -/
structure RelT (es : List EntD) (t : Tr ItD) : Prop where
  sorted : Tr.Sorted ItD.dig t.toList
  recs : t.toList.map ItD.rc = recsOf es
theorem RelT.put {es : List EntD} {t : Tr ItD} (h : RelT es t) (e : EntD) (r : ItD) (hr : r.rc = e.rc) (q : Nat) : RelT (es ++ [e]) (t.put q r) := by
  refine ⟨by rw [Tr.toList_blacken]; exact Tr.ins_sorted ItD.dig q r t h.sorted, ?_⟩
  rw [Tr.toList_blacken, recsOf_snoc, ← h.recs, ← hr]
  obtain ⟨a, b, e1, e2, e3, e4⟩ := Tr.ins_split ItD.dig q r t h.sorted
  have e2' : (t.ins ItD.lt q r).toList = a ++ r :: b := e2
  rw [e2', e1, List.map_append, List.map_append, List.map_cons]
  refine (insR_split r.rc _ _ (fun y hy => ?_) (fun y hy => ?_)).symm
  · obtain ⟨z, hz, rfl⟩ := List.mem_map.1 hy
    exact e3 z hz
  · obtain ⟨z, hz, rfl⟩ := List.mem_map.1 hy
    exact e4 z hz
theorem RelT.length {es : List EntD} {t : Tr ItD} (h : RelT es t) : t.toList.length = es.length := by
  have h1 := congrArg List.length h.recs
  rw [List.length_map] at h1
  rw [h1]
  have hI : ∀ (x : Rc) (l : List Rc), (insR x l).length = l.length + 1 := by
    intro x l
    induction l with
    | nil => rfl
    | cons y l ih => rw [insR]; split <;> simp [ih]
  have : ∀ (es : List EntD) (l : List Rc), (es.foldl (fun l e => insR e.rc l) l).length = l.length + es.length := by
    intro es
    induction es with
    | nil => intro l; simp
    | cons e es ih => intro l; rw [List.foldl_cons, ih, hI]; simp; omega
  rw [recsOf, this]; simp

/-- The slice value v holds the entries es. -/
def ES (w : World) (v : Value) (es : List EntD) : Prop :=
  ∃ (A : Option Addr) (c : Nat), v = .slice A es.length c ∧ es.length ≤ c ∧ (0 < es.length → ∃ b o, A = some ⟨b, o, none⟩ ∧ ∀ (j : Nat) (x : EntD), es[j]? = some x →
    w.cell? ⟨b, o + j * 5, none⟩ = some (.int .u64 x.cid.ver) ∧ w.cell? ⟨b, o + j * 5 + 1, none⟩ = some (.int .u64 x.cid.codec) ∧ w.cell? ⟨b, o + j * 5 + 2, none⟩ = some (.int .u64 x.cid.code) ∧ w.cell? ⟨b, o + j * 5 + 3, none⟩ = some (.string ⟨x.cid.dig.toArray⟩) ∧ w.cell? ⟨b, o + j * 5 + 4, none⟩ = some (.int .u64 x.off))
theorem ES.below {w w' : World} {v : Value} {es : List EntD} (h : ES w v es) (hb : Below w.heap.size w w') : ES w' v es := by
  obtain ⟨A, c, e, hc, h⟩ := h
  refine ⟨A, c, e, hc, fun hl => ?_⟩
  obtain ⟨b, o, e, h⟩ := h hl
  exact ⟨b, o, e, fun j x hj => ⟨below_cell hb (h j x hj).1, below_cell hb (h j x hj).2.1, below_cell hb (h j x hj).2.2.1, below_cell hb (h j x hj).2.2.2.1, below_cell hb (h j x hj).2.2.2.2⟩⟩

/-- An entry of which the statements speak. -/
def EntD.good (e : EntD) : Prop := e.cid.tidy ∧ 0 < e.cid.dig.length ∧ e.cid.dig.length ≤ 200
theorem EntD.good.str {e : EntD} (h : e.good) : CidStr (cidS e.cid) e.cid := ⟨rfl, h.1, by have := h.2.2; omega⟩

set_option maxRecDepth 100000 in
theorem newIndex (w : World) : Calls Tryz.prog 67 #[] w fun e w' => e = .returned (.pointer (some ⟨w.heap.size, 0, none⟩)) ∧ w' = w.alloc (.cells #[.int .i64 0, .pointer none] 146) := by
  go_enter Tryz.func67, Tryz.ntmps67
  go_wp2
  go_ret
  exact ⟨rfl, rfl⟩

/-- Where the loop stands: the first k entries are in the tree. -/
structure InsRel (es : List EntD) (w : World) (k : Nat) (t : Tr ItD) (wr : World) : Prop where
  idx : IdxAt wr w.heap.size t
  rel : RelT (es.take k) t
  base : ∀ j ∈ t.blocks, w.heap.size ≤ j
  below : Below w.heap.size w wr
theorem InsRel.start (es : List EntD) (w : World) : InsRel es w 0 .nil (w.alloc (.cells #[.int .i64 0, .pointer none] 146)) :=
  ⟨⟨heap_alloc_new w _, trivial, List.nodup_nil, fun y hy => by simp [Tr.toList] at hy⟩, ⟨List.Pairwise.nil, rfl⟩, fun j hj => by simp [Tr.blocks] at hj, (Below.refl _ _).alloc (Nat.le_refl _) _⟩
theorem InsRel.next {es : List EntD} {w wr w1 w2 : World} {k : Nat} {t : Tr ItD} (h : InsRel es w k t wr) (hb : Below wr.heap.size wr w1) {e : EntD} (he : es[k]? = some e) (hp : PutCid w.heap.size t (cidS e.cid) e.cid.dig e.off w1 w2) : ∃ t', InsRel es w (k + 1) t' w2 := by
  obtain ⟨r, h1, h2, h3, q, hq, h4, h5⟩ := hp
  have hs := (below_next h.below hb).size
  refine ⟨t.put q r, h4, ?_, fun j hj => ?_, ?_⟩
  · have : es.take (k + 1) = es.take k ++ [e] := by rw [List.take_add_one, he]; rfl
    rw [this]
    exact h.rel.put e r (by unfold ItD.rc EntD.rc; rw [h1, h2, h3]) q
  · rw [Tr.blocks_blacken] at hj
    rcases List.mem_cons.1 ((Tr.blocks_ins ItD.lt q r t).mem_iff.1 hj) with rfl | hj
    · omega
    · exact h.base j hj
  · exact (below_next h.below hb).trans (h5.below (fun j hj h6 => by
      rcases h6 with rfl | h6
      · omega
      · have := h.base j h6; omega) hs)

/-- What the index of entries is. -/
def IsIdx (es : List EntD) (w : World) (e : Ending) (w' : World) : Prop := ∃ t, e = .returned (.tuple #[.pointer (some ⟨w.heap.size, 0, none⟩), .bool true]) ∧ IdxAt w' w.heap.size t ∧ RelT es t

abbrev entO (v0 v1 v2 : Int) (d : ByteArray) (f : Int) : Obj := .cells #[.int .u64 v0, .int .u64 v1, .int .u64 v2, .string d, .int .u64 f] 29

set_option maxRecDepth 100000 in
set_option maxHeartbeats 8000000 in
theorem insertion_ok (v : Value) (es : List EntD) (w : World) (hv : ES w v es) (hg : ∀ e ∈ es, e.good) (hn : es.length ≤ 100) (hu : UvS w) :
    Calls Tryz.prog 33 #[v] w fun e w' => IsIdx es w e w' ∧ Below w.heap.size w w' := by
  obtain ⟨A, c, rfl, hc, hcells⟩ := hv
  obtain ⟨n, hN⟩ : ∃ n, n = es.length := ⟨_, rfl⟩
  rw [← hN] at hn
  have HC := Lib.hid hcells
  have HN := Lib.hid hN
  have HG := Lib.hid hg
  have HU := Lib.hid hu
  have HI := Lib.hid (newIndex w)
  rw [← hN]
  clear hcells hc hN hg hu
  go_enter Tryz.func33, Tryz.ntmps33
  go_wp2_with fail
  refine HI.out.mono ?_
  rintro e w0 ⟨rfl, rfl⟩
  go_wp2_with fail
  go_loopw [12] (fun i wr => ∃ (k : Nat) (t : Tr ItD), k ≤ n ∧ i = .int .i64 k ∧ InsRel es w k t wr) (fun i _ => n - (intOf i).toNat)
  case atStart => exact ⟨0, .nil, Nat.zero_le _, rfl, InsRel.start es w⟩
  case round =>
    obtain ⟨k, t, hk, rfl, hr⟩ := hrel
    have HR := Lib.hid hr
    clear hr
    by_cases hlt : k < n
    · obtain ⟨b, o, rfl, hcl⟩ := HC.out (by rw [← HN.out]; omega)
      have hks : k < es.length := by rw [← HN.out]; exact hlt
      obtain ⟨x, hsv⟩ : ∃ x, es[k]? = some x := ⟨_, List.getElem?_eq_getElem hks⟩
      obtain ⟨q0, q1, q2, q3, q4⟩ := hcl k x hsv
      have hb := HR.out.below
      have c0 := below_cell hb q0
      have c1 := below_cell hb q1
      have c2 := below_cell hb q2
      have c3 := below_cell hb q3
      have c4 := below_cell hb q4
      have hgx := HG.out x (List.mem_of_getElem? hsv)
      obtain ⟨w1, hw1⟩ : ∃ w1, w1 = wr.alloc (entO x.cid.ver x.cid.codec x.cid.code ⟨x.cid.dig.toArray⟩ x.off) := ⟨_, rfl⟩
      have hal : Below wr.heap.size wr w1 := hw1 ▸ (Below.refl _ wr).alloc (Nat.le_refl _) _
      have hra := heap_alloc_new wr (entO x.cid.ver x.cid.codec x.cid.code ⟨x.cid.dig.toArray⟩ x.off)
      rw [← hw1] at hra
      have HCI := Lib.hid (cidIn_ok x.cid hgx.1 ⟨x.cid.dig.toArray⟩ rfl (by have := hgx.2.2; show x.cid.dig.toArray.size ≤ _; simp; omega) w1 (HU.out.below (below_next hb hal)))
      have j0 := cell_of_row' (cur := [_, _, _, _, _]) hra 0
      have j1 := cell_of_row' (cur := [_, _, _, _, _]) hra 1
      have j2 := cell_of_row' (cur := [_, _, _, _, _]) hra 2
      have j3 := cell_of_row' (cur := [_, _, _, _, _]) hra 3
      have HRA := Lib.hid hra
      have HAL := Lib.hid hal
      have HSV := Lib.hid hsv
      have HGX := Lib.hid hgx
      rw [hw1] at j0 j1 j2 j3 HCI
      have HW1 := Lib.hid hw1
      clear hcl hks hsv q0 q1 q2 q3 q4 hb hgx hal hra hw1
      obtain ⟨us, hus⟩ : ∃ us : ByteArray, us = ⟨(cidEnc x.cid).toArray⟩ := ⟨_, rfl⟩
      rw [← hus] at HCI
      have HUS := Lib.hid hus
      clear hus
      go_wp2_with fail
      refine HCI.out.mono ?_
      rw [← HW1.out]
      rintro e w2 ⟨rfl, hb2⟩
      have hal3 : Below w2.heap.size w2 (w2.alloc (.cells #[.string us] 82)) := (Below.refl _ w2).alloc (Nat.le_refl _) _
      have hb3 := below_next (below_next HAL.out hb2) hal3
      have HP := Lib.hid (idxPut us x.cid (by rw [HUS.out]; exact HGX.out.str) x.off t w.heap.size _ (HU.out.below (below_next HR.out.below hb3)) (HR.out.idx.below hb3) (by rw [HR.out.rel.length, List.length_take]; omega))
      have hra3 := row_alloc (row_below hb2 (block_of_row HRA.out) HRA.out) (.cells #[.string us] 82)
      have m4 := cell_of_row' (cur := [_, _, _, _, _]) hra3 4
      have HB3 := Lib.hid hb3
      clear hal3 hb2 hb3 hra3 HCI j0 j1 j2 j3 c0 c1 c2 c3 c4 HAL
      go_wp2_with fail
      refine HP.out.mono ?_
      rintro e w4 ⟨rfl, hput⟩
      have hnext : ∃ t', InsRel es w (k + 1) t' w4 := HR.out.next HB3.out HSV.out (by rw [show cidS x.cid = us from HUS.out.symm]; exact hput)
      have HX := Lib.hid hnext
      clear hput hnext HP m4 HB3 HR
      go_wp2
      go_roundw
      case rel =>
        obtain ⟨t', ht'⟩ := HX.out
        exact ⟨k + 1, t', by omega, by go_num, ht'⟩
      case measure => simp [intOf]; omega
    · obtain rfl : k = n := by omega
      go_wp2
      go_ret2
      have hrl := HR.out.rel
      rw [List.take_of_length_le (by rw [HN.out]; exact Nat.le_refl _)] at hrl
      exact ⟨⟨t, rfl, HR.out.idx, hrl⟩, HR.out.below⟩
end Go.Proofs.YthehmnpbepmnpaaGreatDoorR
/- Contract: a walk over a tree from a pivot on, with a function that looks at each item. -/
namespace Go.Proofs.YthehmnpbepmnpaaGreatDoorR
open Go.RowKit

/-- What a walk over these items finds. -/
abbrev finds (u : List UInt8) (hit : ItD → Bool) (l : List ItD) : Bool × Bool := scan (findStep ItD.dig u hit) false l
theorem findStep_go {u : List UInt8} {hit : ItD → Bool} {s : Bool} {x : ItD} (h : (findStep ItD.dig u hit s x).1 = true) : (findStep ItD.dig u hit s x).2 = false := by
  unfold findStep at *
  split at h
  · rename_i hk
    rw [if_pos hk]
    split at h
    · cases h
    · rename_i hh
      rw [if_neg hh]
  · cases h
theorem finds_go {u : List UInt8} {hit : ItD → Bool} : ∀ {l : List ItD}, (finds u hit l).1 = true → (finds u hit l).2 = false
  | [], _ => rfl
  | x :: l, h => by
    unfold finds scan at *
    split at h
    · rename_i hx
      rw [if_pos hx]
      rw [findStep_go hx] at h ⊢
      exact finds_go (l := l) h
    · cases h
theorem finds_append {u : List UInt8} {hit : ItD → Bool} {a b : List ItD} : finds u hit (a ++ b) = if (finds u hit a).1 = true then finds u hit b else (false, (finds u hit a).2) := by
  unfold finds
  rw [scan_append]
  split
  · rename_i h
    have := finds_go (l := a) h
    unfold finds at this
    rw [this]
  · rfl
theorem finds_cons {u : List UInt8} {hit : ItD → Bool} {x : ItD} {l : List ItD} : finds u hit (x :: l) = if (findStep ItD.dig u hit false x).1 = true then finds u hit l else (false, (findStep ItD.dig u hit false x).2) := by
  show scan (findStep ItD.dig u hit) false (x :: l) = _
  rw [scan]
  split
  · rename_i h
    rw [findStep_go h]
  · rfl

theorem Tr.asc_yes {α : Type} {f : α → Bool} {p : Nat} {l r : Tr α} {x : α} {b : Bool} (h : f x = true) : (Tr.node p l x r b).asc f = r.asc f := by
  show (if f x = true then r.asc f else l.asc f ++ x :: r.asc f) = _
  exact if_pos h
theorem Tr.asc_no {α : Type} {f : α → Bool} {p : Nat} {l r : Tr α} {x : α} {b : Bool} (h : f x = false) : (Tr.node p l x r b).asc f = l.asc f ++ x :: r.asc f := by
  show (if f x = true then r.asc f else l.asc f ++ x :: r.asc f) = _
  exact if_neg (by rw [h]; simp)

/-- The found variable. -/
abbrev fbO (s : Bool) : Obj := .cells #[.bool s] 4 (0, 0)
/-- What the walk rests on: the tree, its items, the pivot, and what the function asks of the world (E). -/
structure AscAt (E : World → Prop) (fb : Nat) (t : Tr ItD) (pv : ItD) (W : World) : Prop where
  at_ : t.At ItD.val W
  in_ : ∀ y ∈ t.toList, y.In W
  pv : pv.In W
  env : E W
  off : fb ∉ t.blocks
theorem AscAt.keep {E : World → Prop} {fb : Nat} {t : Tr ItD} {pv : ItD} {W W' : World} {s : Bool} (h : AscAt E fb t pv W) (hf : W.heap[fb]? = some (fbO s)) (hk : Keep (fun k => k = fb) W W') (hE : ∀ W W', E W → Keep (fun k => k = fb) W W' → E W') : AscAt E fb t pv W' := by
  have hnb : ∀ k, k = fb → NoByte W k := fun k e o v hc => by
    rw [e, cell_of_row' (cur := [_]) hf] at hc
    rcases o with _ | o <;> simp at hc
  exact ⟨h.at_.keep hk (fun k hm e => h.off (e ▸ hm)), fun y hy => (h.in_ y hy).keep' hk hnb, h.pv.keep' hk hnb, hE _ _ h.env hk, h.off⟩

/-- What the walk leaves. -/
def AscTo (fb : Nat) (r : Bool × Bool) (W : World) (e : Ending) (w' : World) : Prop := e = .returned (.bool r.1) ∧ w'.heap[fb]? = some (fbO r.2) ∧ Keep (fun k => k = fb) W w'

theorem AscAt.left {E : World → Prop} {fb p : Nat} {l r : Tr ItD} {x pv : ItD} {b : Bool} {W : World} (h : AscAt E fb (.node p l x r b) pv W) : AscAt E fb l pv W :=
  ⟨h.at_.2.1, fun y hy => h.in_ y (by simp [Tr.toList, hy]), h.pv, h.env, fun hm => h.off (by simp [Tr.blocks, hm])⟩
theorem AscAt.right {E : World → Prop} {fb p : Nat} {l r : Tr ItD} {x pv : ItD} {b : Bool} {W : World} (h : AscAt E fb (.node p l x r b) pv W) : AscAt E fb r pv W :=
  ⟨h.at_.2.2, fun y hy => h.in_ y (by simp [Tr.toList, hy]), h.pv, h.env, fun hm => h.off (by simp [Tr.blocks, hm])⟩
/-- What the function does at an item. -/
def Looks (F : FuncId) (c1 c2 : Value) (fb : Nat) (E : World → Prop) (Pz : ItD → Prop) (u : List UInt8) (hit : ItD → Bool) : Prop :=
  ∀ (x : ItD) (W : World), Pz x → E W → x.In W → W.heap[fb]? = some (fbO false) → Calls Tryz.prog F #[x.item, c1, c2, .pointer (some ⟨fb, 0, none⟩)] W (AscTo fb (findStep ItD.dig u hit false x) W)

set_option maxRecDepth 100000 in
set_option maxHeartbeats 4000000 in
theorem asc_any (F : FuncId) (eF : ∀ args w, (callFunc F args).run Tryz.prog w = .ok (.enter F args) w) (c1 c2 : Value) (fb : Nat) (E : World → Prop) (hE : ∀ W W', E W → Keep (fun k => k = fb) W W' → E W') (Pz : ItD → Prop) (u : List UInt8) (hit : ItD → Bool)
    (hF : Looks F c1 c2 fb E Pz u hit) (T : Option Addr) (pv : ItD) : ∀ (t : Tr ItD) (W : World), AscAt E fb t pv W → (∀ y ∈ t.toList, Pz y) → W.heap[fb]? = some (fbO false) →
    Calls Tryz.prog 107 #[.pointer T, .pointer t.addr, pv.item, .func (.func F) #[] #[c1, c2, .pointer (some ⟨fb, 0, none⟩)]] W (AscTo fb (finds u hit (t.asc (fun x => blt x.dig pv.dig))) W)
  | .nil, W, _, _, hf => by
    show Calls Tryz.prog _ #[.pointer T, .pointer none, _, _] W _
    have HF := Lib.hid hf
    clear hf
    go_enter Tryz.func107, Tryz.ntmps107
    go_wp2
    go_ret
    exact ⟨rfl, HF.out, Keep.refl _ _⟩
  | .node p l x r b, W, h, hp, hf => by
    have HL := Lib.hid (less_any x pv W (h.in_ x (by simp [Tr.toList])) h.pv)
    have IL := Lib.hid (fun W' (a : AscAt E fb l pv W') (f : W'.heap[fb]? = some (fbO false)) => asc_any F eF c1 c2 fb E hE Pz u hit hF T pv l W' a (fun y hy => hp y (by simp [Tr.toList, hy])) f)
    have IR := Lib.hid (fun W' (a : AscAt E fb r pv W') (f : W'.heap[fb]? = some (fbO false)) => asc_any F eF c1 c2 fb E hE Pz u hit hF T pv r W' a (fun y hy => hp y (by simp [Tr.toList, hy])) f)
    have HX := Lib.hid (hp x (by simp [Tr.toList]))
    have HH := Lib.hid h
    have HFB := Lib.hid hf
    have HFF := Lib.hid hF
    obtain ⟨⟨p0, p1, p2, _⟩, _⟩ := node_cells h.at_.1
    clear h hp hf hF
    show Calls Tryz.prog _ #[.pointer T, .pointer (some ⟨p, 0, none⟩), _, _] W _
    cases hc : blt x.dig pv.dig with
    | true =>
      rw [hc] at HL
      have hasc : Hid ((Tr.node p l x r b).asc (fun x => blt x.dig pv.dig) = r.asc (fun x => blt x.dig pv.dig)) := Lib.hid (Tr.asc_yes hc)
      clear hc p1
      go_enter Tryz.func107, Tryz.ntmps107
      go_wp2_with fail
      refine HL.out.mono ?_
      rintro e w1 ⟨rfl, hb⟩
      have c2' := below_cell hb p2
      have hk := hb.keep (S := fun k => k = fb)
      have HI := Lib.hid (IR.out w1 ((HH.out.keep HFB.out hk hE).right) (row_below hb (block_of_row HFB.out) HFB.out))
      have HK := Lib.hid hk
      clear p0 p2 hb hk HL IL IR
      go_wp2_with fail
      refine HI.out.mono ?_
      rintro e w2 ⟨rfl, h1, h2⟩
      have H1 := Lib.hid h1
      clear h1
      go_wp2
      go_ret
      exact ⟨by rw [hasc.out]; rfl, by rw [hasc.out]; exact H1.out, HK.out.trans h2⟩
    | false =>
      rw [hc] at HL
      obtain ⟨L, hL⟩ : ∃ L, L = l.asc (fun x => blt x.dig pv.dig) := ⟨_, rfl⟩
      obtain ⟨R, hR⟩ : ∃ R, R = r.asc (fun x => blt x.dig pv.dig) := ⟨_, rfl⟩
      have hasc : Hid ((Tr.node p l x r b).asc (fun x => blt x.dig pv.dig) = L ++ x :: R) := Lib.hid (by rw [hL, hR]; exact Tr.asc_no hc)
      rw [← hL] at IL
      rw [← hR] at IR
      clear hc hL hR
      go_enter Tryz.func107, Tryz.ntmps107
      go_wp2_with fail
      refine HL.out.mono ?_
      rintro e w1 ⟨rfl, hb⟩
      have d0 := below_cell hb p0
      have d1 := below_cell hb p1
      have d2 := below_cell hb p2
      have hk := hb.keep (S := fun k => k = fb)
      have a1 := HH.out.keep HFB.out hk hE
      have f1 := row_below hb (block_of_row HFB.out) HFB.out
      have HI := Lib.hid (IL.out w1 a1.left f1)
      have HK := Lib.hid hk
      have A1 := Lib.hid a1
      have F1 := Lib.hid f1
      clear p0 p1 p2 hb hk HL IL a1 f1 HFB HH
      go_wp2_with fail
      refine HI.out.mono ?_
      rintro e w2 ⟨rfl, h1, h2⟩
      have HK2 := Lib.hid (HK.out.trans h2)
      have hpf : ¬ p = fb := fun e => A1.out.off (by rw [e]; simp [Tr.blocks])
      have e0 := h2.cell d0 hpf
      have e2 := h2.cell d2 hpf
      have A2 := Lib.hid (A1.out.keep F1.out h2 hE)
      have H1 := Lib.hid h1
      clear h1 h2 HI HK A1 F1 d0 d1 d2
      cases hfl : (finds u hit L).1 with
      | false =>
        go_wp2
        go_ret
        refine ⟨by rw [hasc.out, finds_append, if_neg (by rw [hfl]; simp)]; rfl, by rw [hasc.out, finds_append, if_neg (by rw [hfl]; simp)]; exact H1.out, HK2.out⟩
      | true =>
        have hf2 : w2.heap[fb]? = some (fbO false) := by rw [← finds_go hfl]; exact H1.out
        have HFL := Lib.hid hfl
        have HC := Lib.hid (HFF.out x w2 HX.out A2.out.env (A2.out.in_ x (by simp [Tr.toList])) hf2)
        have F2 := Lib.hid hf2
        clear hfl hf2 H1
        go_wp2_with fail
        refine HC.out.mono ?_
        rintro e w3 ⟨rfl, h3, h4⟩
        have j2 := h4.cell e2 hpf
        have HK3 := Lib.hid (HK2.out.trans h4)
        have A3 := Lib.hid (A2.out.keep F2.out h4 hE)
        have H3 := Lib.hid h3
        clear h3 h4 e0 e2 HC HK2 A2 F2
        cases hst : (findStep ItD.dig u hit false x).1 with
        | false =>
          go_wp2
          go_ret
          refine ⟨by rw [hasc.out, finds_append, if_pos HFL.out, finds_cons, if_neg (by rw [hst]; simp)]; rfl, by rw [hasc.out, finds_append, if_pos HFL.out, finds_cons, if_neg (by rw [hst]; simp)]; exact H3.out, HK3.out⟩
        | true =>
          have hf3 : w3.heap[fb]? = some (fbO false) := by rw [← findStep_go hst]; exact H3.out
          have HI := Lib.hid (IR.out w3 A3.out.right hf3)
          have HST := Lib.hid hst
          clear hst hf3 H3 IR
          go_wp2_with fail
          refine HI.out.mono ?_
          rintro e w4 ⟨rfl, h5, h6⟩
          have H5 := Lib.hid h5
          clear h5
          go_wp2
          go_ret
          exact ⟨by rw [hasc.out, finds_append, if_pos HFL.out, finds_cons, if_pos HST.out]; rfl, by rw [hasc.out, finds_append, if_pos HFL.out, finds_cons, if_pos HST.out]; exact H5.out, HK3.out.trans h6⟩
end Go.Proofs.YthehmnpbepmnpaaGreatDoorR
/- Contracts: HasExactCID and its function. -/
namespace Go.Proofs.YthehmnpbepmnpaaGreatDoorR
open Go.RowKit

theorem ba_toList2 (s : ByteArray) : s.toList = s.data.toList := by rw [ByteArray.toList_eq]
theorem ba_beq2 (s t : ByteArray) : (s.toList == t.toList) = decide (s = t) := by
  by_cases h : s = t
  · subst h; simp
  · have : s.toList ≠ t.toList := fun e => h (by
      rw [ba_toList2, ba_toList2] at e
      rw [← ba_mk s, ← ba_mk t, e])
    simp [h, this]
theorem run_eqCid2 (s t : ByteArray) (w : World) : (binOp .eql 82 (.agg #[.string s]) (.agg #[.string t])).run Tryz.prog w = .ok (.bool (decide (s = t))) w := by
  have h : (Op.equalIn (9998 + 2) 82 (.agg #[.string s]) (.agg #[.string t])).run Tryz.prog w = .ok (s.toList == t.toList) w := by
    refine structs_equal Tryz.underlying82 (by kernel_rfl) ?_
    refine fields_last (by decide) (by go_simp; rfl) (by go_simp; rfl) ?_
    go_simp
  simp only [binOp]
  simp [Op.equal, Op.maxDepth, h, ba_beq2]

theorem bytesEq {w : World} {A B : Option Addr} {n m c d : Nat} {l k : List UInt8} (h : BS w (.slice A n c) l) (h2 : BS w (.slice B m d) k) :
    Calls Tryz.prog 80 #[.slice A n c, .slice B m d] w fun e w' => e = .returned (.bool (decide (l = k))) ∧ w' = w := by
  have h3 := Tryz.bytes_Equal_strs (.slice A n c) (.slice B m d) ⟨l.toArray⟩ ⟨k.toArray⟩ w (h.str (dst := 9) Tryz.underlying98 Tryz.underlying5 Tryz.underlying9) (h2.str (dst := 9) Tryz.underlying98 Tryz.underlying5 Tryz.underlying9)
  refine h3.mono fun e w' ⟨h4, h5⟩ => ⟨?_, h5⟩
  rw [h4, ba_beq2]
  congr 3
  by_cases he : l = k
  · subst he; simp
  · have : ¬ ((⟨l.toArray⟩ : ByteArray) = ⟨k.toArray⟩) := fun e => he (by injection e with e; simpa using e)
    simp [he, this]

/-- What the function of HasExactCID asks of the world: the entry asked for, the identifier asked for. -/
structure ExEnv (eb cb fb : Nat) (A : Option Addr) (c : Nat) (u : List UInt8) (cs : ByteArray) (W : World) : Prop where
  ent : W.heap[eb]? = some (.cells #[.slice A u.length c, .string ⟨#[]⟩, .int .u64 0] 154 (0, 0))
  cid : W.heap[cb]? = some (.cells #[.string cs] 82 (0, 0))
  bs : BSo (fun k => k = fb) W (.slice A u.length c) u
  n1 : eb ≠ fb
  n2 : cb ≠ fb
theorem ExEnv.keep {eb cb fb : Nat} {A : Option Addr} {c : Nat} {u : List UInt8} {cs : ByteArray} (W W' : World) (h : ExEnv eb cb fb A c u cs W) (hk : Keep (fun k => k = fb) W W') : ExEnv eb cb fb A c u cs W' :=
  ⟨hk.row h.ent h.n1, hk.row h.cid h.n2, h.bs.keep hk, h.n1, h.n2⟩

set_option maxRecDepth 100000 in
set_option maxHeartbeats 1000000 in
/-- (*LLRB).AscendGreaterOrEqual over the whole tree. -/
theorem ascAll (F : FuncId) (eF : ∀ args w, (callFunc F args).run Tryz.prog w = .ok (.enter F args) w) (c1 c2 : Value) (fb : Nat) (E : World → Prop) (hE : ∀ W W', E W → Keep (fun k => k = fb) W W' → E W') (Pz : ItD → Prop) (u : List UInt8) (hit : ItD → Bool)
    (hF : Looks F c1 c2 fb E Pz u hit) (g : Nat) (pv : ItD) (t : Tr ItD) (W : World) (hi : IdxAt W g t) (ha : AscAt E fb t pv W) (hp : ∀ y ∈ t.toList, Pz y) (hf : W.heap[fb]? = some (fbO false)) :
    Calls Tryz.prog 69 #[.pointer (some ⟨g, 0, none⟩), pv.item, .func (.func F) #[] #[c1, c2, .pointer (some ⟨fb, 0, none⟩)]] W fun e w' => e = .returned (.tuple #[]) ∧ w'.heap[fb]? = some (fbO (finds u hit (t.asc (fun x => blt x.dig pv.dig))).2) ∧ Keep (fun k => k = fb) W w' := by
  have HA := Lib.hid (asc_any F eF c1 c2 fb E hE Pz u hit hF (some ⟨g, 0, none⟩) pv t W ha hp hf)
  have k1 : W.cell? ⟨g, 1, none⟩ = some (.pointer t.addr) := cell_of_row' (cur := [_, _]) hi.row 1
  clear hi ha hp hf hF eF
  go_enter Tryz.func69, Tryz.ntmps69
  go_wp2_with fail
  refine HA.out.mono ?_
  rintro e w1 ⟨rfl, h1, h2⟩
  have H1 := Lib.hid h1
  clear h1
  go_wp2
  go_end0
  exact ⟨rfl, H1.out, h2⟩
end Go.Proofs.YthehmnpbepmnpaaGreatDoorR
/- Contracts: HasExactCID; the function of HasMultihash, HasMultihash. -/
namespace Go.Proofs.YthehmnpbepmnpaaGreatDoorR
open Go.RowKit

theorem bso_of {w : World} {A : Option Addr} {c : Nat} {u : List UInt8} {fb : Nat} (h : BS w (.slice A u.length c) u) (hfb : w.heap.size ≤ fb) : BSo (fun k => k = fb) w (.slice A u.length c) u := by
  refine ⟨h, fun hl A' n' c' a e1 e2 => ?_⟩
  injection e1 with e1 _ _
  subst e1
  obtain ⟨b, o, e3, hc⟩ := h.at_ hl
  rw [e2] at e3
  injection e3 with e3
  subst e3
  have := block_of_cell (hc 0 hl)
  show ¬ b = fb
  have h2 : (⟨b, o + 0, none⟩ : Addr).block = b := rfl
  omega
theorem mh_size {us : ByteArray} {x : CidD} (h : CidStr us x) : (mhEnc x.code x.dig).length ≤ 2147483647 := by
  have h1 : (mhEnc x.code x.dig).length ≤ (cidEnc x).length := by unfold cidEnc; split <;> simp <;> omega
  have h2 := h.size.2
  rw [← ba_len, h.eq] at h2
  omega

/-- The worlds of the two searches: the index and a digest, two new blocks. -/
theorem asc_start {w w2 : World} {g fb : Nat} {t : Tr ItD} (hi : IdxAt w g t) (hb : Below w.heap.size w w2) (E : World → Prop) (hE : E w2) (A : Option Addr) (c : Nat) (u : List UInt8) (hs : BS w2 (.slice A u.length c) u) (hfb : w.heap.size ≤ fb) :
    AscAt E fb t ⟨A, c, u, ⟨#[]⟩, 0⟩ w2 :=
  ⟨(hi.below hb).at_, (hi.below hb).in_, hs, hE, fun hm => by have := hi.at_.lt fb hm; omega⟩

end Go.Proofs.YthehmnpbepmnpaaGreatDoorR
/- Contracts: the function of HasMultihash, HasMultihash. -/
namespace Go.Proofs.YthehmnpbepmnpaaGreatDoorR
open Go.RowKit

/-- The multihash of an identifier's bytes. -/
def mhOf (us : ByteArray) : List UInt8 := match cidRd us.data.toList with
  | some (c, _) => mhEnc c.code c.dig
  | none => []
theorem mhOf_str {us : ByteArray} {c : CidD} (h : CidStr us c) : mhOf us = mhEnc c.code c.dig := by
  have h1 := cidRd_enc c [] h.tidy (by have := h.fits; omega)
  rw [List.append_nil, ← h.eq] at h1
  unfold mhOf
  rw [h1]

/-- What the function of HasMultihash asks of the world: the entry asked for, the multihash asked for, the variables of package varint. -/
structure MhEnv (eb mb fb : Nat) (A : Option Addr) (c : Nat) (u : List UInt8) (M : Option Addr) (mc : Nat) (L : List UInt8) (W : World) : Prop where
  ent : W.heap[eb]? = some (.cells #[.slice A u.length c, .string ⟨#[]⟩, .int .u64 0] 154 (0, 0))
  mh : W.heap[mb]? = some (.cells #[.slice M L.length mc] 162 (0, 0))
  bs : BSo (fun k => k = fb) W (.slice A u.length c) u
  bm : BSo (fun k => k = fb) W (.slice M L.length mc) L
  uv : UvS W
  n1 : eb ≠ fb
  n2 : mb ≠ fb
  n3 : 4 ≠ fb ∧ 5 ≠ fb ∧ 6 ≠ fb
theorem MhEnv.keep {eb mb fb : Nat} {A : Option Addr} {c : Nat} {u : List UInt8} {M : Option Addr} {mc : Nat} {L : List UInt8} (W W' : World) (h : MhEnv eb mb fb A c u M mc L W) (hk : Keep (fun k => k = fb) W W') : MhEnv eb mb fb A c u M mc L W' := by
  obtain ⟨T, ⟨p1, h1⟩, ⟨p2, h2⟩, ⟨p3, h3⟩⟩ := h.uv.T
  exact ⟨hk.row h.ent h.n1, hk.row h.mh h.n2, h.bs.keep hk, h.bm.keep hk, ⟨T, ⟨p1, hk.cell h1 h.n3.1⟩, ⟨p2, hk.cell h2 h.n3.2.1⟩, ⟨p3, hk.cell h3 h.n3.2.2⟩⟩, h.n1, h.n2, h.n3⟩

end Go.Proofs.YthehmnpbepmnpaaGreatDoorR
