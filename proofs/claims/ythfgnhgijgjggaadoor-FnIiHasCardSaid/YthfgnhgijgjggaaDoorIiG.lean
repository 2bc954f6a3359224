/- Contract: impl.insertion: an index of entries. -/
import Derived.Test.YthfgnhgijgjggaaDoorIiF
import Derived.Test.YthfgnhgijgjggaaDoorCdI
import Derived.LoopTactic
namespace Go.Proofs.YthfgnhgijgjggaaDoor
open Go.RowKit

/-- A record's parts. -/
structure Rc where
  dig : List UInt8
  us : ByteArray
  off : Int
def ItD.rc (x : ItD) : Rc := ⟨x.dig, x.us, x.off⟩
/-- A record put behind those that are not behind it. -/
def insR (x : Rc) : List Rc → List Rc
  | [] => [x]
  | y :: l => if blt x.dig y.dig = true then x :: y :: l else y :: insR x l
theorem insR_split (x : Rc) : ∀ (a b : List Rc), (∀ y ∈ a, blt x.dig y.dig = false) → (∀ y ∈ b, blt x.dig y.dig = true) → insR x (a ++ b) = a ++ x :: b
  | [], [], _, _ => rfl
  | [], y :: b, _, h => by
    show insR x (y :: b) = x :: y :: b
    rw [insR, if_pos (h y (by simp))]
  | y :: a, b, h, k => by
    show insR x (y :: (a ++ b)) = y :: (a ++ x :: b)
    rw [insR, if_neg (by rw [h y (by simp)]; simp), insR_split x a b (fun z hz => h z (by simp [hz])) k]
theorem mem_insR {x z : Rc} : ∀ {l : List Rc}, z ∈ insR x l ↔ z = x ∨ z ∈ l
  | [] => by simp [insR]
  | y :: l => by
    rw [insR]
    split
    · simp
    · rw [List.mem_cons, mem_insR, List.mem_cons]
      constructor
      · rintro (h | h | h)
        · exact .inr (.inl h)
        · exact .inl h
        · exact .inr (.inr h)
      · rintro (h | h | h)
        · exact .inr (.inl h)
        · exact .inl h
        · exact .inr (.inr h)

/-- An entry: an identifier and an offset. -/
structure EntD where
  cid : CidD
  off : Nat
def cidS (x : CidD) : ByteArray := ⟨(cidEnc x).toArray⟩
def EntD.rc (e : EntD) : Rc := ⟨e.cid.dig, cidS e.cid, e.off⟩
/-- The records of entries, in the tree's order. -/
def recsOf (es : List EntD) : List Rc := es.foldl (fun l e => insR e.rc l) []
theorem recsOf_snoc (es : List EntD) (e : EntD) : recsOf (es ++ [e]) = insR e.rc (recsOf es) := by
  unfold recsOf
  rw [List.foldl_append]
  rfl
theorem mem_recsOf {z : Rc} (es : List EntD) : z ∈ recsOf es ↔ ∃ e ∈ es, e.rc = z := by
  have h : ∀ (es : List EntD) (l : List Rc), z ∈ es.foldl (fun l e => insR e.rc l) l ↔ z ∈ l ∨ ∃ e ∈ es, e.rc = z := by
    intro es
    induction es with
    | nil => intro l; simp
    | cons e es ih =>
      intro l
      rw [List.foldl_cons, ih, mem_insR]
      constructor
      · rintro ((h | h) | ⟨e', h1, h2⟩)
        · exact .inr ⟨e, by simp, h.symm⟩
        · exact .inl h
        · exact .inr ⟨e', by simp [h1], h2⟩
      · rintro (h | ⟨e', h1, h2⟩)
        · exact .inl (.inr h)
        · rcases List.mem_cons.1 h1 with rfl | h1
          · exact .inl (.inl h2.symm)
          · exact .inr ⟨e', h1, h2⟩
  rw [show recsOf es = es.foldl (fun l e => insR e.rc l) [] from rfl, h]
  simp

/-- The tree holds the records of the entries. -/
structure RelT (es : List EntD) (t : Tr ItD) : Prop where
  sorted : Tr.Sorted ItD.dig t.toList
  recs : t.toList.map ItD.rc = recsOf es
theorem RelT.put {es : List EntD} {t : Tr ItD} (h : RelT es t) (e : EntD) (r : ItD) (hr : r.rc = e.rc) (q : Nat) : RelT (es ++ [e]) (t.put q r) := by
  refine ⟨by rw [Tr.toList_blacken]; exact Tr.ins_sorted ItD.dig q r t h.sorted, ?_⟩
  rw [Tr.toList_blacken, recsOf_snoc, ← h.recs, ← hr]
  obtain ⟨a, b, e1, e2, e3, e4⟩ := Tr.ins_split ItD.dig q r t h.sorted
  have e2' : (t.ins ItD.lt q r).toList = a ++ r :: b := e2
  rw [e2', e1, List.map_append, List.map_append, List.map_cons]
  refine (insR_split r.rc _ _ (fun y hy => ?_) (fun y hy => ?_)).symm
  · obtain ⟨z, hz, rfl⟩ := List.mem_map.1 hy
    exact e3 z hz
  · obtain ⟨z, hz, rfl⟩ := List.mem_map.1 hy
    exact e4 z hz
theorem RelT.length {es : List EntD} {t : Tr ItD} (h : RelT es t) : t.toList.length = es.length := by
  have h1 := congrArg List.length h.recs
  rw [List.length_map] at h1
  rw [h1]
  have hI : ∀ (x : Rc) (l : List Rc), (insR x l).length = l.length + 1 := by
    intro x l
    induction l with
    | nil => rfl
    | cons y l ih => rw [insR]; split <;> simp [ih]
  have : ∀ (es : List EntD) (l : List Rc), (es.foldl (fun l e => insR e.rc l) l).length = l.length + es.length := by
    intro es
    induction es with
    | nil => intro l; simp
    | cons e es ih => intro l; rw [List.foldl_cons, ih, hI]; simp; omega
  rw [recsOf, this]; simp

/-- The slice value v holds the entries es. -/
def ES (w : World) (v : Value) (es : List EntD) : Prop :=
  ∃ (A : Option Addr) (c : Nat), v = .slice A es.length c ∧ es.length ≤ c ∧ (0 < es.length → ∃ b o, A = some ⟨b, o, none⟩ ∧ ∀ (j : Nat) (x : EntD), es[j]? = some x →
    w.cell? ⟨b, o + j * 5, none⟩ = some (.int .u64 x.cid.ver) ∧ w.cell? ⟨b, o + j * 5 + 1, none⟩ = some (.int .u64 x.cid.codec) ∧ w.cell? ⟨b, o + j * 5 + 2, none⟩ = some (.int .u64 x.cid.code) ∧ w.cell? ⟨b, o + j * 5 + 3, none⟩ = some (.string ⟨x.cid.dig.toArray⟩) ∧ w.cell? ⟨b, o + j * 5 + 4, none⟩ = some (.int .u64 x.off))
theorem ES.below {w w' : World} {v : Value} {es : List EntD} (h : ES w v es) (hb : Below w.heap.size w w') : ES w' v es := by
  obtain ⟨A, c, e, hc, h⟩ := h
  refine ⟨A, c, e, hc, fun hl => ?_⟩
  obtain ⟨b, o, e, h⟩ := h hl
  exact ⟨b, o, e, fun j x hj => ⟨below_cell hb (h j x hj).1, below_cell hb (h j x hj).2.1, below_cell hb (h j x hj).2.2.1, below_cell hb (h j x hj).2.2.2.1, below_cell hb (h j x hj).2.2.2.2⟩⟩

/-- An entry of which the statements speak. -/
def EntD.good (e : EntD) : Prop := e.cid.tidy ∧ 0 < e.cid.dig.length ∧ e.cid.dig.length ≤ 200
theorem EntD.good.str {e : EntD} (h : e.good) : CidStr (cidS e.cid) e.cid := ⟨rfl, h.1, by have := h.2.2; omega⟩

set_option maxRecDepth 100000 in
theorem newIndex (w : World) : Calls Tryd.prog 66 #[] w fun e w' => e = .returned (.pointer (some ⟨w.heap.size, 0, none⟩)) ∧ w' = w.alloc (.cells #[.int .i64 0, .pointer none] 148) := by
  go_enter Tryd.func66, Tryd.ntmps66
  go_wp2
  go_ret
  exact ⟨rfl, rfl⟩

/-- Where the loop stands: the first k entries are in the tree. -/
structure InsRel (es : List EntD) (w : World) (k : Nat) (t : Tr ItD) (wr : World) : Prop where
  idx : IdxAt wr w.heap.size t
  rel : RelT (es.take k) t
  base : ∀ j ∈ t.blocks, w.heap.size ≤ j
  below : Below w.heap.size w wr
theorem InsRel.start (es : List EntD) (w : World) : InsRel es w 0 .nil (w.alloc (.cells #[.int .i64 0, .pointer none] 148)) :=
  ⟨⟨heap_alloc_new w _, trivial, List.nodup_nil, fun y hy => by simp [Tr.toList] at hy⟩, ⟨List.Pairwise.nil, rfl⟩, fun j hj => by simp [Tr.blocks] at hj, (Below.refl _ _).alloc (Nat.le_refl _) _⟩
theorem InsRel.next {es : List EntD} {w wr w1 w2 : World} {k : Nat} {t : Tr ItD} (h : InsRel es w k t wr) (hb : Below wr.heap.size wr w1) {e : EntD} (he : es[k]? = some e) (hp : PutCid w.heap.size t (cidS e.cid) e.cid.dig e.off w1 w2) : ∃ t', InsRel es w (k + 1) t' w2 := by
  obtain ⟨r, h1, h2, h3, q, hq, h4, h5⟩ := hp
  have hs := (below_next h.below hb).size
  refine ⟨t.put q r, h4, ?_, fun j hj => ?_, ?_⟩
  · have : es.take (k + 1) = es.take k ++ [e] := by rw [List.take_add_one, he]; rfl
    rw [this]
    exact h.rel.put e r (by unfold ItD.rc EntD.rc; rw [h1, h2, h3]) q
  · rw [Tr.blocks_blacken] at hj
    rcases List.mem_cons.1 ((Tr.blocks_ins ItD.lt q r t).mem_iff.1 hj) with rfl | hj
    · omega
    · exact h.base j hj
  · exact (below_next h.below hb).trans (h5.below (fun j hj h6 => by
      rcases h6 with rfl | h6
      · omega
      · have := h.base j h6; omega) hs)

/-- What the index of entries is. -/
def IsIdx (es : List EntD) (w : World) (e : Ending) (w' : World) : Prop := ∃ t, e = .returned (.tuple #[.pointer (some ⟨w.heap.size, 0, none⟩), .bool true]) ∧ IdxAt w' w.heap.size t ∧ RelT es t

abbrev entO (v0 v1 v2 : Int) (d : ByteArray) (f : Int) : Obj := .cells #[.int .u64 v0, .int .u64 v1, .int .u64 v2, .string d, .int .u64 f] 32

set_option maxRecDepth 100000 in
set_option maxHeartbeats 8000000 in
theorem insertion_ok (v : Value) (es : List EntD) (w : World) (hv : ES w v es) (hg : ∀ e ∈ es, e.good) (hn : es.length ≤ 100) (hu : UvS w) :
    Calls Tryd.prog 39 #[v] w fun e w' => IsIdx es w e w' ∧ Below w.heap.size w w' := by
  obtain ⟨A, c, rfl, hc, hcells⟩ := hv
  obtain ⟨n, hN⟩ : ∃ n, n = es.length := ⟨_, rfl⟩
  rw [← hN] at hn
  have HC := Lib.hid hcells
  have HN := Lib.hid hN
  have HG := Lib.hid hg
  have HU := Lib.hid hu
  have HI := Lib.hid (newIndex w)
  rw [← hN]
  clear hcells hc hN hg hu
  go_enter Tryd.func39, Tryd.ntmps39
  go_wp2_with fail
  refine HI.out.mono ?_
  rintro e w0 ⟨rfl, rfl⟩
  go_wp2_with fail
  go_loopw [12] (fun i wr => ∃ (k : Nat) (t : Tr ItD), k ≤ n ∧ i = .int .i64 k ∧ InsRel es w k t wr) (fun i _ => n - (intOf i).toNat)
  case atStart => exact ⟨0, .nil, Nat.zero_le _, rfl, InsRel.start es w⟩
  case round =>
    obtain ⟨k, t, hk, rfl, hr⟩ := hrel
    have HR := Lib.hid hr
    clear hr
    by_cases hlt : k < n
    · obtain ⟨b, o, rfl, hcl⟩ := HC.out (by rw [← HN.out]; omega)
      have hks : k < es.length := by rw [← HN.out]; exact hlt
      obtain ⟨x, hsv⟩ : ∃ x, es[k]? = some x := ⟨_, List.getElem?_eq_getElem hks⟩
      obtain ⟨q0, q1, q2, q3, q4⟩ := hcl k x hsv
      have hb := HR.out.below
      have c0 := below_cell hb q0
      have c1 := below_cell hb q1
      have c2 := below_cell hb q2
      have c3 := below_cell hb q3
      have c4 := below_cell hb q4
      have hgx := HG.out x (List.mem_of_getElem? hsv)
      obtain ⟨w1, hw1⟩ : ∃ w1, w1 = wr.alloc (entO x.cid.ver x.cid.codec x.cid.code ⟨x.cid.dig.toArray⟩ x.off) := ⟨_, rfl⟩
      have hal : Below wr.heap.size wr w1 := hw1 ▸ (Below.refl _ wr).alloc (Nat.le_refl _) _
      have hra := heap_alloc_new wr (entO x.cid.ver x.cid.codec x.cid.code ⟨x.cid.dig.toArray⟩ x.off)
      rw [← hw1] at hra
      have HCI := Lib.hid (cidIn_ok x.cid hgx.1 ⟨x.cid.dig.toArray⟩ rfl (by have := hgx.2.2; show x.cid.dig.toArray.size ≤ _; simp; omega) w1 (HU.out.below (below_next hb hal)))
      have j0 := cell_of_row' (cur := [_, _, _, _, _]) hra 0
      have j1 := cell_of_row' (cur := [_, _, _, _, _]) hra 1
      have j2 := cell_of_row' (cur := [_, _, _, _, _]) hra 2
      have j3 := cell_of_row' (cur := [_, _, _, _, _]) hra 3
      have HRA := Lib.hid hra
      have HAL := Lib.hid hal
      have HSV := Lib.hid hsv
      have HGX := Lib.hid hgx
      rw [hw1] at j0 j1 j2 j3 HCI
      have HW1 := Lib.hid hw1
      clear hcl hks hsv q0 q1 q2 q3 q4 hb hgx hal hra hw1
      obtain ⟨us, hus⟩ : ∃ us : ByteArray, us = ⟨(cidEnc x.cid).toArray⟩ := ⟨_, rfl⟩
      rw [← hus] at HCI
      have HUS := Lib.hid hus
      clear hus
      go_wp2_with fail
      refine HCI.out.mono ?_
      rw [← HW1.out]
      rintro e w2 ⟨rfl, hb2⟩
      have hal3 : Below w2.heap.size w2 (w2.alloc (.cells #[.string us] 80)) := (Below.refl _ w2).alloc (Nat.le_refl _) _
      have hb3 := below_next (below_next HAL.out hb2) hal3
      have HP := Lib.hid (idxPut us x.cid (by rw [HUS.out]; exact HGX.out.str) x.off t w.heap.size _ (HU.out.below (below_next HR.out.below hb3)) (HR.out.idx.below hb3) (by rw [HR.out.rel.length, List.length_take]; omega))
      have hra3 := row_alloc (row_below hb2 (block_of_row HRA.out) HRA.out) (.cells #[.string us] 80)
      have m4 := cell_of_row' (cur := [_, _, _, _, _]) hra3 4
      have HB3 := Lib.hid hb3
      clear hal3 hb2 hb3 hra3 HCI j0 j1 j2 j3 c0 c1 c2 c3 c4 HAL
      go_wp2_with fail
      refine HP.out.mono ?_
      rintro e w4 ⟨rfl, hput⟩
      have hnext : ∃ t', InsRel es w (k + 1) t' w4 := HR.out.next HB3.out HSV.out (by rw [show cidS x.cid = us from HUS.out.symm]; exact hput)
      have HX := Lib.hid hnext
      clear hput hnext HP m4 HB3 HR
      go_wp2
      go_roundw
      case rel =>
        obtain ⟨t', ht'⟩ := HX.out
        exact ⟨k + 1, t', by omega, by go_num, ht'⟩
      case measure => simp [intOf]; omega
    · obtain rfl : k = n := by omega
      go_wp2
      go_ret2
      have hrl := HR.out.rel
      rw [List.take_of_length_le (by rw [HN.out]; exact Nat.le_refl _)] at hrl
      exact ⟨⟨t, rfl, HR.out.idx, hrl⟩, HR.out.below⟩
end Go.Proofs.YthfgnhgijgjggaaDoor
