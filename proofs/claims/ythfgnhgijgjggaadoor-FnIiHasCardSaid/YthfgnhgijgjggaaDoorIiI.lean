/- Contracts: HasExactCID and its function. -/
import Derived.Test.YthfgnhgijgjggaaDoorIiH
import Derived.Test.YthfgnhgijgjggaaDoorShelf
import Derived.Test.YthfgnhgijgjggaaDoorEqS
namespace Go.Proofs.YthfgnhgijgjggaaDoor
open Go.RowKit

theorem ba_toList2 (s : ByteArray) : s.toList = s.data.toList := by rw [ByteArray.toList_eq]
theorem ba_beq2 (s t : ByteArray) : (s.toList == t.toList) = decide (s = t) := by
  by_cases h : s = t
  · subst h; simp
  · have : s.toList ≠ t.toList := fun e => h (by
      rw [ba_toList2, ba_toList2] at e
      rw [← ba_mk s, ← ba_mk t, e])
    simp [h, this]
theorem run_eqCid2 (s t : ByteArray) (w : World) : (binOp .eql 80 (.agg #[.string s]) (.agg #[.string t])).run Tryd.prog w = .ok (.bool (decide (s = t))) w := by
  have h : (Op.equalIn (9998 + 2) 80 (.agg #[.string s]) (.agg #[.string t])).run Tryd.prog w = .ok (s.toList == t.toList) w := by
    refine structs_equal Tryd.underlying80 (by kernel_rfl) ?_
    refine fields_last (by decide) (by go_simp; rfl) (by go_simp; rfl) ?_
    go_simp
  simp only [binOp]
  simp [Op.equal, Op.maxDepth, h, ba_beq2]

theorem bytesEq {w : World} {A B : Option Addr} {n m c d : Nat} {l k : List UInt8} (h : BS w (.slice A n c) l) (h2 : BS w (.slice B m d) k) :
    Calls Tryd.prog 74 #[.slice A n c, .slice B m d] w fun e w' => e = .returned (.bool (decide (l = k))) ∧ w' = w := by
  have h3 := Tryd.bytes_Equal_strs (.slice A n c) (.slice B m d) ⟨l.toArray⟩ ⟨k.toArray⟩ w (h.str (dst := 9) Tryd.underlying43 Tryd.underlying5 Tryd.underlying9) (h2.str (dst := 9) Tryd.underlying43 Tryd.underlying5 Tryd.underlying9)
  refine h3.mono fun e w' ⟨h4, h5⟩ => ⟨?_, h5⟩
  rw [h4, ba_beq2]
  congr 3
  by_cases he : l = k
  · subst he; simp
  · have : ¬ ((⟨l.toArray⟩ : ByteArray) = ⟨k.toArray⟩) := fun e => he (by injection e with e; simpa using e)
    simp [he, this]

/-- What the function of HasExactCID asks of the world: the entry asked for, the identifier asked for. -/
structure ExEnv (eb cb fb : Nat) (A : Option Addr) (c : Nat) (u : List UInt8) (cs : ByteArray) (W : World) : Prop where
  ent : W.heap[eb]? = some (.cells #[.slice A u.length c, .string ⟨#[]⟩, .int .u64 0] 139 (0, 0))
  cid : W.heap[cb]? = some (.cells #[.string cs] 80 (0, 0))
  bs : BSo (fun k => k = fb) W (.slice A u.length c) u
  n1 : eb ≠ fb
  n2 : cb ≠ fb
theorem ExEnv.keep {eb cb fb : Nat} {A : Option Addr} {c : Nat} {u : List UInt8} {cs : ByteArray} (W W' : World) (h : ExEnv eb cb fb A c u cs W) (hk : Keep (fun k => k = fb) W W') : ExEnv eb cb fb A c u cs W' :=
  ⟨hk.row h.ent h.n1, hk.row h.cid h.n2, h.bs.keep hk, h.n1, h.n2⟩

theorem enters_ex : ∀ args w, (callFunc 73 args).run Tryd.prog w = .ok (.enter 73 args) w := enters_of Tryd.func73 (by kernel_rfl) rfl

set_option maxRecDepth 100000 in
set_option maxHeartbeats 4000000 in
theorem exLooks (eb cb fb : Nat) (A : Option Addr) (c : Nat) (u : List UInt8) (cs : ByteArray) :
    Looks 73 (.pointer (some ⟨eb, 0, none⟩)) (.pointer (some ⟨cb, 0, none⟩)) fb (ExEnv eb cb fb A c u cs) (fun _ => True) u (fun x => decide (x.us = cs)) := by
  rintro ⟨B, d, dg, us, off⟩ W _ hE hin hf
  have hbs := hE.bs
  obtain ⟨w1, hw1⟩ : ∃ w1, w1 = W.alloc (.cells #[.slice B dg.length d, .string us, .int .u64 off] 139) := ⟨_, rfl⟩
  have hb : Below W.heap.size W w1 := hw1 ▸ (Below.refl _ W).alloc (Nat.le_refl _) _
  have HQ : Hid (Calls Tryd.prog 74 #[.slice B dg.length d, .slice A u.length c] w1 fun e w' => e = .returned (.bool (decide (dg = u))) ∧ w' = w1) := Lib.hid (bytesEq (BS.below hin hb) (hE.bs.1.below hb))
  have k0 := cell_of_row' (cur := [_, _, _]) (row_below hb (block_of_row hE.ent) hE.ent) 0
  have c0 := cell_of_row' (cur := [_]) (row_below hb (block_of_row hE.cid) hE.cid) 0
  have f0 := frozen_of_row' (cur := [_]) (row_below hb (block_of_row hf) hf) 0
  have j0 := cell_of_row' (cur := [_]) (row_below hb (block_of_row hf) hf) 0
  have hset := Lib.heap_setCell_same (i := 0) (row_below hb (block_of_row hf) hf) (.bool true)
  have hset' : (w1.setCell ⟨fb, 0, none⟩ (.bool true)).heap[fb]? = some (fbO true) := hset
  have hno := row_below hb (block_of_row hf) hf
  have HKy := Lib.hid ((hb.keep (S := fun k => k = fb)).trans (Keep.setCell (S := fun k => k = fb) (Keep.refl _ w1) rfl 0 (.bool true)))
  have HKn := Lib.hid (hb.keep (S := fun k => k = fb))
  have HSY := Lib.hid hset'
  have HSN := Lib.hid hno
  rw [hw1] at HQ k0 c0 f0 j0 HKy HKn HSY HSN
  have hta := fun v W => assert_one v W
  have heq := fun W => run_eqCid2 us cs W
  clear hin hE hf hbs hset hset' hno hb hw1
  show Calls Tryd.prog _ #[.iface 139 (.agg #[.slice B dg.length d, .string us, .int .u64 off]), _, _, _] W _
  unfold findStep
  dsimp only [ItD.dig, ItD.us]
  by_cases h1 : dg = u
  · rw [decide_eq_true h1] at HQ
    rw [if_pos h1]
    by_cases h2 : us = cs
    · rw [decide_eq_true h2] at heq
      rw [if_pos (decide_eq_true h2)]
      clear h1 h2
      generalize dg.length = n at *
      generalize u.length = m at *
      go_enter Tryd.func73, Tryd.ntmps73
      go_wp2_with fail
      refine HQ.out.mono ?_
      rintro e w2 ⟨rfl, rfl⟩
      go_wp2
      go_ret
      exact ⟨rfl, HSY.out, HKy.out⟩
    · rw [decide_eq_false h2] at heq
      rw [if_neg (by rw [decide_eq_false h2]; simp)]
      clear h1 h2
      generalize dg.length = n at *
      generalize u.length = m at *
      go_enter Tryd.func73, Tryd.ntmps73
      go_wp2_with fail
      refine HQ.out.mono ?_
      rintro e w2 ⟨rfl, rfl⟩
      go_wp2
      go_ret
      exact ⟨rfl, HSN.out, HKn.out⟩
  · rw [decide_eq_false h1] at HQ
    rw [if_neg h1]
    clear h1
    generalize dg.length = n at *
    generalize u.length = m at *
    go_enter Tryd.func73, Tryd.ntmps73
    go_wp2_with fail
    refine HQ.out.mono ?_
    rintro e w2 ⟨rfl, rfl⟩
    go_wp2
    go_ret
    exact ⟨rfl, HSN.out, HKn.out⟩

set_option maxRecDepth 100000 in
set_option maxHeartbeats 1000000 in
/-- (*LLRB).AscendGreaterOrEqual over the whole tree. -/
theorem ascAll (F : FuncId) (eF : ∀ args w, (callFunc F args).run Tryd.prog w = .ok (.enter F args) w) (c1 c2 : Value) (fb : Nat) (E : World → Prop) (hE : ∀ W W', E W → Keep (fun k => k = fb) W W' → E W') (Pz : ItD → Prop) (u : List UInt8) (hit : ItD → Bool)
    (hF : Looks F c1 c2 fb E Pz u hit) (g : Nat) (pv : ItD) (t : Tr ItD) (W : World) (hi : IdxAt W g t) (ha : AscAt E fb t pv W) (hp : ∀ y ∈ t.toList, Pz y) (hf : W.heap[fb]? = some (fbO false)) :
    Calls Tryd.prog 75 #[.pointer (some ⟨g, 0, none⟩), pv.item, .func (.func F) #[] #[c1, c2, .pointer (some ⟨fb, 0, none⟩)]] W fun e w' => e = .returned (.tuple #[]) ∧ w'.heap[fb]? = some (fbO (finds u hit (t.asc (fun x => blt x.dig pv.dig))).2) ∧ Keep (fun k => k = fb) W w' := by
  have HA := Lib.hid (asc_any F eF c1 c2 fb E hE Pz u hit hF (some ⟨g, 0, none⟩) pv t W ha hp hf)
  have k1 : W.cell? ⟨g, 1, none⟩ = some (.pointer t.addr) := cell_of_row' (cur := [_, _]) hi.row 1
  clear hi ha hp hf hF eF
  go_enter Tryd.func75, Tryd.ntmps75
  go_wp2_with fail
  refine HA.out.mono ?_
  rintro e w1 ⟨rfl, h1, h2⟩
  have H1 := Lib.hid h1
  clear h1
  go_wp2
  go_end0
  exact ⟨rfl, H1.out, h2⟩
end Go.Proofs.YthfgnhgijgjggaaDoor
