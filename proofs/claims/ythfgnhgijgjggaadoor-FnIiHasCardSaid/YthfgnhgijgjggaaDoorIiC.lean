/- Contracts: bytes.Compare, (index.recordDigest).Less, llrb.less. -/
import Derived.Test.YthfgnhgijgjggaaDoorIiB
import Derived.Lib.BytesEntry
import Derived.Stop.Asserts
namespace Go.Proofs.YthfgnhgijgjggaaDoor
open Go.RowKit

section
variable {P : Program}
theorem run_bytesOf {w : World} {A : Option Addr} {c : Nat} {l : List UInt8} (h : BS w (.slice A l.length c) l) : (Extern.Bytes.bytesOf (.slice A l.length c)).run P w = .ok ⟨l.toArray⟩ w := by
  cases A with
  | none =>
    rcases Nat.eq_zero_or_pos l.length with h0 | h0
    · obtain rfl : l = [] := List.eq_nil_of_length_eq_zero h0
      rfl
    · obtain ⟨b, o, he, _⟩ := h.at_ h0
      cases he
  | some a =>
    rcases Nat.eq_zero_or_pos l.length with h0 | h0
    · obtain rfl : l = [] := List.eq_nil_of_length_eq_zero h0
      rfl
    · obtain ⟨b, o, he, hc⟩ := h.at_ h0
      injection he with he
      subst he
      have := Lib.run_loadBytesX (P := P) w (l.map fun x => (x.toNat : Int)) ⟨b, o, none⟩ .empty (fun j x hj => by
        rw [List.getElem?_map] at hj
        obtain ⟨u, hu, rfl⟩ := Option.map_eq_some_iff.1 hj
        obtain ⟨hlt, rfl⟩ := List.getElem?_eq_some_iff.1 hu
        have e : (⟨b, o, none⟩ : Addr).add j = ⟨b, o + j, none⟩ := by unfold Addr.add; split <;> simp_all
        rw [e]
        exact hc j hlt)
      rw [List.length_map] at this
      show (Extern.Bytes.loadBytes ⟨b, o, none⟩ l.length .empty).run P w = _
      rw [this]
      congr 1
      apply ByteArray.ext
      show (#[] : Array UInt8) ++ (Lib.bytesOf (l.map fun x => (x.toNat : Int))).toArray = l.toArray
      have e : Lib.bytesOf (l.map fun x => (x.toNat : Int)) = l := by
        unfold Lib.bytesOf
        rw [List.map_map]
        conv => rhs; rw [← List.map_id l]
        exact List.map_congr_left fun x _ => by simp
      rw [e]
      simp

theorem run_compareSlices {w : World} {A B : Option Addr} {c d : Nat} {l m : List UInt8} (h : BS w (.slice A l.length c) l) (k : BS w (.slice B m.length d) m) :
    (Extern.BytealgCompare.compare #[.slice A l.length c, .slice B m.length d]).run P w = .ok (.int .i64 (Lib.compareBytes l m)) w := by
  have hs := Lib.run_compareString (P := P) ⟨l.toArray⟩ ⟨m.toArray⟩ w
  change Sem.run P (do pure (goInt (Extern.BytealgCompare.cmp (← Extern.Bytes.bytesOf (.string ⟨l.toArray⟩)) (← Extern.Bytes.bytesOf (.string ⟨m.toArray⟩))))) w = _ at hs
  change Sem.run P (do pure (goInt (Extern.BytealgCompare.cmp (← Extern.Bytes.bytesOf (.slice A l.length c)) (← Extern.Bytes.bytesOf (.slice B m.length d))))) w = _
  simp only [Sem.run_bind, run_bytesOf h, run_bytesOf k, Result.andThen] at hs ⊢
  simp only [Extern.Bytes.bytesOf, Sem.run_pure] at hs
  exact hs
end

theorem cmp_blt : ∀ a b : List UInt8, (decide (Lib.compareBytes a b < 0)) = blt a b
  | [], [] => rfl
  | [], _ :: _ => rfl
  | _ :: _, [] => rfl
  | a :: l, b :: m => by
    rw [Lib.compareBytes, blt]
    split
    · rfl
    · split
      · rfl
      · exact cmp_blt l m

/-- A record with its digest, as an item of the tree. -/
structure ItD where
  A : Option Addr
  c : Nat
  dig : List UInt8
  us : ByteArray
  off : Int
def ItD.val (x : ItD) : Value := .agg #[.slice x.A x.dig.length x.c, .string x.us, .int .u64 x.off]
abbrev ItD.item (x : ItD) : Value := .iface 139 x.val
/-- Its digest lies in memory. -/
def ItD.In (w : World) (x : ItD) : Prop := BS w (.slice x.A x.dig.length x.c) x.dig

set_option maxRecDepth 100000 in
theorem bytesCompare {w : World} {A B : Option Addr} {c d : Nat} {l m : List UInt8} (h : BS w (.slice A l.length c) l) (k : BS w (.slice B m.length d) m) :
    Calls Tryd.prog 154 #[.slice A l.length c, .slice B m.length d] w fun e w' => e = .returned (.int .i64 (Lib.compareBytes l m)) ∧ w' = w := by
  have hx := run_callFunc_extern (P := Tryd.prog) Tryd.func155 (by kernel_rfl) (by kernel_rfl) (by kernel_rfl) (e := Extern.BytealgCompare.compare) (by kernel_rfl) #[.slice A l.length c, .slice B m.length d] w
  rw [run_compareSlices h k] at hx
  simp only [Result.andThen] at hx
  clear h k
  generalize l.length = n at *
  generalize m.length = n2 at *
  generalize Lib.compareBytes l m = r at *
  go_enter Tryd.func154, Tryd.ntmps154
  go_wp2
  go_ret
  exact ⟨rfl, rfl⟩

theorem assert_ok (v : Value) (W : World) : (Instr.typeAssert (.iface 139 v) 141 139 true).run Tryd.prog W = .ok (.tuple #[v, .bool true]) W := by kernel_rfl
theorem assert_one (v : Value) (W : World) : (Instr.typeAssert (.iface 139 v) 141 139 false).run Tryd.prog W = .ok v W := by kernel_rfl

set_option maxRecDepth 100000 in
set_option maxHeartbeats 1000000 in
theorem rdLess (x y : ItD) (w : World) (hx : x.In w) (hy : y.In w) :
    Calls Tryd.prog 153 #[x.val, y.item] w fun e w' => e = .returned (.bool (blt x.dig y.dig)) ∧ Below w.heap.size w w' := by
  obtain ⟨A, c, l, us, off⟩ := x
  obtain ⟨B, d, m, vs, off2⟩ := y
  have HC := fun W (h : Below w.heap.size w W) => Lib.hid (bytesCompare (BS.below hx h) (BS.below hy h))
  have HB := Lib.hid (cmp_blt l m)
  clear hx hy
  unfold ItD.val ItD.item ItD.val at *
  dsimp only at *
  rw [← HB.out]
  generalize l.length = n at *
  generalize m.length = n2 at *
  generalize Lib.compareBytes l m = r at *
  obtain ⟨w1, hw1⟩ : ∃ w1, w1 = (w.alloc (.cells #[.slice A n c, .string us, .int .u64 off] 139)).alloc (.cells #[.slice B n2 d, .string vs, .int .u64 off2] 139) := ⟨_, rfl⟩
  have hb : Below w.heap.size w w1 := hw1 ▸ ((Below.refl _ w).alloc (Nat.le_refl _) _).alloc (by simp) _
  have HC1 := HC _ hb
  rw [hw1] at HC1 hb
  clear HC hw1
  have hta := fun v W => assert_ok v W
  go_enter Tryd.func153, Tryd.ntmps153
  go_wp2_with (go_at_call 154; (with_reducible refine HC1.out.mono ?_); rintro e w' ⟨rfl, rfl⟩)
  go_ret
  exact ⟨rfl, hb⟩

theorem nil_rdLess (v : Value) (w : World) : (nilAhead 359 139 v "Less").run Tryd.prog w = .ok (some false) w := by kernel_rfl
theorem method_rdLess (v : Value) (w : World) : (method 359 139 v "Less").run Tryd.prog w = .ok (153, v) w := by kernel_rfl

set_option maxRecDepth 100000 in
set_option maxHeartbeats 1000000 in
theorem less_any (x y : ItD) (w : World) (hx : x.In w) (hy : y.In w) :
    Calls Tryd.prog 113 #[x.item, y.item] w fun e w' => e = .returned (.bool (blt x.dig y.dig)) ∧ Below w.heap.size w w' := by
  have HC := Lib.hid (rdLess x y w hx hy)
  clear hx hy
  have q1 := fun (vx vy : Value) W => run_eql_iface_types (P := Tryd.prog) 139 234 vx vy Tryd.underlying141 (by decide) W
  have q2 := fun (vx vy : Value) W => run_eql_iface_types (P := Tryd.prog) 139 235 vx vy Tryd.underlying141 (by decide) W
  have hna := fun v w => nil_rdLess v w
  have hme := fun v w => method_rdLess v w
  unfold ItD.item at *
  generalize y.val = vy at *
  generalize x.val = vx at *
  generalize blt x.dig y.dig = r at *
  go_enter Tryd.func113, Tryd.ntmps113
  go_wp2_with (go_at_call 153; (with_reducible refine HC.out.mono ?_); rintro e w' ⟨rfl, hb⟩)
  go_ret
  exact ⟨rfl, hb⟩
end Go.Proofs.YthfgnhgijgjggaaDoor
