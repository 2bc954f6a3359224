/- Contracts: (*bytes.Reader).Len, impl.kind, util.LdReadSize, util.LdRead over a reader of bytes. -/
import Derived.Test.YthfgnhgijgjggaaDoorIxA
namespace Go.Proofs.YthfgnhgijgjggaaDoor
open Go.RowKit

section
variable {P : Program}
/-- 'make([]byte, n)' of a uint64. -/
theorem make_bytes64 {t e : TypeId} (ht : P.underlying t = some (.slice e)) (hinfo : (P.info? e).map (fun i => (i.zero, i.size, i.bytes)) = some (some (.int .u8 0), 1, 1)) (w : World) (n : Nat) (hn : n ≤ 281474976710656) :
    ∃ w1, (Instr.makeSlice t (.int .u64 (n : Int)) (.int .u64 (n : Int))).run P w = .ok (.slice (some ⟨w.heap.size, 0, none⟩) n n) w1 ∧ Below w.heap.size w w1 ∧ w1.heap.size = w.heap.size + 1 ∧
      w1.heap[w.heap.size]? = some (.cells (List.replicate n (Value.int .u8 0)).toArray e (0, 0)) := by
  obtain ⟨i, hi, h2⟩ := Option.map_eq_some_iff.1 hinfo
  simp only [Prod.mk.injEq] at h2
  obtain ⟨hz, hsz, hby⟩ := h2
  have hr := run_make (P := P) w t e i _ ht hi hz .u64 .u64 (n : Int) (n : Int) (by omega) (by omega) (by rw [hby]; omega) (by omega)
  simp only [Int.toNat_natCast, hsz, Nat.mul_one] at hr
  refine ⟨_, hr, (Below.refl _ _).alloc (Nat.le_refl _) _, by simp, ?_⟩
  rw [heap_alloc_new]
  congr 2
  apply Array.ext
  · simp [size_madeCells]
  · intro j h1 h2
    have h0 : [Value.int IntKind.u8 0][j % 1]?.getD default = Value.int IntKind.u8 0 := by rw [Nat.mod_one]; rfl
    simp [madeCells, Value.cells, h0]
end

set_option maxRecDepth 100000 in
set_option maxHeartbeats 1000000 in
/-- How many bytes are left. -/
theorem rdLen (p : Nat) (v : Value) (l : List UInt8) (i : Nat) (w : World) (hr : Rdr w p v l i) :
    Calls Tryd.prog 51 #[.pointer (some ⟨p, 0, none⟩)] w fun e w' => e = .returned (.int .i64 ((l.length : Int) - i)) ∧ Keep (fun _ => False) w w' := by
  obtain ⟨⟨r, hrow⟩, ⟨⟨A0, c0, rfl, hc0, hcl⟩, hout⟩, hle, hfits⟩ := hr
  have h0 : w.cell? ⟨p, 0, none⟩ = some (.slice A0 l.length c0) := by rw [cell_of_row' (cur := [_, _, _]) hrow]; rfl
  have h1 : w.cell? ⟨p, 1, none⟩ = some (.int .i64 i) := by rw [cell_of_row' (cur := [_, _, _]) hrow]; rfl
  clear hcl hout hc0 hrow
  generalize l.length = n at *
  by_cases hi : i = n
  · subst hi
    go_enter Tryd.func51, Tryd.ntmps51
    go_wp2
    go_quiet (fail)
    go_wp2
    go_ret
    exact ⟨by rw [Int.sub_self]; rfl, keep_drewN _ _ _⟩
  · have hlt : i < n := by omega
    go_enter Tryd.func51, Tryd.ntmps51
    go_wp2
    go_quiet (fail)
    go_wp2
    go_quiet (fail)
    go_wp2
    go_ret
    exact ⟨rfl, (keep_drewN _ _ _).drewN _⟩

set_option maxRecDepth 100000 in
set_option maxHeartbeats 1000000 in
theorem kind_nil (w : World) : Calls Tryd.prog 52 #[.nilIface] w fun e w' => e = .returned (.int .u8 0) ∧ w' = w := by
  go_enter Tryd.func52, Tryd.ntmps52
  go_wp2
  go_ret
  exact ⟨rfl, rfl⟩

set_option maxRecDepth 100000 in
set_option maxHeartbeats 1000000 in
theorem kind_end (B : Nat) (w : World) (e0 : Addr) (he : ErrAt B w 0 e0) : Calls Tryd.prog 52 #[errV e0] w fun e w' => e = .returned (.int .u8 1) ∧ w' = w := by
  have heq := fun w => run_eqErr_same e0 w
  have hc := he.cell
  clear he
  go_enter Tryd.func52, Tryd.ntmps52
  go_wp2
  go_ret
  exact ⟨rfl, rfl⟩

set_option maxRecDepth 100000 in
set_option maxHeartbeats 1000000 in
theorem ldSize_ok (p : Nat) (v : Value) (l : List UInt8) (i : Nat) (w : World) (hr : Rdr w p v l i) (e0 e1 : Addr) (t2 t3 : TypeId) (p2 p3 : Value) (he : UvErrs p w e0 e1 (.iface t2 p2) (.iface t3 p3)) (x m : Nat) (hd : uvDec (l.drop i) = .ok x m) (z : Bool) (most : Nat) (hm : x ≤ most) (hz : z = true → x ≠ 0) :
    Calls Tryd.prog 86 #[rdV p, .bool z, .int .u64 most] w fun e w' => e = .returned (.tuple #[.int .u64 x, .nilIface]) ∧ Rdr w' p v l (i + m) ∧ Keep (fun k => k = p) w w' := by
  have HB := Lib.hid (readUv p v l i w hr e0 e1 t2 t3 p2 p3 he)
  rw [hd] at HB
  have HT := fun W => Lib.hid (toByteReader p W)
  clear hr he hd
  go_enter Tryd.func86, Tryd.ntmps86
  go_wp2_with fail
  refine (HT _).out.mono ?_
  rintro e w1 ⟨rfl, rfl⟩
  go_wp2_with fail
  refine HB.out.mono ?_
  unfold UvR.rd UvR.at_
  dsimp only
  rintro e w2 ⟨rfl, ⟨j, rfl, hr2⟩, hk⟩
  have HR2 := Lib.hid hr2
  clear hr2 HB HT
  cases z
  · by_cases h0 : x = 0
    · subst h0
      go_wp2
      go_ret2
      exact ⟨rfl, HR2.out, hk⟩
    · have hx : ((x : Int) == 0) = false := by simp; omega
      go_wp2
      go_ret2
      exact ⟨rfl, HR2.out, hk⟩
  · have hx : ((x : Int) == 0) = false := by have := hz rfl; simp; omega
    go_wp2
    go_ret2
    exact ⟨rfl, HR2.out, hk⟩

set_option maxRecDepth 100000 in
set_option maxHeartbeats 1000000 in
theorem ldSize_end (p : Nat) (v : Value) (l : List UInt8) (i : Nat) (w : World) (hr : Rdr w p v l i) (e0 e1 : Addr) (t2 t3 : TypeId) (p2 p3 : Value) (he : UvErrs p w e0 e1 (.iface t2 p2) (.iface t3 p3)) (m : Nat) (hd : uvDec (l.drop i) = .ok 0 m) (most : Nat) :
    Calls Tryd.prog 86 #[rdV p, .bool true, .int .u64 most] w fun e w' => e = .returned (.tuple #[.int .u64 0, errV e0]) ∧ Rdr w' p v l (i + m) ∧ Keep (fun k => k = p) w w' := by
  have HB := Lib.hid (readUv p v l i w hr e0 e1 t2 t3 p2 p3 he)
  rw [hd] at HB
  have HE := Lib.hid he
  have HT := fun W => Lib.hid (toByteReader p W)
  clear hr he hd
  go_enter Tryd.func86, Tryd.ntmps86
  go_wp2_with fail
  refine (HT _).out.mono ?_
  rintro e w1 ⟨rfl, rfl⟩
  go_wp2_with fail
  refine HB.out.mono ?_
  unfold UvR.rd UvR.at_
  dsimp only
  rintro e w2 ⟨rfl, ⟨j, rfl, hr2⟩, hk⟩
  have HR2 := Lib.hid hr2
  have hc := (HE.out.keep hk (fun k h => by omega)).eof.cell
  clear hr2 HB HT HE
  go_wp2
  go_quiet (fail)
  go_wp2
  go_ret2
  exact ⟨rfl, HR2.out.keep (keep_drewN (fun _ => False) _ _) (fun _ h => h.elim), hk.drewN _⟩
end Go.Proofs.YthfgnhgijgjggaaDoor
