/- Contracts, joined (RdrB RdC RdD CbA CbB CbC CbD). -/
import Derived.Test.YtglkonccinpdnaaGreatDoorJCi1
import Derived.BigQuiet
import Derived.LoopTactic
/- Contracts of a reader over bytes, part 2: io.ReadAtLeast where the bytes end; io.ReadFull. -/
namespace Go.Proofs.YtglkonccinpdnaaGreatDoor
open Go.RowKit

set_option maxRecDepth 100000 in
set_option maxHeartbeats 1000000 in
theorem rdAtLeast_cut (p n c g K : Nat) (v : Value) (l : List UInt8) (i : Nat) (cur : List Value) (t : TypeId) (w : World) (hr : Rdr w p v l i) (hpg : p < g) (hg : w.heap[g]? = some (.cells cur.toArray t (0, 0))) (hn : cur.length = n) (hc : n ≤ c)
    (b1 : n ≤ 9223372036854775807) (hK : K = l.length - i) (hK0 : 0 < K) (hKn : K < n) (e0 e1 : Addr) (he : ErrAt p w 0 e0) (he1 : ErrAt p w 5 e1) :
    Calls Tryz.prog 93 #[rdV p, .slice (some ⟨g, 0, none⟩) n c, .int .i64 n] w fun e w' => e = .returned (.tuple #[.int .i64 K, errV e1]) ∧ Rdr w' p v l l.length ∧ Keep (fun k => k = p ∨ k = g) w w' := by
  have hL := hr.fits
  have hle := hr.le
  have HR := Lib.hid (rdRead_some p g 0 n c v l i cur t (some ⟨g, 0, none⟩) w.drew hr.drew (by omega) hpg hg (fun _ => rfl) (by omega))
  have hmin : min n (l.length - i) = K := by omega
  have hmin2 : i + K = l.length := by omega
  have HMIN := Lib.hid hmin
  have HMIN2 := Lib.hid hmin2
  have hsl := fun W => run_from (P := Tryz.prog) Tryz.underlying58 info_u8 (some ⟨g, 0, none⟩) n c 0 (by omega) W
  have hsl2 := fun W => run_from (P := Tryz.prog) Tryz.underlying58 info_u8 (some ⟨g, 0, none⟩) n c K (by omega) W
  rw [cutA_own _ _ _ _ (by omega), Nat.zero_add] at hsl2
  have hmf : ∀ (fn : Fn) (first cap : Array Value) (w : World), (Instr.makeFunc fn first cap).run Tryz.prog w = .ok (.func fn first cap) w := fun _ _ _ _ => rfl
  have hna := fun w => nil_rdRead ⟨p, 0, none⟩ w
  have hme := fun w => method_rdRead ⟨p, 0, none⟩ w
  have HE := Lib.hid he
  have HE1 := Lib.hid he1
  clear hr hg hn hmin hmin2 he he1 hL hle hK
  go_enter Tryz.func93, Tryz.ntmps93
  go_wp2
  refine wp_loop_rounds 3 ?_
  rw [rounds_succ]
  go_wp2_with fail
  go_region_with (go_at_call 148; refine HR.out.mono ?_; rw [HMIN.out, HMIN2.out]; rintro e w1 ⟨rfl, hr1, hg1, hk1⟩)
  have hk1' := (keep_drew (fun k => k = p ∨ k = g) w).trans hk1
  have q1 : ErrAt p w1 0 e0 := HE.out.keep hk1' (fun k h => by omega)
  have q2 : ErrAt p w1 5 e1 := HE1.out.keep hk1' (fun k h => by omega)
  have HR2 := Lib.hid (rdRead_end p (n - K) (c - K) v l l.length (some ⟨g, K, none⟩) w1.drew hr1.drew rfl e0 q1.drew)
  clear HR hg1 hk1
  go_wp2
  rw [rounds_succ]
  go_wp2_with fail
  go_region_with (go_at_call 148; refine HR2.out.mono ?_; rintro e w2 ⟨rfl, hk2⟩)
  have k1 : w2.cell? ⟨0, 0, none⟩ = _ := hk2.cell q1.drew.cell (fun h => h)
  have k2 : w2.cell? ⟨5, 0, none⟩ = _ := hk2.cell q2.drew.cell (fun h => h)
  have keq := run_eqErr_same e0
  go_wp2
  rw [rounds_succ]
  go_wp2
  go_ret2
  have hk3 : Keep (fun _ => False) w1 w2 := (keep_drew _ w1).trans hk2
  exact ⟨rfl, hr1.keep hk3 (fun _ h => h.elim), hk1'.trans (hk3.mono fun _ _ h => h.elim)⟩

set_option maxRecDepth 100000 in
set_option maxHeartbeats 1000000 in
theorem rdAtLeast_zero (p c : Nat) (A : Option Addr) (w : World) :
    Calls Tryz.prog 93 #[rdV p, .slice A 0 c, .int .i64 0] w fun e w' => e = .returned (.tuple #[.int .i64 0, .nilIface]) ∧ w' = w := by
  go_enter Tryz.func93, Tryz.ntmps93
  go_wp2
  refine wp_loop_rounds 1 ?_
  rw [rounds_succ]
  go_wp2
  go_ret2
  exact ⟨rfl, rfl⟩

/-- io.ReadFull where the bytes are there. -/
theorem rdFull_ok (p g n c : Nat) (v : Value) (l : List UInt8) (i : Nat) (cur : List Value) (t : TypeId) (w : World) (hr : Rdr w p v l i) (hpg : p < g)
    (hg : w.heap[g]? = some (.cells cur.toArray t (0, 0))) (hn : cur.length = n) (hi : i + n ≤ l.length) :
    Calls Tryz.prog 80 #[rdV p, .slice (some ⟨g, 0, none⟩) n c] w fun e w' => e = .returned (.tuple #[.int .i64 n, .nilIface]) ∧ Rdr w' p v l (i + n) ∧
      Hid (w'.heap[g]? = some (.cells (Lib.byteCells ((l.drop i).take n)).toArray t (0, 0))) ∧ Keep (fun k => k = p ∨ k = g) w w' := by
  rcases Nat.eq_zero_or_pos n with h0 | h0
  · subst h0
    have hcur : cur = [] := List.eq_nil_of_length_eq_zero hn
    subst hcur
    have HR := Lib.hid (rdAtLeast_zero p c (some ⟨g, 0, none⟩) w)
    have HR0 := Lib.hid hr
    have HG := Lib.hid hg
    clear hr hg hi hn
    go_enter Tryz.func80, Tryz.ntmps80
    go_wp2_with fail
    refine HR.out.mono ?_
    rintro e w1 ⟨rfl, rfl⟩
    go_wp2
    go_ret2
    exact ⟨rfl, HR0.out, HG, Keep.refl _ _⟩
  · have HR := Lib.hid (rdAtLeast_ok p g n c v l i cur t w hr hpg hg h0 hn hi)
    have hL := hr.fits
    have b1 : n ≤ 9223372036854775807 := by omega
    clear hr hg hi hn
    go_enter Tryz.func80, Tryz.ntmps80
    go_wp2_with fail
    refine HR.out.mono ?_
    rintro e w1 ⟨rfl, h1, h2, h3⟩
    go_wp2
    go_ret2
    exact ⟨rfl, h1, h2, h3⟩

/-- .. where they end: io.EOF where there is none, io.ErrUnexpectedEOF where there are too few. -/
theorem rdFull_short (p g n c K : Nat) (v : Value) (l : List UInt8) (i : Nat) (cur : List Value) (t : TypeId) (w : World) (hr : Rdr w p v l i) (hpg : p < g) (hg : w.heap[g]? = some (.cells cur.toArray t (0, 0))) (hn : cur.length = n) (hc : n ≤ c)
    (b1 : n ≤ 9223372036854775807) (hK : K = l.length - i) (hKn : K < n) (e0 e1 : Addr) (he : ErrAt p w 0 e0) (he1 : ErrAt p w 5 e1) :
    Calls Tryz.prog 80 #[rdV p, .slice (some ⟨g, 0, none⟩) n c] w fun e w' => e = .returned (.tuple #[.int .i64 K, errV (if K = 0 then e0 else e1)]) ∧ Rdr w' p v l l.length ∧ Keep (fun k => k = p ∨ k = g) w w' := by
  have hle := hr.le
  rcases Nat.eq_zero_or_pos K with h0 | h0
  · subst h0
    have hi : i = l.length := by omega
    subst hi
    have HR := Lib.hid (rdAtLeast_end p n c g v l _ w hr hKn b1 rfl e0 he)
    have HR0 := Lib.hid hr
    clear hr hg hn he he1 hK hle
    go_enter Tryz.func80, Tryz.ntmps80
    go_wp2_with fail
    refine HR.out.mono ?_
    rintro e w1 ⟨rfl, hk⟩
    go_wp2
    go_ret2
    exact ⟨rfl, HR0.out.keep hk (fun _ h => h.elim), hk.mono fun _ _ h => h.elim⟩
  · have HR := Lib.hid (rdAtLeast_cut p n c g K v l i cur t w hr hpg hg hn hc b1 hK h0 hKn e0 e1 he he1)
    rw [if_neg (by omega)]
    clear hr hg hn he he1 hK hle
    go_enter Tryz.func80, Tryz.ntmps80
    go_wp2_with fail
    refine HR.out.mono ?_
    rintro e w1 ⟨rfl, h1, h2⟩
    go_wp2
    go_ret2
    exact ⟨rfl, h1, h2⟩

/-- bytes.NewReader: a new block. -/
theorem newReader (v : Value) (l : List UInt8) (w : World) (hv : BS w v l) (hL : l.length ≤ 9223372036854775807) :
    Calls Tryz.prog 27 #[v] w fun e w' => e = .returned (.pointer (some ⟨w.heap.size, 0, none⟩)) ∧ Rdr w' w.heap.size v l 0 ∧ w'.heap.size = w.heap.size + 1 ∧ Below w.heap.size w w' := by
  have hb : BSo (fun k => w.heap.size ≤ k) w v l := by
    refine ⟨hv, fun h0 A n c a e1 e2 => ?_⟩
    obtain ⟨A', c', e3, _, hcl⟩ := hv
    obtain ⟨b, o, e4, hcl⟩ := hcl h0
    have h1 := block_of_cell (hcl 0 h0)
    rw [e1] at e3
    injection e3 with e3
    rw [← e3, e2] at e4
    injection e4 with e4
    rw [e4]
    exact Nat.not_le.2 h1
  obtain ⟨A, c, rfl, _, hcl⟩ := hv
  have HB := Lib.hid hb
  clear hcl hb
  go_enter Tryz.func27, Tryz.ntmps27
  go_wp2
  go_ret
  have hbel : Below w.heap.size w (w.alloc (.cells #[.slice A l.length c, .int .i64 0, .int .i64 (-1)] 121)) := (Below.refl _ _).alloc (Nat.le_refl _) _
  exact ⟨rfl, ⟨⟨-1, heap_alloc_new _ _⟩, HB.out.keep (S := fun k => w.heap.size ≤ k) hbel.keep, Nat.zero_le _, hL⟩, by simp, hbel⟩
end Go.Proofs.YtglkonccinpdnaaGreatDoor
/- Contracts: (*bytes.Reader).ReadByte. -/
namespace Go.Proofs.YtglkonccinpdnaaGreatDoor
open Go.RowKit

set_option maxRecDepth 100000 in
set_option maxHeartbeats 1000000 in
/-- A byte that is there is read. -/
theorem rdByte_some (p : Nat) (v : Value) (l : List UInt8) (i : Nat) (w : World) (hr : Rdr w p v l i) (hi : i < l.length) :
    Calls Tryz.prog 149 #[.pointer (some ⟨p, 0, none⟩)] w fun e w' => e = .returned (.tuple #[.int .u8 (l[i].toNat), .nilIface]) ∧ Rdr w' p v l (i + 1) ∧ Keep (fun k => k = p) w w' := by
  obtain ⟨⟨r, hrow⟩, hbs, hle, hfits⟩ := hr
  have HB := Lib.hid hbs
  obtain ⟨⟨A0, c0, rfl, hc0, hcl⟩, hout⟩ := hbs
  obtain ⟨b, o, rfl, hcl2⟩ := hcl (by omega)
  have hbp : ¬ p ≤ b := hout (by omega) _ _ _ _ rfl rfl
  have f2 : w.frozen? ⟨p, 2, none⟩ = false := frozen_of_row' (cur := [_, _, _]) hrow 2
  have h2 : w.cell? ⟨p, 2, none⟩ = some (.int .i64 r) := by rw [cell_of_row' (cur := [_, _, _]) hrow]; rfl
  have hcell := hcl2 i hi
  have k1 : Keep (fun k => k = p) w (w.setCell ⟨p, 2, none⟩ (.int .i64 (-1))) := Keep.setCell (S := fun k => k = p) (Keep.refl _ w) (show p = p from rfl) _ _
  have hrow2 := Lib.heap_setCell_same (i := 2) (w := w) hrow (.int .i64 (-1))
  obtain ⟨B, hB⟩ : ∃ B, B = l[i].toNat := ⟨_, rfl⟩
  rw [← hB] at hcell ⊢
  obtain ⟨N, hN⟩ : ∃ N, N = l.length := ⟨_, rfl⟩
  have HN := Lib.hid hN
  rw [← hN] at hi hfits
  clear hB hN hcl hcl2 hout hle hc0 hrow
  go_enter Tryz.func149, Tryz.ntmps149
  go_wp2
  generalize w.setCell ⟨p, 2, none⟩ (.int .i64 (-1)) = w2 at k1 hrow2 ⊢
  have hrow3 : w2.heap[p]? = some (.cells #[.slice (some ⟨b, o, none⟩) l.length c0, .int .i64 i, .int .i64 (-1)] 121 (0, 0)) := hrow2
  rw [← HN.out] at hrow3
  have h0 : w2.cell? ⟨p, 0, none⟩ = some (.slice (some ⟨b, o, none⟩) N c0) := by rw [cell_of_row' (cur := [_, _, _]) hrow3]; rfl
  have h1 : w2.cell? ⟨p, 1, none⟩ = some (.int .i64 i) := by rw [cell_of_row' (cur := [_, _, _]) hrow3]; rfl
  have f1 : w2.frozen? ⟨p, 1, none⟩ = false := frozen_of_row' (cur := [_, _, _]) hrow3 1
  have hc2 : w2.cell? ⟨b, o + i, none⟩ = some (.int .u8 B) := k1.cell hcell (by show ¬ b = p; omega)
  have HROW := Lib.hid hrow3
  clear hrow2 hrow3 f2 h2 hcell
  go_quiet (fail)
  go_wp2
  go_quiet (fail)
  go_wp2
  go_ret2
  refine ⟨rfl, ⟨⟨-1, ?_⟩, ?_, ?_, ?_⟩, ?_⟩
  · have h := Lib.heap_setCell_same (i := 1) HROW.out (.int .i64 ((i : Int) + 1))
    rw [← HN.out]
    exact h
  · exact HB.out.keep (Keep.setCell (S := fun k => p ≤ k) ((k1.mono fun _ _ h => by omega).drewN _) (Nat.le_refl p) _ _)
  · rw [← HN.out]; omega
  · rw [← HN.out]; exact hfits
  · exact Keep.setCell (S := fun k => k = p) (k1.drewN _) (show p = p from rfl) _ _

set_option maxRecDepth 100000 in
set_option maxHeartbeats 1000000 in
/-- Behind the last byte the end is told. -/
theorem rdByte_end (p : Nat) (v : Value) (l : List UInt8) (i : Nat) (w : World) (hr : Rdr w p v l i) (hi : i = l.length) (e0 : Addr) (he : ErrAt p w 0 e0) :
    Calls Tryz.prog 149 #[.pointer (some ⟨p, 0, none⟩)] w fun e w' => e = .returned (.tuple #[.int .u8 0, errV e0]) ∧ Rdr w' p v l i ∧ Keep (fun k => k = p) w w' := by
  obtain ⟨⟨r, hrow⟩, hbs, hle, hfits⟩ := hr
  have HB := Lib.hid hbs
  obtain ⟨⟨A0, c0, rfl, hc0, hcl⟩, hout⟩ := hbs
  have f2 : w.frozen? ⟨p, 2, none⟩ = false := frozen_of_row' (cur := [_, _, _]) hrow 2
  have h2 : w.cell? ⟨p, 2, none⟩ = some (.int .i64 r) := by rw [cell_of_row' (cur := [_, _, _]) hrow]; rfl
  have k1 : Keep (fun k => k = p) w (w.setCell ⟨p, 2, none⟩ (.int .i64 (-1))) := Keep.setCell (S := fun k => k = p) (Keep.refl _ w) (show p = p from rfl) _ _
  have hrow2 := Lib.heap_setCell_same (i := 2) (w := w) hrow (.int .i64 (-1))
  have he2 := (he.keep k1 (fun k hk => by omega)).cell
  clear hcl hout hc0 hrow he
  go_enter Tryz.func149, Tryz.ntmps149
  go_wp2
  generalize w.setCell ⟨p, 2, none⟩ (.int .i64 (-1)) = w2 at k1 hrow2 he2 ⊢
  have hrow3 : w2.heap[p]? = some (.cells #[.slice A0 l.length c0, .int .i64 i, .int .i64 (-1)] 121 (0, 0)) := hrow2
  have h0 : w2.cell? ⟨p, 0, none⟩ = some (.slice A0 l.length c0) := by rw [cell_of_row' (cur := [_, _, _]) hrow3]; rfl
  have h1 : w2.cell? ⟨p, 1, none⟩ = some (.int .i64 i) := by rw [cell_of_row' (cur := [_, _, _]) hrow3]; rfl
  have HROW := Lib.hid hrow3
  clear hrow2 hrow3 f2 h2
  go_quiet (fail)
  go_wp2
  go_quiet (fail)
  go_wp2
  go_ret2
  exact ⟨rfl, ⟨⟨-1, HROW.out⟩, HB.out.keep (S := fun k => p ≤ k) (((k1.mono fun _ _ h => by omega).drewN _).drewN _), by omega, hfits⟩, (k1.drewN _).drewN _⟩
end Go.Proofs.YtglkonccinpdnaaGreatDoor
/- Contracts: varint.ReadUvarint over a reader of bytes. -/
namespace Go.Proofs.YtglkonccinpdnaaGreatDoor
open Go.RowKit

theorem nil_rdByte (a : Addr) (w : World) : (nilAhead 381 72 (.pointer (some a)) "ReadByte").run Tryz.prog w = .ok (some false) w := by kernel_rfl
theorem method_rdByte (a : Addr) (w : World) : (method 381 72 (.pointer (some a)) "ReadByte").run Tryz.prog w = .ok (149, .pointer (some a)) w := by kernel_rfl

/-- How ReadUvarint answers. -/
def UvR.rd (E1 E2 E3 : Value) : UvR → Value
  | .ok x _ => .tuple #[.int .u64 x, .nilIface]
  | .over => .tuple #[.int .u64 0, E1]
  | .notMin => .tuple #[.int .u64 0, E2]
  | .under => .tuple #[.int .u64 0, E3]
def UvR.at_ (i : Nat) : UvR → Nat → Prop
  | .ok _ m, j => j = i + m
  | _, _ => True

/-- The errors that ReadUvarint gives, below B. -/
structure UvErrs (B : Nat) (w : World) (e0 e1 : Addr) (E2 E3 : Value) : Prop where
  eof : ErrAt B w 0 e0
  unex : ErrAt B w 5 e1
  over : w.cell? ⟨6, 0, none⟩ = some E2
  lt2 : 6 < B
  notMin : w.cell? ⟨7, 0, none⟩ = some E3
  lt3 : 7 < B
theorem UvErrs.keep {B : Nat} {S : Nat → Prop} {w w' : World} {e0 e1 : Addr} {E2 E3 : Value} (h : UvErrs B w e0 e1 E2 E3) (hk : Keep S w w') (hS : ∀ k, S k → B ≤ k) : UvErrs B w' e0 e1 E2 E3 :=
  ⟨h.eof.keep hk hS, h.unex.keep hk hS, hk.cell h.over (fun hh => absurd (hS _ hh) (Nat.not_le.2 h.lt2)), h.lt2, hk.cell h.notMin (fun hh => absurd (hS _ hh) (Nat.not_le.2 h.lt3)), h.lt3⟩
theorem UvErrs.mono {B C : Nat} {w : World} {e0 e1 : Addr} {E2 E3 : Value} (h : UvErrs B w e0 e1 E2 E3) (hB : B ≤ C) : UvErrs C w e0 e1 E2 E3 :=
  ⟨h.eof.mono hB, h.unex.mono hB, h.over, Nat.lt_of_lt_of_le h.lt2 hB, h.notMin, Nat.lt_of_lt_of_le h.lt3 hB⟩

set_option maxRecDepth 100000 in
set_option maxHeartbeats 4000000 in
theorem readUv (p : Nat) (v : Value) (l : List UInt8) (i : Nat) (w : World) (hr : Rdr w p v l i) (e0 e1 : Addr) (t2 t3 : TypeId) (p2 p3 : Value) (he : UvErrs p w e0 e1 (.iface t2 p2) (.iface t3 p3)) :
    Calls Tryz.prog 91 #[rdV p] w fun e w' =>
      e = .returned ((uvDec (l.drop i)).rd (.iface t2 p2) (.iface t3 p3) (if i = l.length then errV e0 else errV e1)) ∧ (∃ j, (uvDec (l.drop i)).at_ i j ∧ Rdr w' p v l j) ∧ Keep (fun k => k = p) w w' := by
  have hna := fun w => nil_rdByte ⟨p, 0, none⟩ w
  have hme := fun w => method_rdByte ⟨p, 0, none⟩ w
  have hmf : ∀ (fn : Fn) (first cap : Array Value) (w : World), (Instr.makeFunc fn first cap).run Tryz.prog w = .ok (.func fn first cap) w := fun _ _ _ _ => rfl
  have heq := fun w => run_eqErr_same e0 w
  obtain ⟨hi0, hf0⟩ : i ≤ l.length ∧ l.length ≤ 9223372036854775807 := ⟨hr.le, hr.fits⟩
  have HR0 := Lib.hid hr
  have HE0 := Lib.hid he
  clear hr he
  go_enter Tryz.func91, Tryz.ntmps91
  go_wp2
  go_loopw [4, 5] (fun x s wr => ∃ (k X : Nat), i + k ≤ l.length ∧ k ≤ 9 ∧ X < 2 ^ (7 * k) ∧ s = .int .u64 (7 * k : Nat) ∧ x = .int .u64 X ∧ Hid (uvDec (l.drop i) = uvGo k X (l.drop (i + k))) ∧ Hid (Rdr wr p v l (i + k)) ∧ Keep (fun k => k = p) w wr) (fun _ s _ => 70 - (intOf s).toNat)
  case atStart => exact ⟨0, 0, by omega, by omega, by decide, rfl, rfl, Lib.hid rfl, HR0, Keep.refl _ _⟩
  case round =>
    obtain ⟨k, X, hk, hk10, hX, rfl, rfl, hd, HR, hkw⟩ := hrel
    have HE := Lib.hid (HE0.out.keep hkw (fun k hk => by omega))
    by_cases hlt : i + k < l.length
    · have HB := Lib.hid (rdByte_some p v l (i + k) wr HR.out hlt)
      have hb : l[i + k].toNat < 256 := UInt8.toNat_lt _
      obtain ⟨B, hB⟩ : ∃ B, B = l[i + k].toNat := ⟨_, rfl⟩
      rw [← hB] at HB hb
      have HBB := Lib.hid hB
      clear hB
      have hstep : uvGo k X (l.drop (i + k)) = (if (k = 8 ∧ 128 ≤ B) ∨ 9 ≤ k then .over
          else if B < 128 then (if B = 0 ∧ 0 < k then .notMin else .ok (X + B * 2 ^ (7 * k)) (k + 1))
          else uvGo (k + 1) (X + (B % 128) * 2 ^ (7 * k)) (l.drop (i + k + 1))) := by
        rw [List.drop_eq_getElem_cons hlt, uvGo, ← HBB.out]
      clear HBB
      go_wp2_with fail
      refine HB.out.mono ?_
      rintro e w1 ⟨rfl, hr1, hk1⟩
      have hkw1 := hkw.trans hk1
      have HE1 := HE.out.keep hk1 (fun k hk => by omega)
      have hc2 := HE1.over
      have hc3 := HE1.notMin
      have HR1 := Lib.hid hr1
      clear hr1 hk1 HE1 HB
      by_cases h9 : k = 9
      · subst h9
        have hfin : Hid (uvDec (l.drop i) = .over) := Lib.hid (by rw [hd.out, hstep, if_pos (Or.inr (by omega))])
        clear hd hstep
        go_wp2
        go_quiet (fail)
        go_wp2
        go_ret2
        exact ⟨by rw [hfin.out]; rfl, ⟨_, by rw [hfin.out]; trivial, HR1.out.keep (keep_drewN (fun _ => False) _ _) (fun _ h => h.elim)⟩, hkw1.drewN _⟩
      by_cases hge : 128 ≤ B
      · by_cases h8 : k = 8
        · subst h8
          have hfin : Hid (uvDec (l.drop i) = .over) := Lib.hid (by rw [hd.out, hstep, if_pos (Or.inl ⟨rfl, hge⟩)])
          clear hd hstep
          go_wp2
          go_quiet (fail)
          go_wp2
          go_ret2
          exact ⟨by rw [hfin.out]; rfl, ⟨_, by rw [hfin.out]; trivial, HR1.out.keep (keep_drewN (fun _ => False) _ _) (fun _ h => h.elim)⟩, hkw1.drewN _⟩
        · have hfin : Hid (uvDec (l.drop i) = uvGo (k + 1) (X + (B % 128) * 2 ^ (7 * k)) (l.drop (i + k + 1))) := Lib.hid (by
            rw [hd.out, hstep, if_neg (by omega), if_neg (by omega)])
          clear hd hstep
          have hk8 : ((7 * k : Nat) : Int) < 56 := by omega
          have hor := Lib.hid (uv_or_and k X B (by omega) hX hb)
          have hlt2 := uv_step_lt k X (B % 128) hX (by omega)
          go_wp2
          exact ⟨⟨k + 1, X + B % 128 * 2 ^ (7 * k), by omega, by omega, hlt2, by go_num, by rw [hor.out], hfin, HR1, hkw1⟩, by simp [intOf]; omega⟩
      · by_cases hz : B = 0 ∧ 0 < k
        · obtain ⟨rfl, hz⟩ := hz
          have hfin : Hid (uvDec (l.drop i) = .notMin) := Lib.hid (by rw [hd.out, hstep, if_neg (by omega), if_pos (by omega), if_pos ⟨rfl, hz⟩])
          clear hd hstep
          have hk9' : ((7 * k : Nat) : Int) < 63 := by omega
          by_cases hk8 : k = 8
          · subst hk8
            go_wp2
            go_quiet (fail)
            go_wp2
            go_ret2
            exact ⟨by rw [hfin.out]; rfl, ⟨_, by rw [hfin.out]; trivial, HR1.out.keep (keep_drewN (fun _ => False) _ _) (fun _ h => h.elim)⟩, hkw1.drewN _⟩
          · have hk8' : (((7 * k : Nat) : Int) == 56) = false := by simp; omega
            go_wp2
            go_quiet (fail)
            go_wp2
            go_ret2
            exact ⟨by rw [hfin.out]; rfl, ⟨_, by rw [hfin.out]; trivial, HR1.out.keep (keep_drewN (fun _ => False) _ _) (fun _ h => h.elim)⟩, hkw1.drewN _⟩
        · have hfin : Hid (uvDec (l.drop i) = .ok (X + B * 2 ^ (7 * k)) (k + 1)) := Lib.hid (by rw [hd.out, hstep, if_neg (by omega), if_pos (by omega), if_neg hz])
          have hor := Lib.hid (uv_or k X B (by omega) hX (by omega))
          clear hd hstep
          have hk9' : ((7 * k : Nat) : Int) < 63 := by omega
          by_cases hB0 : B = 0
          · subst hB0
            have hk0 : k = 0 := by omega
            subst hk0
            have hfin' : Hid (uvDec (l.drop i) = .ok X 1) := Lib.hid (by rw [hfin.out]; simp)
            clear hor hfin
            have hor0 : Hid (bits .or .u64 (X : Int) 0 = (X : Nat)) := Lib.hid (by rw [u64_orv0 _ _ (by omega) (by omega) (by omega) (by omega) (by omega)]; omega)
            go_wp2
            go_ret2
            exact ⟨by rw [hfin'.out, hor0.out]; rfl, ⟨_, by rw [hfin'.out]; exact rfl, HR1.out⟩, hkw1⟩
          · have hB0' : ((B : Int) == 0) = false := by simp; omega
            by_cases hk8 : k = 8
            · subst hk8
              have hor8 : Hid (bits .or .u64 (X : Int) ((B : Int) * 72057594037927936) = ((X + B * 2 ^ (7 * 8) : Nat) : Int)) := Lib.hid (by
                rw [← hor.out, IntWalk.u64_in _ (by omega)]; rfl)
              clear hor
              go_wp2
              go_ret2
              exact ⟨by rw [hfin.out, hor8.out]; rfl, ⟨_, by rw [hfin.out]; exact rfl, HR1.out⟩, hkw1⟩
            · have hk8' : (((7 * k : Nat) : Int) == 56) = false := by simp; omega
              go_wp2
              go_ret2
              exact ⟨by rw [hfin.out, hor.out]; rfl, ⟨_, by rw [hfin.out]; exact rfl, HR1.out⟩, hkw1⟩
    · have hkn : i + k = l.length := by omega
      have hfin : Hid (uvDec (l.drop i) = .under) := Lib.hid (by rw [hd.out, hkn, List.drop_length]; rfl)
      have HB := Lib.hid (rdByte_end p v l (i + k) wr HR.out hkn e0 HE.out.eof)
      clear hd
      go_wp2_with fail
      refine HB.out.mono ?_
      rintro e w1 ⟨rfl, hr1, hk1⟩
      have hkw1 := hkw.trans hk1
      have HE1 := HE.out.keep hk1 (fun k hk => by omega)
      have hc1 := HE1.eof.cell
      have hc4 := HE1.unex.cell
      have HR1 := Lib.hid hr1
      clear hr1 hk1 HE1 HB
      by_cases hk0 : k = 0
      · subst hk0
        have hil : i = l.length := by omega
        clear hkn hlt hk
        go_wp2
        go_ret2
        exact ⟨rfl, ⟨_, trivial, HR1.out⟩, hkw1⟩
      · have hk0' : (((7 * k : Nat) : Int) == 0) = false := by simp; omega
        have hil : ¬ i = l.length := by omega
        go_wp2
        go_ret2
        exact ⟨by rw [hfin.out]; rfl, ⟨_, by rw [hfin.out]; trivial, HR1.out⟩, hkw1⟩
end Go.Proofs.YtglkonccinpdnaaGreatDoor
/- Contracts: a scanner over a reader of bytes (readerToScanner): Read into another row, into its own, at the end; ReadByte. -/
namespace Go.Proofs.YtglkonccinpdnaaGreatDoor
open Go.RowKit

abbrev rtsO (p : Nat) (b1 b2 b3 : Int) : Obj := .cells #[rdV p, .int .u8 b1, .int .u8 b2, .int .u8 b3] 214 (0, 0)
/-- A scanner in block q over the reader in block p, which stands at byte i; nothing to be read again. -/
structure Rts (w : World) (q p : Nat) (v : Value) (l : List UInt8) (i : Nat) : Prop where
  row : ∃ b1 b2 b3 : Int, w.heap[q]? = some (rtsO p b1 b2 b3) ∧ (b2 = 0 ∨ b2 = 2)
  rdr : Rdr w p v l i
  lt : p < q
theorem Rts.keep {w w' : World} {q p : Nat} {v : Value} {l : List UInt8} {i : Nat} (h : Rts w q p v l i) {S : Nat → Prop} (hk : Keep S w w') (hS : ∀ k, S k → p < k ∧ k ≠ q) : Rts w' q p v l i := by
  obtain ⟨⟨b1, b2, b3, hr, h2⟩, hd, hl⟩ := h
  exact ⟨⟨b1, b2, b3, hk.row hr (fun hh => (hS _ hh).2 rfl), h2⟩, hd.keep hk (fun k hh => (hS k hh).1), hl⟩
theorem Rts.below {w w' : World} {q p : Nat} {v : Value} {l : List UInt8} {i : Nat} (h : Rts w q p v l i) (hb : Below w.heap.size w w') : Rts w' q p v l i := h.keep (S := fun _ => False) hb.keep (fun _ h => h.elim)
theorem Rts.drew {w : World} {q p : Nat} {v : Value} {l : List UInt8} {i : Nat} (h : Rts w q p v l i) : Rts w.drew q p v l i := h.keep (S := fun _ => False) (keep_drew (fun _ => False) w) (fun _ h => h.elim)

/-- No error is not an error. -/
theorem eqErr_nil (a : Addr) (w : World) : (binOp .eql 55 .nilIface (errV a)).run Tryz.prog w = .ok (.bool false) w := by kernel_rfl

/-- The last byte that was read lies in the row. -/
theorem last_read (l : List UInt8) (i m : Nat) (cur : List Value) (o : Nat) (hi : i < l.length) (hm : 0 < m) (hf : o + m ≤ cur.length) : ∃ B : Int, (splice cur o (Lib.byteCells ((l.drop i).take m)))[o + (min m (l.length - i) - 1)]? = some (.int .u8 B) := by
  have hlen : ((l.drop i).take m).length = min m (l.length - i) := by rw [List.length_take, List.length_drop]
  have hlen2 : (Lib.byteCells ((l.drop i).take m)).length = min m (l.length - i) := by rw [Lib.byteCells_length, hlen]
  rw [splice_get _ _ _ (by rw [hlen2]; omega), if_pos (by rw [hlen2]; omega)]
  unfold Lib.byteCells
  rw [List.getElem?_map, List.getElem?_eq_getElem (by rw [hlen]; omega)]
  exact ⟨_, rfl⟩

set_option maxRecDepth 100000 in
set_option maxHeartbeats 2000000 in
theorem rtsRead_some (q p g o m c : Nat) (v : Value) (l : List UInt8) (i : Nat) (cur : List Value) (t : TypeId) (w : World) (hr : Rts w q p v l i) (hi : i < l.length) (hpg : p < g) (hgq : g ≠ q)
    (hg : w.heap[g]? = some (.cells cur.toArray t (0, 0))) (hm0 : 0 < m) (hfit : o + m ≤ cur.length) (hm : m ≤ 4611686018427387904) (e0 : Addr) (he : ErrAt p w 0 e0) :
    Calls Tryz.prog 182 #[.pointer (some ⟨q, 0, none⟩), .slice (some ⟨g, o, none⟩) m c] w fun e w' => e = .returned (.tuple #[.int .i64 (min m (l.length - i) : Nat), .nilIface]) ∧
      Rts w' q p v l (i + min m (l.length - i)) ∧ Hid (w'.heap[g]? = some (.cells (splice cur o (Lib.byteCells ((l.drop i).take m))).toArray t (0, 0))) ∧ Keep (fun k => k = p ∨ k = g ∨ k = q) w w' := by
  have HC := fun W (h : W = w) => Lib.hid (rdRead_some p g o m c v l i cur t (some ⟨g, o, none⟩) w hr.rdr hi hpg hg (fun _ => rfl) hfit)
  obtain ⟨B, hB⟩ := last_read l i m cur o hi hm0 hfit
  obtain ⟨b1, b2, b3, hrow, h2⟩ := hr.row
  have hb2 : (b2 == 1) = false := by rw [beq_eq_false_iff_ne]; omega
  have c0 := cell_of_row' (cur := [_, _, _, _]) hrow 0
  have c2 := cell_of_row' (cur := [_, _, _, _]) hrow 2
  have heqn := fun W => eqErr_nil e0 W
  have hna := fun w => nil_rdRead ⟨p, 0, none⟩ w
  have hme := fun w => method_rdRead ⟨p, 0, none⟩ w
  obtain ⟨K, hK⟩ : ∃ K, K = min m (l.length - i) := ⟨_, rfl⟩
  have hK0 : 0 < K := by omega
  have hKm : K ≤ m := by omega
  rw [← hK] at HC hB ⊢
  have HROW := Lib.hid hrow
  have HE := Lib.hid he
  have HR := Lib.hid hr
  have HB := Lib.hid hB
  clear hr hg hfit he hrow hK hB h2
  go_enter Tryz.func182, Tryz.ntmps182
  go_wp2_with fail
  refine (HC _ rfl).out.mono ?_
  rintro e w1 ⟨rfl, hr1, hg1, hk1⟩
  have hrow1 := hk1.row HROW.out (fun h => by have := HR.out.lt; omega)
  have k0 := (HE.out.keep hk1 (fun k h => by omega)).cell
  have f1 := frozen_of_row' (cur := [_, _, _, _]) hrow1 1
  have f2 := frozen_of_row' (cur := [_, _, _, _]) hrow1 2
  have j1 := cell_of_row' (cur := [_, _, _, _]) hrow1 1
  have j2 := cell_of_row' (cur := [_, _, _, _]) hrow1 2
  have z1 : w1.cell? ⟨g, o + (K - 1), none⟩ = some (.int .u8 B) := (cell_of_row' hg1.out _).trans HB.out
  have s1 : (w1.setCell ⟨q, 1, none⟩ (.int .u8 B)).heap[q]? = some (rtsO p B b2 b3) := Lib.heap_setCell_same (i := 1) hrow1 (.int .u8 B)
  have j2' := cell_of_row' (cur := [_, _, _, _]) s1 2
  have f2' := frozen_of_row' (cur := [_, _, _, _]) s1 2
  have s2 : ((w1.setCell ⟨q, 1, none⟩ (.int .u8 B)).setCell ⟨q, 2, none⟩ (.int .u8 2)).heap[q]? = some (rtsO p B 2 b3) := Lib.heap_setCell_same (i := 2) s1 (.int .u8 2)
  have HS2 := Lib.hid s2
  have HR1 := Lib.hid hr1
  have HG1 := Lib.hid hg1.out
  have HK1 := Lib.hid hk1
  have hKi : (0 : Int) < K := by omega
  clear hr1 hg1 hk1 hrow1 s1 s2 HC c0 c2
  go_wp2
  go_ret2
  have hk3 : Keep (fun k => k = p ∨ k = g ∨ k = q) w1 ((w1.setCell ⟨q, 1, none⟩ (.int .u8 B)).setCell ⟨q, 2, none⟩ (.int .u8 2)) := Keep.setCell (S := fun k => k = p ∨ k = g ∨ k = q) (Keep.setCell (S := fun k => k = p ∨ k = g ∨ k = q) (Keep.refl _ _) (Or.inr (Or.inr rfl)) 1 _) (Or.inr (Or.inr rfl)) 2 _
  refine ⟨rfl, ⟨⟨B, 2, b3, HS2.out, Or.inr rfl⟩, HR1.out.keep (S := fun k => k = q) (Keep.setCell (S := fun k => k = q) (Keep.setCell (S := fun k => k = q) (Keep.refl _ _) rfl 1 _) rfl 2 _) (fun k h => by have := HR.out.lt; omega), HR.out.lt⟩, Lib.hid ?_, (HK1.out.mono fun _ _ h => by omega).trans hk3⟩
  exact (Below.heap_setCell _ _ _ _ (show g ≠ q from hgq)).trans ((Below.heap_setCell _ _ _ _ (show g ≠ q from hgq)).trans HG1.out)

set_option maxRecDepth 100000 in
set_option maxHeartbeats 2000000 in
theorem rtsRead_end (q p m c : Nat) (v : Value) (l : List UInt8) (i : Nat) (A : Option Addr) (w : World) (hr : Rts w q p v l i) (hi : i = l.length) (e0 : Addr) (he : ErrAt p w 0 e0) :
    Calls Tryz.prog 182 #[.pointer (some ⟨q, 0, none⟩), .slice A m c] w fun e w' => e = .returned (.tuple #[.int .i64 0, errV e0]) ∧ Rts w' q p v l i ∧ Keep (fun _ => False) w w' := by
  have HC := Lib.hid (rdRead_end p m c v l i A w hr.rdr hi e0 he)
  obtain ⟨b1, b2, b3, hrow, h2⟩ := hr.row
  have hb2 : (b2 == 1) = false := by rw [beq_eq_false_iff_ne]; omega
  have c0 := cell_of_row' (cur := [_, _, _, _]) hrow 0
  have c2 := cell_of_row' (cur := [_, _, _, _]) hrow 2
  have heqn := fun W => eqErr_nil e0 W
  have hna := fun w => nil_rdRead ⟨p, 0, none⟩ w
  have hme := fun w => method_rdRead ⟨p, 0, none⟩ w
  have HR := Lib.hid hr
  clear hr he hrow hi h2
  go_enter Tryz.func182, Tryz.ntmps182
  go_wp2_with fail
  refine HC.out.mono ?_
  rintro e w1 ⟨rfl, hk1⟩
  have HK1 := Lib.hid hk1
  clear hk1 HC c0 c2
  go_wp2
  go_ret2
  exact ⟨rfl, HR.out.keep HK1.out (fun _ h => h.elim), HK1.out⟩

set_option maxRecDepth 100000 in
set_option maxHeartbeats 2000000 in
theorem rtsRead_own (q p c : Nat) (v : Value) (l : List UInt8) (i : Nat) (w : World) (hr : Rts w q p v l i) (hi : i < l.length) (e0 : Addr) (he : ErrAt p w 0 e0) :
    Calls Tryz.prog 182 #[.pointer (some ⟨q, 0, none⟩), .slice (some ⟨q, 3, none⟩) 1 c] w fun e w' => e = .returned (.tuple #[.int .i64 1, .nilIface]) ∧
      Rts w' q p v l (i + 1) ∧ Hid (w'.heap[q]? = some (rtsO p (l[i]'hi).toNat 2 (l[i]'hi).toNat)) ∧ Keep (fun k => k = p ∨ k = q) w w' := by
  obtain ⟨b1, b2, b3, hrow, h2⟩ := hr.row
  have hC := rdRead_some p q 3 1 c v l i [rdV p, .int .u8 b1, .int .u8 b2, .int .u8 b3] _ (some ⟨q, 3, none⟩) w hr.rdr hi hr.lt hrow (fun _ => rfl) (by simp)
  rw [show min 1 (l.length - i) = 1 by omega] at hC
  have hsp : splice [rdV p, Value.int .u8 b1, .int .u8 b2, .int .u8 b3] 3 (Lib.byteCells ((l.drop i).take 1)) = [rdV p, .int .u8 b1, .int .u8 b2, .int .u8 (l[i]'hi).toNat] := by
    rw [List.drop_eq_getElem_cons hi]
    rfl
  rw [hsp] at hC
  have HC := Lib.hid hC
  have hb2 : (b2 == 1) = false := by rw [beq_eq_false_iff_ne]; omega
  have c0 := cell_of_row' (cur := [_, _, _, _]) hrow 0
  have c2 := cell_of_row' (cur := [_, _, _, _]) hrow 2
  have heqn := fun W => eqErr_nil e0 W
  have hna := fun w => nil_rdRead ⟨p, 0, none⟩ w
  have hme := fun w => method_rdRead ⟨p, 0, none⟩ w
  have HR := Lib.hid hr
  have HE := Lib.hid he
  clear hr he hrow hC hsp h2
  obtain ⟨B, hB⟩ : ∃ B : Int, B = (l[i]'hi).toNat := ⟨_, rfl⟩
  rw [← hB] at HC ⊢
  clear hB
  go_enter Tryz.func182, Tryz.ntmps182
  go_wp2_with fail
  refine HC.out.mono ?_
  rintro e w1 ⟨rfl, hr1, hg1, hk1⟩
  have hrow1 := hg1.out
  have k0 := (HE.out.keep hk1 (fun k h => by have := HR.out.lt; omega)).cell
  have f1 := frozen_of_row' (cur := [_, _, _, _]) hrow1 1
  have f2 := frozen_of_row' (cur := [_, _, _, _]) hrow1 2
  have j1 := cell_of_row' (cur := [_, _, _, _]) hrow1 1
  have j2 := cell_of_row' (cur := [_, _, _, _]) hrow1 2
  have j3 : w1.cell? ⟨q, 3 + 0, none⟩ = some (.int .u8 B) := cell_of_row' (cur := [_, _, _, _]) hrow1 3
  have s1 : (w1.setCell ⟨q, 1, none⟩ (.int .u8 B)).heap[q]? = some (rtsO p B b2 B) := Lib.heap_setCell_same (i := 1) hrow1 (.int .u8 B)
  have j2' := cell_of_row' (cur := [_, _, _, _]) s1 2
  have f2' := frozen_of_row' (cur := [_, _, _, _]) s1 2
  have s2 : ((w1.setCell ⟨q, 1, none⟩ (.int .u8 B)).setCell ⟨q, 2, none⟩ (.int .u8 2)).heap[q]? = some (rtsO p B 2 B) := Lib.heap_setCell_same (i := 2) s1 (.int .u8 2)
  have HS2 := Lib.hid s2
  have HR1 := Lib.hid hr1
  have HK1 := Lib.hid hk1
  clear hr1 hg1 hk1 hrow1 s1 s2 HC c0 c2
  go_wp2
  go_ret2
  have hk3 : Keep (fun k => k = p ∨ k = q) w1 ((w1.setCell ⟨q, 1, none⟩ (.int .u8 B)).setCell ⟨q, 2, none⟩ (.int .u8 2)) := Keep.setCell (S := fun k => k = p ∨ k = q) (Keep.setCell (S := fun k => k = p ∨ k = q) (Keep.refl _ _) (Or.inr rfl) 1 _) (Or.inr rfl) 2 _
  exact ⟨rfl, ⟨⟨B, 2, B, HS2.out, Or.inr rfl⟩, HR1.out.keep (S := fun k => k = q) (Keep.setCell (S := fun k => k = q) (Keep.setCell (S := fun k => k = q) (Keep.refl _ _) rfl 1 _) rfl 2 _) (fun k h => by have := HR.out.lt; omega), HR.out.lt⟩, HS2, HK1.out.trans hk3⟩

set_option maxRecDepth 100000 in
set_option maxHeartbeats 1000000 in
theorem rtsByte_some (q p : Nat) (v : Value) (l : List UInt8) (i : Nat) (w : World) (hr : Rts w q p v l i) (hi : i < l.length) (e0 : Addr) (he : ErrAt p w 0 e0) :
    Calls Tryz.prog 183 #[.pointer (some ⟨q, 0, none⟩)] w fun e w' => e = .returned (.tuple #[.int .u8 (l[i]'hi).toNat, .nilIface]) ∧ Rts w' q p v l (i + 1) ∧ Keep (fun k => k = p ∨ k = q) w w' := by
  have HC := Lib.hid (rtsRead_own q p 1 v l i w hr hi e0 he)
  have HE := Lib.hid he
  have HL := Lib.hid hr.lt
  obtain ⟨B, hB⟩ : ∃ B : Int, B = (l[i]'hi).toNat := ⟨_, rfl⟩
  rw [← hB] at HC ⊢
  clear hB hr he
  go_enter Tryz.func183, Tryz.ntmps183
  go_wp2_with fail
  refine HC.out.mono ?_
  rintro e w1 ⟨rfl, hr1, hrow, hk1⟩
  have heqn := fun W => eqErr_nil e0 W
  have c3 := cell_of_row' (cur := [_, _, _, _]) hrow.out 3
  have k0 := (HE.out.keep hk1 (fun k h => by have := HL.out; omega)).cell
  have HR1 := Lib.hid hr1
  have HK1 := Lib.hid hk1
  clear hr1 hrow hk1 HC
  go_wp2
  go_ret2
  exact ⟨rfl, HR1.out, HK1.out⟩

set_option maxRecDepth 100000 in
set_option maxHeartbeats 1000000 in
theorem rtsByte_end (q p : Nat) (v : Value) (l : List UInt8) (i : Nat) (w : World) (hr : Rts w q p v l i) (hi : i = l.length) (e0 : Addr) (he : ErrAt p w 0 e0) :
    Calls Tryz.prog 183 #[.pointer (some ⟨q, 0, none⟩)] w fun e w' => e = .returned (.tuple #[.int .u8 0, errV e0]) ∧ Rts w' q p v l i ∧ Keep (fun _ => False) w w' := by
  have HC := Lib.hid (rtsRead_end q p 1 1 v l i (some ⟨q, 3, none⟩) w hr hi e0 he)
  clear hr he
  go_enter Tryz.func183, Tryz.ntmps183
  go_wp2_with fail
  refine HC.out.mono ?_
  rintro e w1 ⟨rfl, hr1, hk1⟩
  have HR1 := Lib.hid hr1
  have HK1 := Lib.hid hk1
  clear hr1 hk1 HC
  go_wp2
  go_ret2
  exact ⟨rfl, HR1.out, HK1.out⟩
end Go.Proofs.YtglkonccinpdnaaGreatDoor
/- Contracts: a reader for the decoder (SlickReaderStream): one byte; a few bytes into its own row. -/
namespace Go.Proofs.YtglkonccinpdnaaGreatDoor
open Go.RowKit

abbrev rtsV (q : Nat) : Value := .iface 212 (.pointer (some ⟨q, 0, none⟩))
def srsL (q : Nat) (scr : List Value) (n : Int) : List Value := rtsV q :: (scr ++ [.int .i64 n, .slice none 0 0, .bool false])
theorem srsL_length (q : Nat) (scr : List Value) (n : Int) (h : scr.length = 32) : (srsL q scr n).length = 36 := by simp [srsL, h]
theorem srsL_33 (q : Nat) (scr : List Value) (n : Int) (h : scr.length = 32) : (srsL q scr n)[33]? = some (.int .i64 n) := by
  unfold srsL
  rw [List.getElem?_cons_succ, List.getElem?_append_right (by omega), h]; rfl
theorem srsL_35 (q : Nat) (scr : List Value) (n : Int) (h : scr.length = 32) : (srsL q scr n)[35]? = some (.bool false) := by
  unfold srsL
  rw [List.getElem?_cons_succ, List.getElem?_append_right (by omega), h]; rfl
theorem srsL_set (q : Nat) (scr : List Value) (n m : Int) (h : scr.length = 32) : (srsL q scr n).set 33 (.int .i64 m) = srsL q scr m := by
  unfold srsL
  rw [List.set_cons_succ, List.set_append_right _ _ (by omega), h]; rfl
theorem srsL_splice (q : Nat) (scr bs : List Value) (n : Int) (h : scr.length = 32) (hb : bs.length ≤ 32) : splice (srsL q scr n) 1 bs = srsL q (splice scr 0 bs) n := by
  unfold srsL splice
  simp only [List.take_succ_cons, List.take_zero, List.nil_append, Nat.zero_add]
  rw [show 1 + bs.length = bs.length + 1 by omega, List.drop_succ_cons, List.drop_append_of_le_length (by omega)]
  simp
theorem srs_scr (scr bs : List Value) (h : scr.length = 32) (hb : bs.length ≤ 32) : (splice scr 0 bs).length = 32 := by
  unfold splice
  simp
  omega

/-- The decoder's reader in block s, over the scanner in block q, over the reader in block p at byte i. -/
structure Srs (w : World) (s q p : Nat) (v : Value) (l : List UInt8) (i : Nat) : Prop where
  row : ∃ scr : List Value, scr.length = 32 ∧ w.heap[s]? = some (.cells (srsL q scr i).toArray 219 (0, 0))
  rts : Rts w q p v l i
  lt : q < s
  fits : l.length ≤ 4611686018427387904
theorem Srs.keep {w w' : World} {s q p : Nat} {v : Value} {l : List UInt8} {i : Nat} (h : Srs w s q p v l i) {S : Nat → Prop} (hk : Keep S w w') (hS : ∀ k, S k → p < k ∧ k ≠ q ∧ k ≠ s) : Srs w' s q p v l i := by
  obtain ⟨⟨scr, h1, hr⟩, hd, hl, hf⟩ := h
  exact ⟨⟨scr, h1, hk.row hr (fun hh => (hS _ hh).2.2 rfl)⟩, hd.keep hk (fun k hh => ⟨(hS k hh).1, (hS k hh).2.1⟩), hl, hf⟩
theorem Srs.below {w w' : World} {s q p : Nat} {v : Value} {l : List UInt8} {i : Nat} (h : Srs w s q p v l i) (hb : Below w.heap.size w w') : Srs w' s q p v l i := h.keep (S := fun _ => False) hb.keep (fun _ h => h.elim)
theorem Srs.le {w : World} {s q p : Nat} {v : Value} {l : List UInt8} {i : Nat} (h : Srs w s q p v l i) : i ≤ l.length := h.rts.rdr.le

theorem nil_rtsByte (a : Addr) (w : World) : (nilAhead 381 212 (.pointer (some a)) "ReadByte").run Tryz.prog w = .ok (some false) w := by kernel_rfl
theorem method_rtsByte (a : Addr) (w : World) : (method 381 212 (.pointer (some a)) "ReadByte").run Tryz.prog w = .ok (183, .pointer (some a)) w := by kernel_rfl
theorem nil_rtsRead (a : Addr) (w : World) : (nilAhead 381 212 (.pointer (some a)) "Read").run Tryz.prog w = .ok (some false) w := by kernel_rfl
theorem method_rtsRead (a : Addr) (w : World) : (method 381 212 (.pointer (some a)) "Read").run Tryz.prog w = .ok (182, .pointer (some a)) w := by kernel_rfl

set_option maxRecDepth 100000 in
set_option maxHeartbeats 2000000 in
theorem readn1_some (s q p : Nat) (v : Value) (l : List UInt8) (i : Nat) (w : World) (hr : Srs w s q p v l i) (hi : i < l.length) (e0 : Addr) (he : ErrAt p w 0 e0) :
    Calls Tryz.prog 176 #[.pointer (some ⟨s, 0, none⟩)] w fun e w' => e = .returned (.tuple #[.int .u8 (l[i]'hi).toNat, .nilIface]) ∧ Srs w' s q p v l (i + 1) ∧ Keep (fun k => k = p ∨ k = q ∨ k = s) w w' := by
  have HC := Lib.hid (rtsByte_some q p v l i w hr.rts hi e0 he)
  obtain ⟨scr, hscr, hrow⟩ := hr.row
  have hfl := hr.fits
  have c0 : w.cell? ⟨s, 0, none⟩ = some (rtsV q) := cell_of_row' hrow 0
  have hna := fun w => nil_rtsByte ⟨q, 0, none⟩ w
  have hme := fun w => method_rtsByte ⟨q, 0, none⟩ w
  obtain ⟨B, hB⟩ : ∃ B : Int, B = (l[i]'hi).toNat := ⟨_, rfl⟩
  rw [← hB] at HC ⊢
  have HROW := Lib.hid hrow
  have HR := Lib.hid hr
  have HSC := Lib.hid hscr
  clear hB hr he hrow hscr
  go_enter Tryz.func176, Tryz.ntmps176
  go_wp2_with fail
  refine HC.out.mono ?_
  rintro e w1 ⟨rfl, hr1, hk1⟩
  have hrow1 := hk1.row HROW.out (fun h => by have := HR.out.lt; have := HR.out.rts.lt; omega)
  have c33 : w1.cell? ⟨s, 33, none⟩ = some (.int .i64 i) := (cell_of_row' hrow1 33).trans (srsL_33 _ _ _ HSC.out)
  have f33 : w1.frozen? ⟨s, 33, none⟩ = false := frozen_of_row' hrow1 33
  have s1 : (w1.setCell ⟨s, 33, none⟩ (.int .i64 ((i : Int) + 1))).heap[s]? = some (.cells (srsL q scr (i + 1 : Nat)).toArray 219 (0, 0)) := by
    have h := Lib.heap_setCell_same (i := 33) hrow1 (.int .i64 ((i : Int) + 1))
    rw [h]
    simp only [List.setIfInBounds_toArray]
    rw [srsL_set _ _ _ _ HSC.out]
    rfl
  have c35 : (w1.setCell ⟨s, 33, none⟩ (.int .i64 ((i : Int) + 1))).cell? ⟨s, 35, none⟩ = some (.bool false) := (cell_of_row' s1 35).trans (srsL_35 _ _ _ HSC.out)
  have HS1 := Lib.hid s1
  have HR1 := Lib.hid hr1
  have HK1 := Lib.hid hk1
  clear hr1 hk1 hrow1 s1 HC c0
  go_wp2
  go_ret2
  have hlt := HR.out.lt
  have hlt2 := HR.out.rts.lt
  have hk3 : Keep (fun k => k = s) w1 (w1.setCell ⟨s, 33, none⟩ (.int .i64 ((i : Int) + 1))) := Keep.setCell (S := fun k => k = s) (Keep.refl _ _) rfl 33 _
  exact ⟨rfl, ⟨⟨scr, HSC.out, HS1.out⟩, HR1.out.keep hk3 (fun k h => by omega), hlt, hfl⟩, (HK1.out.mono fun _ _ h => by omega).trans (hk3.mono fun _ _ h => by omega)⟩

set_option maxRecDepth 100000 in
set_option maxHeartbeats 2000000 in
theorem readn1_end (s q p : Nat) (v : Value) (l : List UInt8) (i : Nat) (w : World) (hr : Srs w s q p v l i) (hi : i = l.length) (e0 : Addr) (he : ErrAt p w 0 e0) :
    Calls Tryz.prog 176 #[.pointer (some ⟨s, 0, none⟩)] w fun e w' => e = .returned (.tuple #[.int .u8 0, errV e0]) ∧ Srs w' s q p v l i ∧ Keep (fun _ => False) w w' := by
  have HC := Lib.hid (rtsByte_end q p v l i w hr.rts hi e0 he)
  obtain ⟨scr, hscr, hrow⟩ := hr.row
  have c0 : w.cell? ⟨s, 0, none⟩ = some (rtsV q) := cell_of_row' hrow 0
  have hna := fun w => nil_rtsByte ⟨q, 0, none⟩ w
  have hme := fun w => method_rtsByte ⟨q, 0, none⟩ w
  have HR := Lib.hid hr
  clear hr he hrow hscr
  go_enter Tryz.func176, Tryz.ntmps176
  go_wp2_with fail
  refine HC.out.mono ?_
  rintro e w1 ⟨rfl, hr1, hk1⟩
  have HK1 := Lib.hid hk1
  clear hr1 hk1 HC c0
  go_wp2
  go_ret2
  exact ⟨rfl, HR.out.keep HK1.out (fun _ h => h.elim), HK1.out⟩
end Go.Proofs.YtglkonccinpdnaaGreatDoor
/- Contracts: io.ReadAtLeast over the scanner; readnPartial of fewer than 32 bytes; Readnzc. -/
namespace Go.Proofs.YtglkonccinpdnaaGreatDoor
open Go.RowKit

set_option maxRecDepth 100000 in
set_option maxHeartbeats 2000000 in
theorem rtsAtLeast_ok (q p g o n c : Nat) (v : Value) (l : List UInt8) (i : Nat) (cur : List Value) (t : TypeId) (w : World) (hr : Rts w q p v l i) (hpg : p < g) (hgq : g ≠ q) (e0 : Addr) (he : ErrAt p w 0 e0)
    (hg : w.heap[g]? = some (.cells cur.toArray t (0, 0))) (hn0 : 0 < n) (hfit : o + n ≤ cur.length) (hi : i + n ≤ l.length) (hfl : l.length ≤ 4611686018427387904) :
    Calls Tryz.prog 93 #[rtsV q, .slice (some ⟨g, o, none⟩) n c, .int .i64 n] w fun e w' => e = .returned (.tuple #[.int .i64 n, .nilIface]) ∧ Rts w' q p v l (i + n) ∧
      Hid (w'.heap[g]? = some (.cells (splice cur o (Lib.byteCells ((l.drop i).take n))).toArray t (0, 0))) ∧ Keep (fun k => k = p ∨ k = g ∨ k = q) w w' := by
  have HR := Lib.hid (rtsRead_some q p g o n c v l i cur t w.drew hr.drew (by omega) hpg hgq hg hn0 hfit (by omega) e0 he.drew)
  have b1 : n ≤ 9223372036854775807 := by omega
  have hmin : min n (l.length - i) = n := by omega
  have HMIN := Lib.hid hmin
  have hsl := fun W => run_from (P := Tryz.prog) Tryz.underlying58 info_u8 (some ⟨g, o, none⟩) n c 0 (by omega) W
  have hmf : ∀ (fn : Fn) (first cap : Array Value) (w : World), (Instr.makeFunc fn first cap).run Tryz.prog w = .ok (.func fn first cap) w := fun _ _ _ _ => rfl
  have hna := fun w => nil_rtsRead ⟨q, 0, none⟩ w
  have hme := fun w => method_rtsRead ⟨q, 0, none⟩ w
  clear hr hg hmin hi he hfit hfl
  go_enter Tryz.func93, Tryz.ntmps93
  go_wp2
  refine wp_loop_rounds 2 ?_
  rw [rounds_succ]
  go_wp2_with fail
  go_region_with (go_at_call 182; refine HR.out.mono ?_; rw [HMIN.out]; rintro e w1 ⟨rfl, hr1, hg1, hk1⟩)
  go_wp2
  rw [rounds_succ]
  go_wp2
  go_ret2
  exact ⟨rfl, hr1, hg1, (keep_drew _ w).trans hk1⟩

/-- The first n bytes of the reader's own 32. -/
theorem run_arr32 (g L : Nat) (h : L ≤ 32) (W : World) : (Instr.sliceAt 217 (.pointer (some ⟨g, 1, none⟩)) none (some (.int .i64 (L : Int))) none).run Tryz.prog W = .ok (.slice (some ⟨g, 1, none⟩) L 32) W := by
  have ht : Tryz.prog.underlying 217 = some (.array (Tryz.prog.arrayLen 217) (Tryz.prog.elem 217)) := by kernel_rfl
  have e1 : Tryz.prog.arrayLen 217 = 32 := by kernel_rfl
  have e2 : Tryz.prog.elem 217 = 5 := by kernel_rfl
  rw [run_sliceAt_array_h W _ _ ht .i64 _ (by omega) (by rw [e1]; omega), e1, e2, run_size info_u8]
  simp [Result.andThen, slicedAt, Addr.add]

set_option maxRecDepth 100000 in
set_option maxHeartbeats 2000000 in
theorem readnPart_ok (s q p : Nat) (v : Value) (l : List UInt8) (i n : Nat) (w : World) (hr : Srs w s q p v l i) (hn0 : 0 < n) (hn : n < 32) (hi : i + n ≤ l.length) (e0 : Addr) (he : ErrAt p w 0 e0) :
    Calls Tryz.prog 181 #[.pointer (some ⟨s, 0, none⟩), .int .i64 n] w fun e w' => e = .returned (.tuple #[.slice (some ⟨s, 1, none⟩) n 32, .nilIface]) ∧ Srs w' s q p v l (i + n) ∧
      BS w' (.slice (some ⟨s, 1, none⟩) n 32) ((l.drop i).take n) ∧ Keep (fun k => k = p ∨ k = q ∨ k = s) w w' := by
  obtain ⟨scr, hscr, hrow⟩ := hr.row
  have hlt := hr.lt
  have hlt2 := hr.rts.lt
  have hfl := hr.fits
  have hlen : (Lib.byteCells ((l.drop i).take n)).length = n := by rw [Lib.byteCells_length, List.length_take, List.length_drop]; omega
  have hC := rtsAtLeast_ok q p s 1 n 32 v l i (srsL q scr i) _ w hr.rts (by omega) (by omega) e0 he hrow hn0 (by rw [srsL_length _ _ _ hscr]; omega) hi hfl
  rw [srsL_splice _ _ _ _ hscr (by rw [hlen]; omega)] at hC
  have hscr2 : (splice scr 0 (Lib.byteCells ((l.drop i).take n))).length = 32 := srs_scr _ _ hscr (by rw [hlen]; omega)
  have HC := Lib.hid hC
  have c0 : w.cell? ⟨s, 0, none⟩ = some (rtsV q) := cell_of_row' hrow 0
  have hn0' : ((n : Int) == 0) = false := by rw [beq_eq_false_iff_ne]; omega
  have harr := fun W => run_arr32 s n (by omega) W
  have HL := Lib.hid hlen
  have HS2 := Lib.hid hscr2
  have HSC := Lib.hid hscr
  clear hr he hrow hscr hC hscr2 hlen
  go_enter Tryz.func181, Tryz.ntmps181
  go_wp2_with fail
  refine HC.out.mono ?_
  rintro e w1 ⟨rfl, hr1, hg1, hk1⟩
  have hrow1 := hg1.out
  have c33 : w1.cell? ⟨s, 33, none⟩ = some (.int .i64 i) := (cell_of_row' hrow1 33).trans (srsL_33 _ _ _ HS2.out)
  have f33 : w1.frozen? ⟨s, 33, none⟩ = false := frozen_of_row' hrow1 33
  have s1 : (w1.setCell ⟨s, 33, none⟩ (.int .i64 ((i : Int) + n))).heap[s]? = some (.cells (srsL q (splice scr 0 (Lib.byteCells ((l.drop i).take n))) (i + n : Nat)).toArray 219 (0, 0)) := by
    have h := Lib.heap_setCell_same (i := 33) hrow1 (.int .i64 ((i : Int) + n))
    rw [h]
    simp only [List.setIfInBounds_toArray]
    rw [srsL_set _ _ _ _ HS2.out]
    rfl
  have c35 : (w1.setCell ⟨s, 33, none⟩ (.int .i64 ((i : Int) + n))).cell? ⟨s, 35, none⟩ = some (.bool false) := (cell_of_row' s1 35).trans (srsL_35 _ _ _ HS2.out)
  have HS1 := Lib.hid s1
  have HR1 := Lib.hid hr1
  have HK1 := Lib.hid hk1
  clear hr1 hk1 hrow1 s1 HC c0 hg1
  go_wp2
  go_ret2
  have hk3 : Keep (fun k => k = s) w1 (w1.setCell ⟨s, 33, none⟩ (.int .i64 ((i : Int) + n))) := Keep.setCell (S := fun k => k = s) (Keep.refl _ _) rfl 33 _
  have hll : ((l.drop i).take n).length = n := by rw [← Lib.byteCells_length]; exact HL.out
  refine ⟨rfl, ⟨⟨_, HS2.out, HS1.out⟩, HR1.out.keep hk3 (fun k h => by omega), hlt, hfl⟩, ⟨_, 32, by rw [hll], by omega, fun _ => ⟨s, 1, rfl, fun j hj => ?_⟩⟩, (HK1.out.mono fun _ _ h => by omega).trans (hk3.mono fun _ _ h => by omega)⟩
  rw [cell_of_row' HS1.out]
  unfold srsL
  rw [show 1 + j = j + 1 by omega, List.getElem?_cons_succ, List.getElem?_append_left (by rw [HS2.out]; omega), splice_get _ _ _ (by rw [HSC.out, HL.out]; omega), if_pos (by rw [HL.out]; omega)]
  unfold Lib.byteCells
  rw [List.getElem?_map, List.getElem?_eq_getElem (by omega)]
  simp

set_option maxRecDepth 100000 in
set_option maxHeartbeats 1000000 in
theorem readnzc_ok (s q p : Nat) (v : Value) (l : List UInt8) (i n : Nat) (w : World) (hr : Srs w s q p v l i) (hn0 : 0 < n) (hn : n < 32) (hi : i + n ≤ l.length) (e0 : Addr) (he : ErrAt p w 0 e0) :
    Calls Tryz.prog 177 #[.pointer (some ⟨s, 0, none⟩), .int .i64 n] w fun e w' => e = .returned (.tuple #[.slice (some ⟨s, 1, none⟩) n 32, .nilIface]) ∧ Srs w' s q p v l (i + n) ∧
      BS w' (.slice (some ⟨s, 1, none⟩) n 32) ((l.drop i).take n) ∧ Keep (fun k => k = p ∨ k = q ∨ k = s) w w' := by
  have HC := Lib.hid (readnPart_ok s q p v l i n w hr hn0 hn hi e0 he)
  clear hr he hi
  go_enter Tryz.func177, Tryz.ntmps177
  go_wp2_with fail
  refine HC.out.mono ?_
  rintro e w1 ⟨rfl, h1, h2, h3⟩
  have H1 := Lib.hid h1
  have H2 := Lib.hid h2
  have H3 := Lib.hid h3
  clear h1 h2 h3
  go_wp2
  go_ret2
  exact ⟨rfl, H1.out, H2.out, H3.out⟩
end Go.Proofs.YtglkonccinpdnaaGreatDoor
/- Contracts: the decoder's numbers, lengths, strings. -/
namespace Go.Proofs.YtglkonccinpdnaaGreatDoor
open Go.RowKit

abbrev srsV (s : Nat) : Value := .iface 211 (.pointer (some ⟨s, 0, none⟩))
/-- The decoder: its options as the header's reading sets them, its reader, its stack, its phase, what is left. -/
abbrev decO (s : Nat) (sv : Value) (ph : Int) (lv : Value) : Obj := .cells #[.bool true, .bool false, .int .i64 0, .bool false, .bool false, .bool false, .bool false, srsV s, sv, .int .u8 ph, lv] 197 (0, 0)
theorem and31 : ∀ b : Nat, b < 256 → bits .and .u8 (b : Int) 31 = ((b % 32 : Nat) : Int) := by decide +kernel
theorem nil_readn1 (a : Addr) (w : World) : (nilAhead 381 211 (.pointer (some a)) "Readn1").run Tryz.prog w = .ok (some false) w := by kernel_rfl
theorem method_readn1 (a : Addr) (w : World) : (method 381 211 (.pointer (some a)) "Readn1").run Tryz.prog w = .ok (176, .pointer (some a)) w := by kernel_rfl
theorem nil_readnzc (a : Addr) (w : World) : (nilAhead 381 211 (.pointer (some a)) "Readnzc").run Tryz.prog w = .ok (some false) w := by kernel_rfl
theorem method_readnzc (a : Addr) (w : World) : (method 381 211 (.pointer (some a)) "Readnzc").run Tryz.prog w = .ok (177, .pointer (some a)) w := by kernel_rfl

set_option maxRecDepth 100000 in
set_option maxHeartbeats 1000000 in
theorem decUint_small (dd b : Nat) (hb : b < 256) (h : b % 32 ≤ 23) (w : World) :
    Calls Tryz.prog 112 #[.pointer (some ⟨dd, 0, none⟩), .int .u8 b] w fun e w' => e = .returned (.tuple #[.int .u64 (b % 32 : Nat), .nilIface]) ∧ w' = w := by
  have ha := and31 b hb
  obtain ⟨x, hx⟩ : ∃ x, x = b % 32 := ⟨_, rfl⟩
  rw [← hx] at ha h ⊢
  clear hx
  go_enter Tryz.func112, Tryz.ntmps112
  go_wp2
  go_ret2
  exact ⟨rfl, rfl⟩

set_option maxRecDepth 100000 in
set_option maxHeartbeats 1000000 in
theorem decUint_byte (dd s q p : Nat) (v : Value) (l : List UInt8) (i : Nat) (sv : Value) (ph : Int) (lv : Value) (b : Nat) (hb : b < 256) (h : b % 32 = 24) (w : World) (hd : w.heap[dd]? = some (decO s sv ph lv)) (hr : Srs w s q p v l i) (hsd : s < dd) (hi : i < l.length) (e0 : Addr) (he : ErrAt p w 0 e0) :
    Calls Tryz.prog 112 #[.pointer (some ⟨dd, 0, none⟩), .int .u8 b] w fun e w' => e = .returned (.tuple #[.int .u64 (l[i]'hi).toNat, .nilIface]) ∧ Srs w' s q p v l (i + 1) ∧ Keep (fun k => k = p ∨ k = q ∨ k = s) w w' := by
  have ha := and31 b hb
  rw [h] at ha
  have HC := Lib.hid (readn1_some s q p v l i w hr hi e0 he)
  have c7 := cell_of_row' (cur := [_, _, _, _, _, _, _, _, _, _, _]) hd 7
  have hna := fun w => nil_readn1 ⟨s, 0, none⟩ w
  have hme := fun w => method_readn1 ⟨s, 0, none⟩ w
  obtain ⟨B, hB⟩ : ∃ B : Nat, B = (l[i]'hi).toNat := ⟨_, rfl⟩
  have hB2 : B < 256 := by rw [hB]; exact UInt8.toNat_lt _
  have HD := Lib.hid hd
  have h1 := hr.lt
  have h2 := hr.rts.lt
  rw [← hB] at HC ⊢
  clear hB hr he hd h hb
  go_enter Tryz.func112, Tryz.ntmps112
  go_wp2_with fail
  refine HC.out.mono ?_
  rintro e w1 ⟨rfl, hr1, hk1⟩
  have hd1 := hk1.row HD.out (fun h => by omega)
  have c3 := cell_of_row' (cur := [_, _, _, _, _, _, _, _, _, _, _]) hd1 3
  have HR1 := Lib.hid hr1
  have HK1 := Lib.hid hk1
  clear hr1 hk1 hd1 HC c7
  go_wp2
  go_ret2
  exact ⟨rfl, HR1.out, HK1.out⟩

/-- How a head's number is written: in the byte itself, or in the next. -/
def headN (l : List UInt8) (i b : Nat) : Nat × Nat := if b % 32 ≤ 23 then (b % 32, 0) else (((l[i]?).getD 0).toNat, 1)

set_option maxRecDepth 100000 in
set_option maxHeartbeats 1000000 in
theorem decUint (dd s q p : Nat) (v : Value) (l : List UInt8) (i : Nat) (sv : Value) (ph : Int) (lv : Value) (b : Nat) (hb : b < 256) (h : b % 32 ≤ 24) (w : World) (hd : w.heap[dd]? = some (decO s sv ph lv)) (hr : Srs w s q p v l i) (hsd : s < dd) (hi : i + (headN l i b).2 ≤ l.length) (e0 : Addr) (he : ErrAt p w 0 e0) :
    Calls Tryz.prog 112 #[.pointer (some ⟨dd, 0, none⟩), .int .u8 b] w fun e w' => e = .returned (.tuple #[.int .u64 (headN l i b).1, .nilIface]) ∧ Srs w' s q p v l (i + (headN l i b).2) ∧ Keep (fun k => k = p ∨ k = q ∨ k = s) w w' := by
  by_cases h23 : b % 32 ≤ 23
  · have e : headN l i b = (b % 32, 0) := if_pos h23
    rw [e]
    refine (decUint_small dd b hb h23 w).mono ?_
    rintro e w' ⟨rfl, rfl⟩
    exact ⟨rfl, hr, Keep.refl _ _⟩
  · have e : headN l i b = (((l[i]?).getD 0).toNat, 1) := if_neg h23
    rw [e] at hi ⊢
    have hi2 : i < l.length := hi
    have := decUint_byte dd s q p v l i sv ph lv b hb (by omega) w hd hr hsd hi2 e0 he
    rw [List.getElem?_eq_getElem hi2]
    exact this

set_option maxRecDepth 100000 in
set_option maxHeartbeats 1000000 in
theorem decLen (dd s q p : Nat) (v : Value) (l : List UInt8) (i : Nat) (sv : Value) (ph : Int) (lv : Value) (b : Nat) (hb : b < 256) (h : b % 32 ≤ 24) (w : World) (hd : w.heap[dd]? = some (decO s sv ph lv)) (hr : Srs w s q p v l i) (hsd : s < dd) (hi : i + (headN l i b).2 ≤ l.length) (e0 : Addr) (he : ErrAt p w 0 e0) :
    Calls Tryz.prog 116 #[.pointer (some ⟨dd, 0, none⟩), .int .u8 b] w fun e w' => e = .returned (.tuple #[.int .i64 (headN l i b).1, .nilIface]) ∧ Srs w' s q p v l (i + (headN l i b).2) ∧ Keep (fun k => k = p ∨ k = q ∨ k = s) w w' := by
  have HC := Lib.hid (decUint dd s q p v l i sv ph lv b hb h w hd hr hsd hi e0 he)
  have hx : (headN l i b).1 < 256 := by
    unfold headN
    split
    · show b % 32 < 256; omega
    · exact UInt8.toNat_lt _
  obtain ⟨x, hxx⟩ : ∃ x, x = (headN l i b).1 := ⟨_, rfl⟩
  obtain ⟨k, hk⟩ : ∃ k, k = (headN l i b).2 := ⟨_, rfl⟩
  rw [← hxx, ← hk] at HC ⊢
  rw [← hxx] at hx
  clear hxx hk hi hd hr he h
  go_enter Tryz.func116, Tryz.ntmps116
  go_wp2_with fail
  refine HC.out.mono ?_
  rintro e w1 ⟨rfl, hr1, hk1⟩
  have HR1 := Lib.hid hr1
  have HK1 := Lib.hid hk1
  clear hr1 hk1 HC
  go_wp2
  go_ret2
  exact ⟨rfl, HR1.out, HK1.out⟩

set_option maxRecDepth 100000 in
set_option maxHeartbeats 1000000 in
/-- A string of a few bytes. -/
theorem decStr (dd s q p : Nat) (v : Value) (l : List UInt8) (i : Nat) (sv : Value) (ph : Int) (lv : Value) (b : Nat) (hb : b < 256) (h : b % 32 ≤ 23) (h0 : 0 < b % 32) (w : World) (hd : w.heap[dd]? = some (decO s sv ph lv)) (hr : Srs w s q p v l i) (hi : i + b % 32 ≤ l.length) (e0 : Addr) (he : ErrAt p w 0 e0) (hsd : s < dd) :
    Calls Tryz.prog 115 #[.pointer (some ⟨dd, 0, none⟩), .int .u8 b] w fun e w' => e = .returned (.tuple #[.string ⟨((l.drop i).take (b % 32)).toArray⟩, .nilIface]) ∧ Srs w' s q p v l (i + b % 32) ∧ Keep (fun k => k = p ∨ k = q ∨ k = s) w w' := by
  have eh : headN l i b = (b % 32, 0) := if_pos h
  have hL := decLen dd s q p v l i sv ph lv b hb (by omega) w hd hr hsd (by rw [eh]; exact hr.le) e0 he
  rw [eh] at hL
  have HL := Lib.hid hL
  have c7 := cell_of_row' (cur := [_, _, _, _, _, _, _, _, _, _, _]) hd 7
  have hna := fun w => nil_readnzc ⟨s, 0, none⟩ w
  have hme := fun w => method_readnzc ⟨s, 0, none⟩ w
  obtain ⟨n, hn⟩ : ∃ n, n = b % 32 := ⟨_, rfl⟩
  rw [← hn] at HL h h0 hi ⊢
  have HD := Lib.hid hd
  have HE := Lib.hid he
  have h1 := hr.lt
  have h2 := hr.rts.lt
  clear hL eh hn hd hr he hb
  go_enter Tryz.func115, Tryz.ntmps115
  go_wp2_with fail
  refine HL.out.mono ?_
  rintro e w1 ⟨rfl, hr1, hk1⟩
  have hd1 := hk1.row HD.out (fun h => by omega)
  have c71 := cell_of_row' (cur := [_, _, _, _, _, _, _, _, _, _, _]) hd1 7
  have HZ := Lib.hid (readnzc_ok s q p v l i n w1 hr1 h0 (by omega) hi e0 (HE.out.keep hk1 (fun k h => by omega)))
  have HK1 := Lib.hid hk1
  clear hr1 hk1 hd1 HL c7
  go_wp2_with fail
  refine HZ.out.mono ?_
  rintro e w2 ⟨rfl, hr2, hbs2, hk2⟩
  have HR2 := Lib.hid hr2
  have HK2 := Lib.hid (HK1.out.trans hk2)
  have hstr := BS.str (dst := 9) Tryz.underlying58 Tryz.underlying5 Tryz.underlying9 hbs2
  clear hr2 hk2 hbs2 HZ
  go_wp2
  go_ret2
  exact ⟨rfl, HR2.out, HK2.out⟩
end Go.Proofs.YtglkonccinpdnaaGreatDoor
