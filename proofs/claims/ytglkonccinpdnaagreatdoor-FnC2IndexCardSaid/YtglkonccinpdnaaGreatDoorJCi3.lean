/- Contracts, joined (CbE CbF CbG CbH CbI). -/
import Derived.Test.YtglkonccinpdnaaGreatDoorJCi2
import Derived.Deep.RegionLaw
import Derived.Deep.AppendLies
import Derived.Deep.RegionHeld3
/- Contract: the decoder's phase is pushed. -/
namespace Go.Proofs.YtglkonccinpdnaaGreatDoor
open Go.RowKit

theorem bel_al {a w : World} (h : Below a.heap.size a w) (o : Obj) : Below a.heap.size a (w.alloc o) := h.alloc h.size o

/-- append of one cell to a slice of a row of C cells that has room: only that row has turned. -/
theorem step_append_one {P : Program} {ops : Array Oper} {o : Oper} {a : Act} {w : World} {K : Act → World → Prop} {Q : Exit → Act → World → Prop} {E : Prop} (hgd : o.guard = none) (s x : Operand) (t : TypeId)
    (ho : o.op = .call { callee := .builtin .append, args := #[s, x], argTypes := #[t, t] }) (e : TypeId) (i : TypeInfo) (ht : P.underlying t = some (.slice e)) (hi : P.info? e = some i) (hz1 : i.size = 1)
    (g n C : Nat) (hs : a.eval s = .slice (some ⟨g, 0, none⟩) n C) (w1 : World) (hw : Below w1.heap.size w1 w) (cur : List Value) (te : TypeId) (hg : w1.heap[g]? = some (.cells cur.toArray te (0, 0))) (hcl : cur.length = C) (hn : n < C) (y : Value) (hy : y.oneCell' = true)
    (ad : Addr) (hx : a.eval x = .slice (some ad) 1 1) (hnews : ∀ j u, [y][j]? = some u → w.cell? (ad.add j) = some u)
    (hK : ∀ W2, Hid (W2.heap[g]? = some (.cells (splice cur n [y]).toArray te (0, 0))) → Keep (fun k => k = g) w1 W2 → K (a.put o.dst (.slice (some ⟨g, 0, none⟩) (n + 1) C)) W2) :
    if Region.wanted o (yielded ops a.tmps) = true then Oper.wp P o a w K Q else E := by
  have hgw : w.heap[g]? = some (.cells cur.toArray te (0, 0)) := (hw.block g (block_of_row hg)).trans hg
  refine step_append_room hgd s x t ho e i 1 ht hi hz1 g 0 n C hs ad 1 1 [y] hx rfl hnews (by simp [hy]) (by omega) (fun j hj => ?_) ?_
  · have hj0 : j = 0 := by simpa using hj
    subst hj0
    refine ⟨?_, frozen_of_row' (cur := cur) hgw _⟩
    rw [cell_of_row' (cur := cur) hgw]
    simp
    omega
  · have e0 : 0 + n * 1 = n := by omega
    rw [e0]
    exact hK _ (Lib.hid (row_setCells [y] n cur w hgw (by simp; omega))) ((hw.keep (S := fun k => k = g)).trans ⟨(turn_setCells g _ n w).os, (turn_setCells g _ n w).tape, (turn_setCells g _ n w).output, by rw [(turn_setCells g _ n w).size]; exact Nat.le_refl _, fun k _ hk => (turn_setCells g _ n w).block k hk⟩)

/-- A stack: a row of ten cells of which the first ones hold it. -/
def Stk (w : World) (te : TypeId) (k : Nat) (xs : List Value) : Prop := ∃ cur : List Value, w.heap[k]? = some (.cells cur.toArray te (0, 0)) ∧ cur.length = 10 ∧ cur.take xs.length = xs ∧ xs.length ≤ 10
theorem splice_stk {cur xs : List Value} {y : Value} (hc : cur.length = 10) (ht : cur.take xs.length = xs) (hn : xs.length < 10) : (splice cur xs.length [y]).length = 10 ∧ (splice cur xs.length [y]).take (xs ++ [y]).length = xs ++ [y] := by
  unfold splice
  refine ⟨by simp; omega, ?_⟩
  rw [ht, List.length_append, ← List.append_assoc, List.take_left' (l₁ := xs ++ [y]) (by simp)]
theorem Stk.keep {w w' : World} {te : TypeId} {k : Nat} {xs : List Value} (h : Stk w te k xs) {S : Nat → Prop} (hk : Keep S w w') (hS : ¬ S k) : Stk w' te k xs := by
  obtain ⟨cur, h1, h2⟩ := h
  exact ⟨cur, hk.row h1 hS, h2⟩
theorem Stk.push {w' : World} {te : TypeId} {k : Nat} {xs cur : List Value} {y : Value} (hc : cur.length = 10) (ht : cur.take xs.length = xs) (hn : xs.length < 10) (h : w'.heap[k]? = some (.cells (splice cur xs.length [y]).toArray te (0, 0))) : Stk w' te k (xs ++ [y]) :=
  ⟨_, h, (splice_stk hc ht hn).1, (splice_stk hc ht hn).2, by simp; omega⟩
theorem Stk.pop {w : World} {te : TypeId} {k : Nat} {xs : List Value} {y : Value} (h : Stk w te k (xs ++ [y])) : Stk w te k xs := by
  obtain ⟨cur, h1, h2, h3, h4⟩ := h
  refine ⟨cur, h1, h2, ?_, by simp at h4; omega⟩
  have := congrArg (List.take xs.length) h3
  rwa [List.take_take, List.length_append, Nat.min_eq_left (by simp), List.take_left] at this

abbrev tyPh : TypeId := 195
abbrev stkV (k n : Nat) : Value := .slice (some ⟨k, 0, none⟩) n 10
theorem info_ph : (Tryz.prog.info? 195).map (fun i => i.size) = some 1 := by kernel_rfl
theorem info_in : (Tryz.prog.info? 3).map (fun i => i.size) = some 1 := by kernel_rfl

set_option maxRecDepth 100000 in
set_option maxHeartbeats 4000000 in
theorem pushPhase_ok (d s k : Nat) (ph x : Int) (lv : Value) (xs : List Value) (W : World) (hd : W.heap[d]? = some (decO s (stkV k xs.length) ph lv)) (hk : Stk W 195 k xs) (hn : xs.length < 10) (hkd : k ≠ d) :
    Calls Tryz.prog 111 #[.pointer (some ⟨d, 0, none⟩), .int .u8 x] W fun e w' =>
      e = .returned (.tuple #[]) ∧ w'.heap[d]? = some (decO s (stkV k (xs.length + 1)) x lv) ∧ Stk w' 195 k (xs ++ [.int .u8 ph]) ∧ Keep (fun b => b = d ∨ b = k) W w' := by
  obtain ⟨i, hi, hsz⟩ := Option.map_eq_some_iff.1 info_ph
  obtain ⟨cur, hc, hcl, hct, _⟩ := hk
  have HC := Lib.hid hc
  have HD := Lib.hid hd
  have HCT := Lib.hid hct
  have HN := Lib.hid hn
  have c8 := cell_of_row' (cur := [_, _, _, _, _, _, _, _, _, _, _]) hd 8
  have c9 := cell_of_row' (cur := [_, _, _, _, _, _, _, _, _, _, _]) hd 9
  have q9 : ∀ o, (W.alloc o).cell? ⟨d, 9, none⟩ = some (.int .u8 ph) := fun o => below_cell ((Below.refl _ W).alloc (Nat.le_refl _) o) c9
  have q8 : ∀ o, (W.alloc o).cell? ⟨d, 8, none⟩ = some (stkV k xs.length) := fun o => below_cell ((Below.refl _ W).alloc (Nat.le_refl _) o) c8
  clear hd hc hct
  go_enter Tryz.func111, Tryz.ntmps111
  go_wp2_with fail
  go_region_law (
      (refine step_append_one (by rfl) (.tmp 8) (.tmp 13) 193 (by rfl) 195 i Tryz.underlying193 hi hsz k xs.length 10 (by rfl) W (by repeat (first | assumption | exact Below.refl _ _ | apply Below.drew | apply bel_al)) cur 195 HC.out hcl hn (.int .u8 ph) (by rfl) _ (by rfl) (by intro j u hj; exact cell_one_new _ _ _ j u hj) ?_
       intro W2 hr hk2
       have m8 : W2.cell? ⟨d, 8, none⟩ = some (stkV k xs.length) := hk2.cell c8 (fun h => hkd h.symm)
       have m9 : W2.cell? ⟨d, 9, none⟩ = some (.int .u8 ph) := hk2.cell c9 (fun h => hkd h.symm)
       have f8 : W2.frozen? ⟨d, 8, none⟩ = false := frozen_of_row' (cur := [_, _, _, _, _, _, _, _, _, _, _]) (hk2.row HD.out (fun h => hkd h.symm)) 8
       have f9 : W2.frozen? ⟨d, 9, none⟩ = false := frozen_of_row' (cur := [_, _, _, _, _, _, _, _, _, _, _]) (hk2.row HD.out (fun h => hkd h.symm)) 9))
  all_goals
    have R2 := hk2.row HD.out (fun h => hkd h.symm)
    have R3 : Hid ((W2.setCell ⟨d, 8, none⟩ (stkV k (xs.length + 1))).heap[d]? = some (decO s (stkV k (xs.length + 1)) ph lv)) := Lib.hid (Lib.heap_setCell_same (i := 8) R2 _)
    have R4 : Hid (((W2.setCell ⟨d, 8, none⟩ (stkV k (xs.length + 1))).setCell ⟨d, 9, none⟩ (.int .u8 x)).heap[d]? = some (decO s (stkV k (xs.length + 1)) x lv)) := Lib.hid (Lib.heap_setCell_same (i := 9) R3.out _)
    have S4 : Hid (Stk ((W2.setCell ⟨d, 8, none⟩ (stkV k (xs.length + 1))).setCell ⟨d, 9, none⟩ (.int .u8 x)) 195 k (xs ++ [.int .u8 ph])) := by
      refine Lib.hid (Stk.push hcl HCT.out hn ?_)
      rw [Below.heap_setCell _ _ _ _ hkd, Below.heap_setCell _ _ _ _ hkd]
      exact hr.out
    have K4 : Hid (Keep (fun b => b = d ∨ b = k) W ((W2.setCell ⟨d, 8, none⟩ (stkV k (xs.length + 1))).setCell ⟨d, 9, none⟩ (.int .u8 x))) :=
      Lib.hid (((hk2.mono (T := fun b => b = d ∨ b = k) (fun _ _ h => Or.inr h)).setCell (p := d) (Or.inl rfl) 8 _).setCell (p := d) (Or.inl rfl) 9 _)
    have c9' : (W2.setCell ⟨d, 8, none⟩ (stkV k (xs.length + 1))).cell? ⟨d, 9, none⟩ = some (.int .u8 ph) := cell_of_row' (cur := [_, _, _, _, _, _, _, _, _, _, _]) R3.out 9
    have f9' : (W2.setCell ⟨d, 8, none⟩ (stkV k (xs.length + 1))).frozen? ⟨d, 9, none⟩ = false := frozen_of_row' (cur := [_, _, _, _, _, _, _, _, _, _, _]) R3.out 9
    clear m8 m9 f8 f9 R2 c8 c9 q8 q9 hk2
    go_wp2
    go_end0
    exact ⟨rfl, R4.out, S4.out, K4.out⟩
end Go.Proofs.YtglkonccinpdnaaGreatDoor
/- Contracts: a whole number, a string accepted. -/
namespace Go.Proofs.YtglkonccinpdnaaGreatDoor
open Go.RowKit

/-- A token. -/
abbrev tokO (ty : Int) (ln sr bs bl it ut ft tg ta : Value) : Obj := .cells #[.int .u8 ty, ln, sr, bs, bl, it, ut, ft, tg, ta] 169 (0, 0)
/-- None of the switch's single values. -/
structure Plain (b : Int) : Prop where
  m0 : (b == 246) = false
  m1 : (b == 247) = false
  m2 : (b == 244) = false
  m3 : (b == 245) = false
  m4 : (b == 249) = false
  m5 : (b == 250) = false
  m6 : (b == 251) = false
  m7 : (b == 95) = false
  m8 : (b == 127) = false
  m9 : (b == 159) = false
  m10 : (b == 191) = false
theorem plain_of : ∀ b : Nat, b < 256 → b % 32 ≤ 24 → b < 224 → Plain (b : Int) := by
  intro b h1 h2 h3
  constructor <;> (simp only [beq_eq_false_iff_ne]; omega)

section
variable (dd s q p tk : Nat) (v : Value) (l : List UInt8) (i : Nat) (sv : Value) (ph : Int) (lv : Value) (ty : Int) (ln sr bs bl it ut ft tg ta : Value)

set_option maxRecDepth 100000 in
set_option maxHeartbeats 4000000 in
theorem help_uint (b : Nat) (h : b ≤ 24) (w : World) (hd : w.heap[dd]? = some (decO s sv ph lv)) (hr : Srs w s q p v l i) (hsd : s < dd) (hdt : dd < tk) (ht : w.heap[tk]? = some (tokO ty ln sr bs bl it ut ft tg ta)) (hi : i + (headN l i b).2 ≤ l.length) (e0 : Addr) (he : ErrAt p w 0 e0) :
    Calls Tryz.prog 105 #[.pointer (some ⟨dd, 0, none⟩), .int .u8 b, .pointer (some ⟨tk, 0, none⟩)] w fun e w' =>
      e = .returned (.tuple #[.bool true, .nilIface]) ∧ Srs w' s q p v l (i + (headN l i b).2) ∧ w'.heap[tk]? = some (tokO 117 ln sr bs bl it (.int .u64 (headN l i b).1) ft tg ta) ∧ Keep (fun k => k = p ∨ k = q ∨ k = s ∨ k = tk) w w' := by
  obtain ⟨n1, n2, n3, n4, n5, n6, n7, n8, n9, n10, n11⟩ := plain_of b (by omega) (by omega) (by omega)
  have g0 : (0 : Int) ≤ b := by omega
  have g1 : (b : Int) < 32 := by omega
  have h1 := hr.lt
  have h2 := hr.rts.lt
  have t0 := cell_of_row' (cur := [_, _, _, _, _, _, _, _, _, _]) ht 0
  have f0 := frozen_of_row' (cur := [_, _, _, _, _, _, _, _, _, _]) ht 0
  have T1 : Hid ((w.setCell ⟨tk, 0, none⟩ (.int .u8 117)).heap[tk]? = some (tokO 117 ln sr bs bl it ut ft tg ta)) := Lib.hid (Lib.heap_setCell_same (i := 0) ht _)
  have K1 : Hid (Keep (fun k => k = tk) w (w.setCell ⟨tk, 0, none⟩ (.int .u8 117))) := Lib.hid ((Keep.refl (fun k => k = tk) w).setCell (p := tk) rfl 0 _)
  generalize hW : w.setCell ⟨tk, 0, none⟩ (.int .u8 117) = w1 at T1 K1
  have HC := Lib.hid (decUint dd s q p v l i sv ph lv b (by omega) (by omega) w1 (K1.out.row hd (by omega)) (hr.keep K1.out (fun k hk => by omega)) hsd hi e0 (he.keep K1.out (fun k hk => by omega)))
  have HW := Lib.hid hW
  clear hr hd he ht hi hW
  generalize headN l i b = N at HC ⊢
  go_enter Tryz.func105, Tryz.ntmps105
  go_wp2_with fail
  rw [HW.out]
  refine HC.out.mono ?_
  rintro e w2 ⟨rfl, hr2, hk2⟩
  have T2 := hk2.row T1.out (fun h => by omega)
  have c6 := cell_of_row' (cur := [_, _, _, _, _, _, _, _, _, _]) T2 6
  have f6 := frozen_of_row' (cur := [_, _, _, _, _, _, _, _, _, _]) T2 6
  have T3 : Hid ((w2.setCell ⟨tk, 6, none⟩ (.int .u64 N.1)).heap[tk]? = some (tokO 117 ln sr bs bl it (.int .u64 N.1) ft tg ta)) := Lib.hid (Lib.heap_setCell_same (i := 6) T2 _)
  have K3 : Hid (Keep (fun k => k = p ∨ k = q ∨ k = s ∨ k = tk) w (w2.setCell ⟨tk, 6, none⟩ (.int .u64 N.1))) :=
    Lib.hid (((K1.out.mono (T := fun k => k = p ∨ k = q ∨ k = s ∨ k = tk) (fun _ _ h => by omega)).trans (hk2.mono (T := fun k => k = p ∨ k = q ∨ k = s ∨ k = tk) (fun _ _ h => by omega))).setCell (p := tk) (by omega) 6 _)
  have R3 : Hid (Srs (w2.setCell ⟨tk, 6, none⟩ (.int .u64 N.1)) s q p v l (i + N.2)) :=
    Lib.hid (hr2.keep ((Keep.refl (fun k => k = tk) w2).setCell (p := tk) rfl 6 _) (fun k hk => by omega))
  clear hr2 hk2 T2 t0 f0 HC
  go_wp2
  go_ret2
  exact ⟨rfl, R3.out, T3.out, K3.out⟩

set_option maxRecDepth 100000 in
set_option maxHeartbeats 4000000 in
theorem help_str (b : Nat) (hb0 : 96 < b) (hb1 : b < 120) (w : World) (hd : w.heap[dd]? = some (decO s sv ph lv)) (hr : Srs w s q p v l i) (hsd : s < dd) (hdt : dd < tk) (ht : w.heap[tk]? = some (tokO ty ln sr bs bl it ut ft tg ta)) (hi : i + b % 32 ≤ l.length) (e0 : Addr) (he : ErrAt p w 0 e0) :
    Calls Tryz.prog 105 #[.pointer (some ⟨dd, 0, none⟩), .int .u8 b, .pointer (some ⟨tk, 0, none⟩)] w fun e w' =>
      e = .returned (.tuple #[.bool true, .nilIface]) ∧ Srs w' s q p v l (i + b % 32) ∧ w'.heap[tk]? = some (tokO 115 ln (.string ⟨((l.drop i).take (b % 32)).toArray⟩) bs bl it ut ft tg ta) ∧ Keep (fun k => k = p ∨ k = q ∨ k = s ∨ k = tk) w w' := by
  obtain ⟨n1, n2, n3, n4, n5, n6, n7, n8, n9, n10, n11⟩ := plain_of b (by omega) (by omega) (by omega)
  have g0 : (0 : Int) ≤ b := by omega
  have g1 : ¬ (b : Int) < 32 := by omega
  have g2 : (32 : Int) ≤ b := by omega
  have g3 : ¬ (b : Int) < 64 := by omega
  have g4 : (64 : Int) ≤ b := by omega
  have g5 : ¬ (b : Int) < 96 := by omega
  have g6 : (96 : Int) ≤ b := by omega
  have g7 : (b : Int) < 128 := by omega
  have h1 := hr.lt
  have h2 := hr.rts.lt
  have t0 := cell_of_row' (cur := [_, _, _, _, _, _, _, _, _, _]) ht 0
  have f0 := frozen_of_row' (cur := [_, _, _, _, _, _, _, _, _, _]) ht 0
  have T1 : Hid ((w.setCell ⟨tk, 0, none⟩ (.int .u8 115)).heap[tk]? = some (tokO 115 ln sr bs bl it ut ft tg ta)) := Lib.hid (Lib.heap_setCell_same (i := 0) ht _)
  have K1 : Hid (Keep (fun k => k = tk) w (w.setCell ⟨tk, 0, none⟩ (.int .u8 115))) := Lib.hid ((Keep.refl (fun k => k = tk) w).setCell (p := tk) rfl 0 _)
  generalize hW : w.setCell ⟨tk, 0, none⟩ (.int .u8 115) = w1 at T1 K1
  have HC := Lib.hid (decStr dd s q p v l i sv ph lv b (by omega) (by omega) (by omega) w1 (K1.out.row hd (by omega)) (hr.keep K1.out (fun k hk => by omega)) hi e0 (he.keep K1.out (fun k hk => by omega)) hsd)
  have HW := Lib.hid hW
  clear hr hd he ht hi hW
  generalize b % 32 = N at HC ⊢
  go_enter Tryz.func105, Tryz.ntmps105
  go_wp2_with fail
  rw [HW.out]
  refine HC.out.mono ?_
  rintro e w2 ⟨rfl, hr2, hk2⟩
  have T2 := hk2.row T1.out (fun h => by omega)
  have c2 := cell_of_row' (cur := [_, _, _, _, _, _, _, _, _, _]) T2 2
  have f2 := frozen_of_row' (cur := [_, _, _, _, _, _, _, _, _, _]) T2 2
  have T3 : Hid ((w2.setCell ⟨tk, 2, none⟩ (.string ⟨((l.drop i).take N).toArray⟩)).heap[tk]? = some (tokO 115 ln (.string ⟨((l.drop i).take N).toArray⟩) bs bl it ut ft tg ta)) := Lib.hid (Lib.heap_setCell_same (i := 2) T2 _)
  have K3 : Hid (Keep (fun k => k = p ∨ k = q ∨ k = s ∨ k = tk) w (w2.setCell ⟨tk, 2, none⟩ (.string ⟨((l.drop i).take N).toArray⟩))) :=
    Lib.hid (((K1.out.mono (T := fun k => k = p ∨ k = q ∨ k = s ∨ k = tk) (fun _ _ h => by omega)).trans (hk2.mono (T := fun k => k = p ∨ k = q ∨ k = s ∨ k = tk) (fun _ _ h => by omega))).setCell (p := tk) (by omega) 2 _)
  have R3 : Hid (Srs (w2.setCell ⟨tk, 2, none⟩ (.string ⟨((l.drop i).take N).toArray⟩)) s q p v l (i + N)) :=
    Lib.hid (hr2.keep ((Keep.refl (fun k => k = tk) w2).setCell (p := tk) rfl 2 _) (fun k hk => by omega))
  clear hr2 hk2 T2 t0 f0 HC
  go_wp2
  go_ret2
  exact ⟨rfl, R3.out, T3.out, K3.out⟩
end
end Go.Proofs.YtglkonccinpdnaaGreatDoor
/- Contracts: a list, a map opened. -/
namespace Go.Proofs.YtglkonccinpdnaaGreatDoor
open Go.RowKit

theorem wpList_append_one {P : Program} {ops : Array Oper} {rest : List Oper} {o : Oper} {a : Act} {w : World} {Q : Exit → Act → World → Prop} (hgd : o.guard = none) (s x : Operand) (t : TypeId)
    (ho : o.op = .call { callee := .builtin .append, args := #[s, x], argTypes := #[t, t] }) (e : TypeId) (i : TypeInfo) (ht : P.underlying t = some (.slice e)) (hi : P.info? e = some i) (hz1 : i.size = 1)
    (g n C : Nat) (hs : a.eval s = .slice (some ⟨g, 0, none⟩) n C) (w1 : World) (hw : Below w1.heap.size w1 w) (cur : List Value) (te : TypeId) (hg : w1.heap[g]? = some (.cells cur.toArray te (0, 0))) (hcl : cur.length = C) (hn : n < C) (y : Value) (hy : y.oneCell' = true)
    (ad : Addr) (hx : a.eval x = .slice (some ad) 1 1) (hnews : ∀ j u, [y][j]? = some u → w.cell? (ad.add j) = some u)
    (hK : ∀ W2, Hid (W2.heap[g]? = some (.cells (splice cur n [y]).toArray te (0, 0))) → Keep (fun k => k = g) w1 W2 → wpList P ops Q rest (a.put o.dst (.slice (some ⟨g, 0, none⟩) (n + 1) C)) W2) :
    wpList P ops Q (o :: rest) a w := by
  refine wpList_plain hgd fun K hK' => ?_
  have h := step_append_one (ops := ops) (K := K) (Q := Q) (E := True) hgd s x t ho e i ht hi hz1 g n C hs w1 hw cur te hg hcl hn y hy ad hx hnews (fun W2 h1 h2 => hK' _ _ (hK W2 h1 h2))
  have hwa : Region.wanted o (yielded ops a.tmps) = true := by simp [Region.wanted, hgd]
  rwa [if_pos hwa] at h

section
variable (dd s q p tk k f : Nat) (v : Value) (l : List UInt8) (i : Nat) (ph : Int) (xs ys : List Value) (ty : Int) (ln sr bs bl it ut ft tg ta : Value)

set_option maxRecDepth 100000 in
set_option maxHeartbeats 8000000 in
theorem help_map (b : Nat) (hb0 : 160 ≤ b) (hb1 : b ≤ 184) (w : World) (hd : w.heap[dd]? = some (decO s (stkV k xs.length) ph (stkV f ys.length))) (hr : Srs w s q p v l i) (hpk : p < k) (hpf : p < f) (hqk : k ≠ q) (hqf : f ≠ q) (hsk : k ≠ s) (hsf : f ≠ s) (hkf : k ≠ f) (hkd : k < dd) (hfd : f < dd) (hsd : s < dd) (hdt : dd < tk) (ht : w.heap[tk]? = some (tokO ty ln sr bs bl it ut ft tg ta))
    (hK : Stk w 195 k xs) (hF : Stk w 3 f ys) (hxl : xs.length < 10) (hyl : ys.length < 10) (hi : i + (headN l i b).2 ≤ l.length) (e0 : Addr) (he : ErrAt p w 0 e0) :
    Calls Tryz.prog 105 #[.pointer (some ⟨dd, 0, none⟩), .int .u8 b, .pointer (some ⟨tk, 0, none⟩)] w fun e w' =>
      e = .returned (.tuple #[.bool false, .nilIface]) ∧ Srs w' s q p v l (i + (headN l i b).2) ∧ w'.heap[tk]? = some (tokO 123 (.int .i64 (headN l i b).1) sr bs bl it ut ft tg ta) ∧
      w'.heap[dd]? = some (decO s (stkV k (xs.length + 1)) 5 (stkV f (ys.length + 1))) ∧ Stk w' 195 k (xs ++ [.int .u8 ph]) ∧ Stk w' 3 f (ys ++ [.int .i64 (headN l i b).1]) ∧
      Keep (fun k' => k' = p ∨ k' = q ∨ k' = s ∨ k' = tk ∨ k' = dd ∨ k' = k ∨ k' = f) w w' := by
  obtain ⟨n1, n2, n3, n4, n5, n6, n7, n8, n9, n10, n11⟩ := plain_of b (by omega) (by omega) (by omega)
  obtain ⟨i0, hi0, hsz0⟩ := Option.map_eq_some_iff.1 info_in
  have g0 : (0 : Int) ≤ b := by omega
  have g32' : ¬ (b : Int) < 32 := by omega
  have g32 : (32 : Int) ≤ b := by omega
  have g64' : ¬ (b : Int) < 64 := by omega
  have g64 : (64 : Int) ≤ b := by omega
  have g96' : ¬ (b : Int) < 96 := by omega
  have g96 : (96 : Int) ≤ b := by omega
  have g128' : ¬ (b : Int) < 128 := by omega
  have g128 : (128 : Int) ≤ b := by omega
  have g160' : ¬ (b : Int) < 160 := by omega
  have g160 : (160 : Int) ≤ b := by omega
  have g192 : (b : Int) < 192 := by omega
  have h1 := hr.lt
  have h2 := hr.rts.lt
  have HC := Lib.hid (decLen dd s q p v l i (stkV k xs.length) ph (stkV f ys.length) b (by omega) (by omega) w hd hr (by omega) hi e0 he)
  have HD := Lib.hid hd
  have HT := Lib.hid ht
  have HK := Lib.hid hK
  have HF := Lib.hid hF
  clear hr hd he ht hi hK hF
  generalize headN l i b = N at HC ⊢
  go_enter Tryz.func105, Tryz.ntmps105
  go_wp2_with fail
  refine HC.out.mono ?_
  rintro e w2 ⟨rfl, hr2, hk2⟩
  have T2 := hk2.row HT.out (fun h => by omega)
  have D2 := hk2.row HD.out (fun h => by omega)
  have t0 := cell_of_row' (cur := [_, _, _, _, _, _, _, _, _, _]) T2 0
  have f0 := frozen_of_row' (cur := [_, _, _, _, _, _, _, _, _, _]) T2 0
  have T3 : Hid ((w2.setCell ⟨tk, 0, none⟩ (.int .u8 123)).heap[tk]? = some (tokO 123 ln sr bs bl it ut ft tg ta)) := Lib.hid (Lib.heap_setCell_same (i := 0) T2 _)
  have t1 : (w2.setCell ⟨tk, 0, none⟩ (.int .u8 123)).cell? ⟨tk, 1, none⟩ = some ln := cell_of_row' (cur := [_, _, _, _, _, _, _, _, _, _]) T3.out 1
  have f1 : (w2.setCell ⟨tk, 0, none⟩ (.int .u8 123)).frozen? ⟨tk, 1, none⟩ = false := frozen_of_row' (cur := [_, _, _, _, _, _, _, _, _, _]) T3.out 1
  have T4 : Hid (((w2.setCell ⟨tk, 0, none⟩ (.int .u8 123)).setCell ⟨tk, 1, none⟩ (.int .i64 N.1)).heap[tk]? = some (tokO 123 (.int .i64 N.1) sr bs bl it ut ft tg ta)) := Lib.hid (Lib.heap_setCell_same (i := 1) T3.out _)
  have K4 : Hid (Keep (fun k' => k' = tk) w2 ((w2.setCell ⟨tk, 0, none⟩ (.int .u8 123)).setCell ⟨tk, 1, none⟩ (.int .i64 N.1))) := Lib.hid (((Keep.refl (fun k' => k' = tk) w2).setCell (p := tk) rfl 0 _).setCell (p := tk) rfl 1 _)
  have HK2 := Lib.hid hk2
  have HR2 := Lib.hid hr2
  clear hk2 hr2 HC T2
  have D2' := Lib.hid D2
  clear D2
  have hw4 := Below.refl ((w2.setCell ⟨tk, 0, none⟩ (.int .u8 123)).setCell ⟨tk, 1, none⟩ (.int .i64 N.1)).heap.size ((w2.setCell ⟨tk, 0, none⟩ (.int .u8 123)).setCell ⟨tk, 1, none⟩ (.int .i64 N.1))
  obtain ⟨w4, hW4⟩ : ∃ w4, (w2.setCell ⟨tk, 0, none⟩ (.int .u8 123)).setCell ⟨tk, 1, none⟩ (.int .i64 N.1) = w4 := ⟨_, rfl⟩
  rw [hW4] at T4 K4 hw4
  have D4 := Lib.hid (K4.out.row D2'.out (by omega))
  have KF4 := Lib.hid ((HF.out.keep HK2.out (by omega)).keep K4.out (by omega))
  have KK4 := Lib.hid ((HK.out.keep HK2.out (by omega)).keep K4.out (by omega))
  have KP4 := Lib.hid (HR2.out.keep K4.out (fun k hk => by omega))
  have KW4 := Lib.hid ((HK2.out.mono (T := fun k' => k' = p ∨ k' = q ∨ k' = s ∨ k' = tk ∨ k' = dd ∨ k' = k ∨ k' = f) (fun _ _ h => by omega)).trans (K4.out.mono (T := fun k' => k' = p ∨ k' = q ∨ k' = s ∨ k' = tk ∨ k' = dd ∨ k' = k ∨ k' = f) (fun _ _ h => by omega)))
  obtain ⟨cur, hc', hcl, hct', _⟩ := KF4.out
  have HCC := Lib.hid hc'
  have HCT := Lib.hid hct'
  clear hc' hct' HT HF HK HD HK2 HR2 D2' K4
  have c10 := cell_of_row' (cur := [_, _, _, _, _, _, _, _, _, _, _]) D4.out 10
  have q10 : ((w2.setCell ⟨tk, 0, none⟩ (.int .u8 123)).setCell ⟨tk, 1, none⟩ (.int .i64 N.1)).cell? ⟨dd, 10, none⟩ = some (stkV f ys.length) := by rw [hW4]; exact c10
  have HW4 := Lib.hid hW4
  clear hW4
  go_wp2_with (at_builtin; go_loud (refine wpList_append_one rfl _ _ 194 rfl 3 i0 Tryz.underlying194 hi0 hsz0 f ys.length 10 rfl w4 ?c1 cur 3 HCC.out hcl hyl (.int .i64 N.1) (by rfl) _ rfl ?c2 ?_))
  case c1 => rw [HW4.out]; exact bel_al (Below.refl _ _) _
  case c2 =>
    have h := cell_one_new ((w2.setCell ⟨tk, 0, none⟩ (.int .u8 123)).setCell ⟨tk, 1, none⟩ (.int .i64 N.1)) (.int .i64 N.1) 3
    rw [World.size_setCell, World.size_setCell] at h
    exact h
  intro W2 hrr hk5
  have m10 : W2.cell? ⟨dd, 10, none⟩ = some (stkV f ys.length) := hk5.cell c10 (fun h => by have h' : dd = f := h; omega)
  have fr10 : W2.frozen? ⟨dd, 10, none⟩ = false := frozen_of_row' (cur := [_, _, _, _, _, _, _, _, _, _, _]) (hk5.row D4.out (fun h => by have h' : dd = f := h; omega)) 10
  have R5 : Hid ((W2.setCell ⟨dd, 10, none⟩ (stkV f (ys.length + 1))).heap[dd]? = some (decO s (stkV k xs.length) ph (stkV f (ys.length + 1)))) := Lib.hid (Lib.heap_setCell_same (i := 10) (hk5.row D4.out (fun h => by have h' : dd = f := h; omega)) _)
  have K5 : Hid (Keep (fun k' => k' = dd ∨ k' = f) w4 (W2.setCell ⟨dd, 10, none⟩ (stkV f (ys.length + 1)))) := Lib.hid ((hk5.mono (T := fun k' => k' = dd ∨ k' = f) (fun _ _ h => Or.inr h)).setCell (p := dd) (Or.inl rfl) 10 _)
  have S5 : Hid (Stk (W2.setCell ⟨dd, 10, none⟩ (stkV f (ys.length + 1))) 3 f (ys ++ [(.int .i64 N.1)])) := by
    refine Lib.hid (Stk.push hcl HCT.out hyl ?_)
    rw [Below.heap_setCell _ _ _ _ (show f ≠ dd by omega)]
    exact hrr.out
  obtain ⟨w5, hW5⟩ : ∃ w5, W2.setCell ⟨dd, 10, none⟩ (stkV f (ys.length + 1)) = w5 := ⟨_, rfl⟩
  rw [hW5] at R5 K5 S5
  have HP := Lib.hid (pushPhase_ok dd s k ph 5 (stkV f (ys.length + 1)) xs w5 R5.out (KK4.out.keep K5.out (by omega)) hxl (by omega))
  have HW5 := Lib.hid hW5
  clear hW5 c10 q10 hk5 hrr
  go_wp2_with fail
  rw [HW5.out]
  refine HP.out.mono ?_
  rintro e w6 ⟨rfl, hd6, hs6, hk6⟩
  have RD := Lib.hid hd6
  have RS := Lib.hid hs6
  have RT := Lib.hid (hk6.row (K5.out.row T4.out (by omega)) (by omega))
  have RR := Lib.hid ((KP4.out.keep K5.out (fun k hk => by omega)).keep hk6 (fun k hk => by omega))
  have RF := Lib.hid (S5.out.keep hk6 (by omega))
  have RK := Lib.hid (KW4.out.trans ((K5.out.mono (T := fun k' => k' = p ∨ k' = q ∨ k' = s ∨ k' = tk ∨ k' = dd ∨ k' = k ∨ k' = f) (fun _ _ h => by omega)).trans (hk6.mono (T := fun k' => k' = p ∨ k' = q ∨ k' = s ∨ k' = tk ∨ k' = dd ∨ k' = k ∨ k' = f) (fun _ _ h => by omega))))
  clear hd6 hs6 hk6 HP
  go_wp2
  go_ret2
  exact ⟨rfl, RR.out, RT.out, RD.out, RS.out, RF.out, RK.out⟩

set_option maxRecDepth 100000 in
set_option maxHeartbeats 8000000 in
theorem help_arr (b : Nat) (hb0 : 128 ≤ b) (hb1 : b ≤ 152) (w : World) (hd : w.heap[dd]? = some (decO s (stkV k xs.length) ph (stkV f ys.length))) (hr : Srs w s q p v l i) (hpk : p < k) (hpf : p < f) (hqk : k ≠ q) (hqf : f ≠ q) (hsk : k ≠ s) (hsf : f ≠ s) (hkf : k ≠ f) (hkd : k < dd) (hfd : f < dd) (hsd : s < dd) (hdt : dd < tk) (ht : w.heap[tk]? = some (tokO ty ln sr bs bl it ut ft tg ta))
    (hK : Stk w 195 k xs) (hF : Stk w 3 f ys) (hxl : xs.length < 10) (hyl : ys.length < 10) (hi : i + (headN l i b).2 ≤ l.length) (e0 : Addr) (he : ErrAt p w 0 e0) :
    Calls Tryz.prog 105 #[.pointer (some ⟨dd, 0, none⟩), .int .u8 b, .pointer (some ⟨tk, 0, none⟩)] w fun e w' =>
      e = .returned (.tuple #[.bool false, .nilIface]) ∧ Srs w' s q p v l (i + (headN l i b).2) ∧ w'.heap[tk]? = some (tokO 91 (.int .i64 (headN l i b).1) sr bs bl it ut ft tg ta) ∧
      w'.heap[dd]? = some (decO s (stkV k (xs.length + 1)) 4 (stkV f (ys.length + 1))) ∧ Stk w' 195 k (xs ++ [.int .u8 ph]) ∧ Stk w' 3 f (ys ++ [.int .i64 (headN l i b).1]) ∧
      Keep (fun k' => k' = p ∨ k' = q ∨ k' = s ∨ k' = tk ∨ k' = dd ∨ k' = k ∨ k' = f) w w' := by
  obtain ⟨n1, n2, n3, n4, n5, n6, n7, n8, n9, n10, n11⟩ := plain_of b (by omega) (by omega) (by omega)
  obtain ⟨i0, hi0, hsz0⟩ := Option.map_eq_some_iff.1 info_in
  have g0 : (0 : Int) ≤ b := by omega
  have g32' : ¬ (b : Int) < 32 := by omega
  have g32 : (32 : Int) ≤ b := by omega
  have g64' : ¬ (b : Int) < 64 := by omega
  have g64 : (64 : Int) ≤ b := by omega
  have g96' : ¬ (b : Int) < 96 := by omega
  have g96 : (96 : Int) ≤ b := by omega
  have g128' : ¬ (b : Int) < 128 := by omega
  have g128 : (128 : Int) ≤ b := by omega
  have g160 : (b : Int) < 160 := by omega
  have h1 := hr.lt
  have h2 := hr.rts.lt
  have HC := Lib.hid (decLen dd s q p v l i (stkV k xs.length) ph (stkV f ys.length) b (by omega) (by omega) w hd hr (by omega) hi e0 he)
  have HD := Lib.hid hd
  have HT := Lib.hid ht
  have HK := Lib.hid hK
  have HF := Lib.hid hF
  clear hr hd he ht hi hK hF
  generalize headN l i b = N at HC ⊢
  go_enter Tryz.func105, Tryz.ntmps105
  go_wp2_with fail
  refine HC.out.mono ?_
  rintro e w2 ⟨rfl, hr2, hk2⟩
  have T2 := hk2.row HT.out (fun h => by omega)
  have D2 := hk2.row HD.out (fun h => by omega)
  have t0 := cell_of_row' (cur := [_, _, _, _, _, _, _, _, _, _]) T2 0
  have f0 := frozen_of_row' (cur := [_, _, _, _, _, _, _, _, _, _]) T2 0
  have T3 : Hid ((w2.setCell ⟨tk, 0, none⟩ (.int .u8 91)).heap[tk]? = some (tokO 91 ln sr bs bl it ut ft tg ta)) := Lib.hid (Lib.heap_setCell_same (i := 0) T2 _)
  have t1 : (w2.setCell ⟨tk, 0, none⟩ (.int .u8 91)).cell? ⟨tk, 1, none⟩ = some ln := cell_of_row' (cur := [_, _, _, _, _, _, _, _, _, _]) T3.out 1
  have f1 : (w2.setCell ⟨tk, 0, none⟩ (.int .u8 91)).frozen? ⟨tk, 1, none⟩ = false := frozen_of_row' (cur := [_, _, _, _, _, _, _, _, _, _]) T3.out 1
  have T4 : Hid (((w2.setCell ⟨tk, 0, none⟩ (.int .u8 91)).setCell ⟨tk, 1, none⟩ (.int .i64 N.1)).heap[tk]? = some (tokO 91 (.int .i64 N.1) sr bs bl it ut ft tg ta)) := Lib.hid (Lib.heap_setCell_same (i := 1) T3.out _)
  have K4 : Hid (Keep (fun k' => k' = tk) w2 ((w2.setCell ⟨tk, 0, none⟩ (.int .u8 91)).setCell ⟨tk, 1, none⟩ (.int .i64 N.1))) := Lib.hid (((Keep.refl (fun k' => k' = tk) w2).setCell (p := tk) rfl 0 _).setCell (p := tk) rfl 1 _)
  have HK2 := Lib.hid hk2
  have HR2 := Lib.hid hr2
  clear hk2 hr2 HC T2
  have D2' := Lib.hid D2
  clear D2
  have hw4 := Below.refl ((w2.setCell ⟨tk, 0, none⟩ (.int .u8 91)).setCell ⟨tk, 1, none⟩ (.int .i64 N.1)).heap.size ((w2.setCell ⟨tk, 0, none⟩ (.int .u8 91)).setCell ⟨tk, 1, none⟩ (.int .i64 N.1))
  obtain ⟨w4, hW4⟩ : ∃ w4, (w2.setCell ⟨tk, 0, none⟩ (.int .u8 91)).setCell ⟨tk, 1, none⟩ (.int .i64 N.1) = w4 := ⟨_, rfl⟩
  rw [hW4] at T4 K4 hw4
  have D4 := Lib.hid (K4.out.row D2'.out (by omega))
  have KF4 := Lib.hid ((HF.out.keep HK2.out (by omega)).keep K4.out (by omega))
  have KK4 := Lib.hid ((HK.out.keep HK2.out (by omega)).keep K4.out (by omega))
  have KP4 := Lib.hid (HR2.out.keep K4.out (fun k hk => by omega))
  have KW4 := Lib.hid ((HK2.out.mono (T := fun k' => k' = p ∨ k' = q ∨ k' = s ∨ k' = tk ∨ k' = dd ∨ k' = k ∨ k' = f) (fun _ _ h => by omega)).trans (K4.out.mono (T := fun k' => k' = p ∨ k' = q ∨ k' = s ∨ k' = tk ∨ k' = dd ∨ k' = k ∨ k' = f) (fun _ _ h => by omega)))
  obtain ⟨cur, hc', hcl, hct', _⟩ := KF4.out
  have HCC := Lib.hid hc'
  have HCT := Lib.hid hct'
  clear hc' hct' HT HF HK HD HK2 HR2 D2' K4
  have c10 := cell_of_row' (cur := [_, _, _, _, _, _, _, _, _, _, _]) D4.out 10
  have q10 : ((w2.setCell ⟨tk, 0, none⟩ (.int .u8 91)).setCell ⟨tk, 1, none⟩ (.int .i64 N.1)).cell? ⟨dd, 10, none⟩ = some (stkV f ys.length) := by rw [hW4]; exact c10
  have HW4 := Lib.hid hW4
  clear hW4
  go_wp2_with (at_builtin; go_loud (refine wpList_append_one rfl _ _ 194 rfl 3 i0 Tryz.underlying194 hi0 hsz0 f ys.length 10 rfl w4 ?c1 cur 3 HCC.out hcl hyl (.int .i64 N.1) (by rfl) _ rfl ?c2 ?_))
  case c1 => rw [HW4.out]; exact bel_al (Below.refl _ _) _
  case c2 =>
    have h := cell_one_new ((w2.setCell ⟨tk, 0, none⟩ (.int .u8 91)).setCell ⟨tk, 1, none⟩ (.int .i64 N.1)) (.int .i64 N.1) 3
    rw [World.size_setCell, World.size_setCell] at h
    exact h
  intro W2 hrr hk5
  have m10 : W2.cell? ⟨dd, 10, none⟩ = some (stkV f ys.length) := hk5.cell c10 (fun h => by have h' : dd = f := h; omega)
  have fr10 : W2.frozen? ⟨dd, 10, none⟩ = false := frozen_of_row' (cur := [_, _, _, _, _, _, _, _, _, _, _]) (hk5.row D4.out (fun h => by have h' : dd = f := h; omega)) 10
  have R5 : Hid ((W2.setCell ⟨dd, 10, none⟩ (stkV f (ys.length + 1))).heap[dd]? = some (decO s (stkV k xs.length) ph (stkV f (ys.length + 1)))) := Lib.hid (Lib.heap_setCell_same (i := 10) (hk5.row D4.out (fun h => by have h' : dd = f := h; omega)) _)
  have K5 : Hid (Keep (fun k' => k' = dd ∨ k' = f) w4 (W2.setCell ⟨dd, 10, none⟩ (stkV f (ys.length + 1)))) := Lib.hid ((hk5.mono (T := fun k' => k' = dd ∨ k' = f) (fun _ _ h => Or.inr h)).setCell (p := dd) (Or.inl rfl) 10 _)
  have S5 : Hid (Stk (W2.setCell ⟨dd, 10, none⟩ (stkV f (ys.length + 1))) 3 f (ys ++ [(.int .i64 N.1)])) := by
    refine Lib.hid (Stk.push hcl HCT.out hyl ?_)
    rw [Below.heap_setCell _ _ _ _ (show f ≠ dd by omega)]
    exact hrr.out
  obtain ⟨w5, hW5⟩ : ∃ w5, W2.setCell ⟨dd, 10, none⟩ (stkV f (ys.length + 1)) = w5 := ⟨_, rfl⟩
  rw [hW5] at R5 K5 S5
  have HP := Lib.hid (pushPhase_ok dd s k ph 4 (stkV f (ys.length + 1)) xs w5 R5.out (KK4.out.keep K5.out (by omega)) hxl (by omega))
  have HW5 := Lib.hid hW5
  clear hW5 c10 q10 hk5 hrr
  go_wp2_with fail
  rw [HW5.out]
  refine HP.out.mono ?_
  rintro e w6 ⟨rfl, hd6, hs6, hk6⟩
  have RD := Lib.hid hd6
  have RS := Lib.hid hs6
  have RT := Lib.hid (hk6.row (K5.out.row T4.out (by omega)) (by omega))
  have RR := Lib.hid ((KP4.out.keep K5.out (fun k hk => by omega)).keep hk6 (fun k hk => by omega))
  have RF := Lib.hid (S5.out.keep hk6 (by omega))
  have RK := Lib.hid (KW4.out.trans ((K5.out.mono (T := fun k' => k' = p ∨ k' = q ∨ k' = s ∨ k' = tk ∨ k' = dd ∨ k' = k ∨ k' = f) (fun _ _ h => by omega)).trans (hk6.mono (T := fun k' => k' = p ∨ k' = q ∨ k' = s ∨ k' = tk ∨ k' = dd ∨ k' = k ∨ k' = f) (fun _ _ h => by omega))))
  clear hd6 hs6 hk6 HP
  go_wp2
  go_ret2
  exact ⟨rfl, RR.out, RT.out, RD.out, RS.out, RF.out, RK.out⟩
end
end Go.Proofs.YtglkonccinpdnaaGreatDoor
/- Contracts: the decoder's steps, over what is accepted in them. -/
namespace Go.Proofs.YtglkonccinpdnaaGreatDoor
open Go.RowKit
theorem keepTk {S : Nat → Prop} {w w' : World} (h : Keep S w w') {a : Nat} (ha : S a) (o : Nat) (v : Value) : Keep S w (w'.setCell ⟨a, o, none⟩ v) := h.setCell (p := a) ha o v
section
variable (dd s q p tk : Nat) (v : Value) (l : List UInt8) (i : Nat) (sv : Value) (ph : Int) (lv : Value) (ty : Int) (ln sr bs bl it ut ft tg ta : Value)

set_option maxRecDepth 100000 in
set_option maxHeartbeats 4000000 in
theorem accValue (P : World → Prop) (B : Bool) (w : World) (hd : w.heap[dd]? = some (decO s sv ph lv)) (hr : Srs w s q p v l i) (hsd : s < dd) (hdt : dd < tk) (ht : w.heap[tk]? = some (tokO ty ln sr bs bl it ut ft tg ta)) (hi : i < l.length) (e0 : Addr) (he : ErrAt p w 0 e0)
    (hh : ∀ w2, Srs w2 s q p v l (i + 1) → w2.heap[dd]? = some (decO s sv ph lv) → w2.heap[tk]? = some (tokO ty ln sr bs bl it ut ft (.bool false) ta) → Keep (fun k => k = p ∨ k = q ∨ k = s ∨ k = tk ∨ k = dd) w w2 →
      Calls Tryz.prog 105 #[.pointer (some ⟨dd, 0, none⟩), .int .u8 (l[i]'hi).toNat, .pointer (some ⟨tk, 0, none⟩)] w2 fun e w' => e = .returned (.tuple #[.bool B, .nilIface]) ∧ P w') :
    Calls Tryz.prog 95 #[.pointer (some ⟨dd, 0, none⟩), .pointer (some ⟨tk, 0, none⟩)] w fun e w' =>
      e = .returned (.tuple #[.bool B, .nilIface]) ∧ P w' := by
  have HC := Lib.hid (readn1_some s q p v l i w hr hi e0 he)
  have c7 := cell_of_row' (cur := [_, _, _, _, _, _, _, _, _, _, _]) hd 7
  have hna := fun w => nil_readn1 ⟨s, 0, none⟩ w
  have hme := fun w => method_readn1 ⟨s, 0, none⟩ w
  obtain ⟨c, hc⟩ : ∃ c : Nat, c = (l[i]'hi).toNat := ⟨_, rfl⟩
  rw [← hc] at HC hh
  have HD := Lib.hid hd
  have HT := Lib.hid ht
  have HH := Lib.hid hh
  have h1 := hr.lt
  have h2 := hr.rts.lt
  clear hr hd he ht hi hh hc
  go_enter Tryz.func95, Tryz.ntmps95
  go_wp2_with fail
  refine HC.out.mono ?_
  rintro e w1 ⟨rfl, hr1, hk1⟩
  have D1 := Lib.hid (hk1.row HD.out (fun h => by omega))
  have T1 := Lib.hid (hk1.row HT.out (fun h => by omega))
  have R1 := Lib.hid hr1
  have K1 := Lib.hid hk1
  clear hr1 hk1 HC c7
  have T2 := T1
  have D2 := D1
  have K2 : Hid (Keep (fun k => k = tk ∨ k = dd) w1 w1) := Lib.hid (Keep.refl _ w1)
  have T3 : Hid ((w1.setCell ⟨tk, 8, none⟩ (.bool false)).heap[tk]? = some (tokO ty ln sr bs bl it ut ft (.bool false) ta)) := Lib.hid (Lib.heap_setCell_same (i := 8) T2.out _)
  have t8 : (w1).cell? ⟨tk, 8, none⟩ = some tg := cell_of_row' (cur := [_, _, _, _, _, _, _, _, _, _]) T2.out 8
  have f8 : (w1).frozen? ⟨tk, 8, none⟩ = false := frozen_of_row' (cur := [_, _, _, _, _, _, _, _, _, _]) T2.out 8
  have K3 : Hid (Keep (fun k => k = tk ∨ k = dd) w1 (w1.setCell ⟨tk, 8, none⟩ (.bool false))) := Lib.hid (K2.out.setCell (p := tk) (Or.inl rfl) 8 _)
  have D3 : Hid ((w1.setCell ⟨tk, 8, none⟩ (.bool false)).heap[dd]? = some (decO s sv ph lv)) := by
    refine Lib.hid ?_
    rw [Below.heap_setCell _ _ _ _ (show dd ≠ tk by omega)]
    exact D2.out
  have HQ := Lib.hid (HH.out _ (R1.out.keep K3.out (fun k hk => by omega)) D3.out T3.out ((K1.out.mono (fun _ _ h => by omega)).trans (K3.out.mono (fun _ _ h => by omega))))
  clear K2 T2 T3 D3 HH
  go_wp2_with fail
  refine HQ.out.mono ?_
  rintro e w4 ⟨rfl, hp⟩
  have HP := Lib.hid hp
  clear hp HQ
  go_wp2
  go_ret2
  exact ⟨rfl, HP.out⟩

set_option maxRecDepth 100000 in
set_option maxHeartbeats 4000000 in
theorem accMapVal (P : World → Prop) (B : Bool) (w : World) (hd : w.heap[dd]? = some (decO s sv ph lv)) (hr : Srs w s q p v l i) (hsd : s < dd) (hdt : dd < tk) (ht : w.heap[tk]? = some (tokO ty ln sr bs bl it ut ft tg ta)) (hi : i < l.length) (e0 : Addr) (he : ErrAt p w 0 e0)
    (hh : ∀ w2, Srs w2 s q p v l (i + 1) → w2.heap[dd]? = some (decO s sv 5 lv) → w2.heap[tk]? = some (tokO ty ln sr bs bl it ut ft (.bool false) ta) → Keep (fun k => k = p ∨ k = q ∨ k = s ∨ k = tk ∨ k = dd) w w2 →
      Calls Tryz.prog 105 #[.pointer (some ⟨dd, 0, none⟩), .int .u8 (l[i]'hi).toNat, .pointer (some ⟨tk, 0, none⟩)] w2 fun e w' => e = .returned (.tuple #[.bool B, .nilIface]) ∧ P w') :
    Calls Tryz.prog 101 #[.pointer (some ⟨dd, 0, none⟩), .pointer (some ⟨tk, 0, none⟩)] w fun e w' =>
      e = .returned (.tuple #[.bool false, .nilIface]) ∧ P w' := by
  have HC := Lib.hid (readn1_some s q p v l i w hr hi e0 he)
  have c7 := cell_of_row' (cur := [_, _, _, _, _, _, _, _, _, _, _]) hd 7
  have hna := fun w => nil_readn1 ⟨s, 0, none⟩ w
  have hme := fun w => method_readn1 ⟨s, 0, none⟩ w
  obtain ⟨c, hc⟩ : ∃ c : Nat, c = (l[i]'hi).toNat := ⟨_, rfl⟩
  rw [← hc] at HC hh
  have HD := Lib.hid hd
  have HT := Lib.hid ht
  have HH := Lib.hid hh
  have h1 := hr.lt
  have h2 := hr.rts.lt
  clear hr hd he ht hi hh hc
  go_enter Tryz.func101, Tryz.ntmps101
  go_wp2_with fail
  refine HC.out.mono ?_
  rintro e w1 ⟨rfl, hr1, hk1⟩
  have D1 := Lib.hid (hk1.row HD.out (fun h => by omega))
  have T1 := Lib.hid (hk1.row HT.out (fun h => by omega))
  have R1 := Lib.hid hr1
  have K1 := Lib.hid hk1
  clear hr1 hk1 HC c7
  have c9 := cell_of_row' (cur := [_, _, _, _, _, _, _, _, _, _, _]) D1.out 9
  have f9 := frozen_of_row' (cur := [_, _, _, _, _, _, _, _, _, _, _]) D1.out 9
  have D2 : Hid ((w1.setCell ⟨dd, 9, none⟩ (.int .u8 5)).heap[dd]? = some (decO s sv 5 lv)) := Lib.hid (Lib.heap_setCell_same (i := 9) D1.out _)
  have T2 : Hid ((w1.setCell ⟨dd, 9, none⟩ (.int .u8 5)).heap[tk]? = some (tokO ty ln sr bs bl it ut ft tg ta)) := by
    refine Lib.hid ?_
    rw [Below.heap_setCell _ _ _ _ (show tk ≠ dd by omega)]
    exact T1.out
  have K2 : Hid (Keep (fun k => k = tk ∨ k = dd) w1 (w1.setCell ⟨dd, 9, none⟩ (.int .u8 5))) := Lib.hid ((Keep.refl (fun k => k = tk ∨ k = dd) w1).setCell (p := dd) (Or.inr rfl) 9 _)
  have T3 : Hid (((w1.setCell ⟨dd, 9, none⟩ (.int .u8 5)).setCell ⟨tk, 8, none⟩ (.bool false)).heap[tk]? = some (tokO ty ln sr bs bl it ut ft (.bool false) ta)) := Lib.hid (Lib.heap_setCell_same (i := 8) T2.out _)
  have t8 : ((w1.setCell ⟨dd, 9, none⟩ (.int .u8 5))).cell? ⟨tk, 8, none⟩ = some tg := cell_of_row' (cur := [_, _, _, _, _, _, _, _, _, _]) T2.out 8
  have f8 : ((w1.setCell ⟨dd, 9, none⟩ (.int .u8 5))).frozen? ⟨tk, 8, none⟩ = false := frozen_of_row' (cur := [_, _, _, _, _, _, _, _, _, _]) T2.out 8
  have K3 : Hid (Keep (fun k => k = tk ∨ k = dd) w1 ((w1.setCell ⟨dd, 9, none⟩ (.int .u8 5)).setCell ⟨tk, 8, none⟩ (.bool false))) := Lib.hid (K2.out.setCell (p := tk) (Or.inl rfl) 8 _)
  have D3 : Hid (((w1.setCell ⟨dd, 9, none⟩ (.int .u8 5)).setCell ⟨tk, 8, none⟩ (.bool false)).heap[dd]? = some (decO s sv 5 lv)) := by
    refine Lib.hid ?_
    rw [Below.heap_setCell _ _ _ _ (show dd ≠ tk by omega)]
    exact D2.out
  have HQ := Lib.hid (HH.out _ (R1.out.keep K3.out (fun k hk => by omega)) D3.out T3.out ((K1.out.mono (fun _ _ h => by omega)).trans (K3.out.mono (fun _ _ h => by omega))))
  clear K2 T2 T3 D3 HH
  go_wp2_with fail
  refine HQ.out.mono ?_
  rintro e w4 ⟨rfl, hp⟩
  have HP := Lib.hid hp
  clear hp HQ
  go_wp2
  go_ret2
  exact ⟨rfl, HP.out⟩
end
end Go.Proofs.YtglkonccinpdnaaGreatDoor
/- Contracts: the decoder's steps in maps and lists. -/
namespace Go.Proofs.YtglkonccinpdnaaGreatDoor
open Go.RowKit
section
variable (dd s q p tk f : Nat) (v : Value) (l : List UInt8) (i : Nat) (sv : Value) (ph : Int) (ys : List Value) (ty : Int) (ln sr bs bl it ut ft tg ta : Value)

theorem Stk.last {w : World} {te : TypeId} {k : Nat} {xs : List Value} {y : Value} (h : Stk w te k (xs ++ [y])) : w.cell? ⟨k, xs.length, none⟩ = some y := by
  obtain ⟨cur, h1, h2, h3, h4⟩ := h
  rw [cell_of_row' (cur := cur) h1]
  have := congrArg (fun l => l[xs.length]?) h3
  simp only [List.getElem?_take, List.length_append, List.length_singleton] at this
  rw [if_pos (by omega)] at this
  rw [this]
  simp
theorem Stk.frozen {w : World} {te : TypeId} {k : Nat} {xs : List Value} (h : Stk w te k xs) (o : Nat) : w.frozen? ⟨k, o, none⟩ = false := by
  obtain ⟨cur, h1, _⟩ := h
  exact frozen_of_row' (cur := cur) h1 o
theorem Stk.turn {w : World} {te : TypeId} {k : Nat} {xs : List Value} {y : Value} (h : Stk w te k (xs ++ [y])) (z : Value) : Stk (w.setCell ⟨k, xs.length, none⟩ z) te k (xs ++ [z]) := by
  obtain ⟨cur, h1, h2, h3, h4⟩ := h
  refine ⟨cur.set xs.length z, ?_, by simpa using h2, ?_, by simpa using h4⟩
  · have := Lib.heap_setCell_same (i := xs.length) h1 z
    simpa using this
  · have := congrArg (fun l => l.set xs.length z) h3
    simp only [List.set_append, Nat.lt_irrefl, if_false, Nat.sub_self, List.set_cons_zero] at this
    rw [List.length_append, List.length_singleton] at *
    rw [List.take_set]
    exact this

set_option maxRecDepth 100000 in
set_option maxHeartbeats 4000000 in
theorem accMapClose (w : World) (hd : w.heap[dd]? = some (decO s sv ph (stkV f (ys.length + 1)))) (hF : Stk w 3 f (ys ++ [.int .i64 0])) (hfd : f < dd) (hdt : dd < tk) (ht : w.heap[tk]? = some (tokO ty ln sr bs bl it ut ft tg ta)) :
    Calls Tryz.prog 100 #[.pointer (some ⟨dd, 0, none⟩), .pointer (some ⟨tk, 0, none⟩)] w fun e w' =>
      e = .returned (.tuple #[.bool true, .nilIface]) ∧ w'.heap[dd]? = some (decO s sv ph (stkV f ys.length)) ∧ w'.heap[tk]? = some (tokO 125 ln sr bs bl it ut ft tg ta) ∧ Stk w' 3 f ys ∧ Keep (fun k => k = dd ∨ k = tk) w w' := by
  have c10 := cell_of_row' (cur := [_, _, _, _, _, _, _, _, _, _, _]) hd 10
  have g10 := frozen_of_row' (cur := [_, _, _, _, _, _, _, _, _, _, _]) hd 10
  have cl := hF.last
  have hle : ys.length + 1 ≤ 10 := by obtain ⟨_, _, _, _, h⟩ := hF; simpa using h
  obtain ⟨m, hm⟩ : ∃ m, m = ys.length := ⟨_, rfl⟩
  rw [← hm] at c10 cl hle hd ⊢
  have hs1 : ((m + 1 : Nat) : Int) - 1 = (m : Int) := by omega
  have hs2 : (0 : Int) ≤ (m : Int) := by omega
  have D1 : Hid ((w.setCell ⟨dd, 10, none⟩ (stkV f m)).heap[dd]? = some (decO s sv ph (stkV f m))) := Lib.hid (Lib.heap_setCell_same (i := 10) hd _)
  have t0 := cell_of_row' (cur := [_, _, _, _, _, _, _, _, _, _]) ht 0
  have f0 := frozen_of_row' (cur := [_, _, _, _, _, _, _, _, _, _]) ht 0
  have hne : tk ≠ dd := by omega
  have T1 : (w.setCell ⟨dd, 10, none⟩ (stkV f m)).heap[tk]? = some (tokO ty ln sr bs bl it ut ft tg ta) := (Below.heap_setCell _ _ _ _ hne).trans ht
  have T2 : Hid (((w.setCell ⟨dd, 10, none⟩ (stkV f m)).setCell ⟨tk, 0, none⟩ (.int .u8 125)).heap[tk]? = some (tokO 125 ln sr bs bl it ut ft tg ta)) := Lib.hid (Lib.heap_setCell_same (i := 0) T1 _)
  have D2 : Hid (((w.setCell ⟨dd, 10, none⟩ (stkV f m)).setCell ⟨tk, 0, none⟩ (.int .u8 125)).heap[dd]? = some (decO s sv ph (stkV f m))) := Lib.hid ((Below.heap_setCell _ _ _ _ hne.symm).trans D1.out)
  have K2 : Hid (Keep (fun k => k = dd ∨ k = tk) w ((w.setCell ⟨dd, 10, none⟩ (stkV f m)).setCell ⟨tk, 0, none⟩ (.int .u8 125))) := Lib.hid (((Keep.refl (fun k => k = dd ∨ k = tk) w).setCell (p := dd) (Or.inl rfl) 10 _).setCell (p := tk) (Or.inr rfl) 0 _)
  have S2 := Lib.hid (hF.pop.keep K2.out (show ¬ (f = dd ∨ f = tk) by omega))
  clear hd ht hF hm D1 T1
  go_enter Tryz.func100, Tryz.ntmps100
  go_wp2
  go_ret2
  exact ⟨rfl, D2.out, T2.out, S2.out, K2.out⟩
set_option maxRecDepth 100000 in
set_option maxHeartbeats 4000000 in
theorem accArrClose (w : World) (hd : w.heap[dd]? = some (decO s sv ph (stkV f (ys.length + 1)))) (hF : Stk w 3 f (ys ++ [.int .i64 0])) (hfd : f < dd) (hdt : dd < tk) (ht : w.heap[tk]? = some (tokO ty ln sr bs bl it ut ft tg ta)) :
    Calls Tryz.prog 99 #[.pointer (some ⟨dd, 0, none⟩), .pointer (some ⟨tk, 0, none⟩)] w fun e w' =>
      e = .returned (.tuple #[.bool true, .nilIface]) ∧ w'.heap[dd]? = some (decO s sv ph (stkV f ys.length)) ∧ w'.heap[tk]? = some (tokO 93 ln sr bs bl it ut ft tg ta) ∧ Stk w' 3 f ys ∧ Keep (fun k => k = dd ∨ k = tk) w w' := by
  have c10 := cell_of_row' (cur := [_, _, _, _, _, _, _, _, _, _, _]) hd 10
  have g10 := frozen_of_row' (cur := [_, _, _, _, _, _, _, _, _, _, _]) hd 10
  have cl := hF.last
  have hle : ys.length + 1 ≤ 10 := by obtain ⟨_, _, _, _, h⟩ := hF; simpa using h
  obtain ⟨m, hm⟩ : ∃ m, m = ys.length := ⟨_, rfl⟩
  rw [← hm] at c10 cl hle hd ⊢
  have hs1 : ((m + 1 : Nat) : Int) - 1 = (m : Int) := by omega
  have hs2 : (0 : Int) ≤ (m : Int) := by omega
  have D1 : Hid ((w.setCell ⟨dd, 10, none⟩ (stkV f m)).heap[dd]? = some (decO s sv ph (stkV f m))) := Lib.hid (Lib.heap_setCell_same (i := 10) hd _)
  have t0 := cell_of_row' (cur := [_, _, _, _, _, _, _, _, _, _]) ht 0
  have f0 := frozen_of_row' (cur := [_, _, _, _, _, _, _, _, _, _]) ht 0
  have hne : tk ≠ dd := by omega
  have T1 : (w.setCell ⟨dd, 10, none⟩ (stkV f m)).heap[tk]? = some (tokO ty ln sr bs bl it ut ft tg ta) := (Below.heap_setCell _ _ _ _ hne).trans ht
  have T2 : Hid (((w.setCell ⟨dd, 10, none⟩ (stkV f m)).setCell ⟨tk, 0, none⟩ (.int .u8 93)).heap[tk]? = some (tokO 93 ln sr bs bl it ut ft tg ta)) := Lib.hid (Lib.heap_setCell_same (i := 0) T1 _)
  have D2 : Hid (((w.setCell ⟨dd, 10, none⟩ (stkV f m)).setCell ⟨tk, 0, none⟩ (.int .u8 93)).heap[dd]? = some (decO s sv ph (stkV f m))) := Lib.hid ((Below.heap_setCell _ _ _ _ hne.symm).trans D1.out)
  have K2 : Hid (Keep (fun k => k = dd ∨ k = tk) w ((w.setCell ⟨dd, 10, none⟩ (stkV f m)).setCell ⟨tk, 0, none⟩ (.int .u8 93))) := Lib.hid (((Keep.refl (fun k => k = dd ∨ k = tk) w).setCell (p := dd) (Or.inl rfl) 10 _).setCell (p := tk) (Or.inr rfl) 0 _)
  have S2 := Lib.hid (hF.pop.keep K2.out (show ¬ (f = dd ∨ f = tk) by omega))
  clear hd ht hF hm D1 T1
  go_enter Tryz.func99, Tryz.ntmps99
  go_wp2
  go_ret2
  exact ⟨rfl, D2.out, T2.out, S2.out, K2.out⟩
set_option maxRecDepth 100000 in
set_option maxHeartbeats 4000000 in
theorem accMapNext (P : World → Prop) (B : Bool) (n : Nat) (hn0 : 0 < n) (hn1 : n < 256) (w : World) (hd : w.heap[dd]? = some (decO s sv ph (stkV f (ys.length + 1)))) (hF : Stk w 3 f (ys ++ [.int .i64 n])) (hr : Srs w s q p v l i) (hpf : p < f) (hqf : f ≠ q) (hsf : f ≠ s) (hsd : s < dd) (hfd : f < dd) (hdt : dd < tk) (ht : w.heap[tk]? = some (tokO ty ln sr bs bl it ut ft tg ta)) (hi : i < l.length) (e0 : Addr) (he : ErrAt p w 0 e0)
    (hh : ∀ w2, Srs w2 s q p v l (i + 1) → w2.heap[dd]? = some (decO s sv 6 (stkV f (ys.length + 1))) → w2.heap[tk]? = some (tokO ty ln sr bs bl it ut ft (.bool false) ta) → Stk w2 3 f (ys ++ [.int .i64 ((n - 1 : Nat) : Int)]) → Keep (fun k => k = p ∨ k = q ∨ k = s ∨ k = tk ∨ k = dd ∨ k = f) w w2 →
      Calls Tryz.prog 105 #[.pointer (some ⟨dd, 0, none⟩), .int .u8 (l[i]'hi).toNat, .pointer (some ⟨tk, 0, none⟩)] w2 fun e w' => e = .returned (.tuple #[.bool B, .nilIface]) ∧ P w') :
    Calls Tryz.prog 100 #[.pointer (some ⟨dd, 0, none⟩), .pointer (some ⟨tk, 0, none⟩)] w fun e w' =>
      e = .returned (.tuple #[.bool false, .nilIface]) ∧ P w' := by
  have c10 := cell_of_row' (cur := [_, _, _, _, _, _, _, _, _, _, _]) hd 10
  have cl := hF.last
  have fl := hF.frozen ys.length
  have hle : ys.length + 1 ≤ 10 := by obtain ⟨_, _, _, _, h⟩ := hF; simpa using h
  have KF : Hid (Keep (fun k => k = f) w (w.setCell ⟨f, ys.length, none⟩ (.int .i64 ((n - 1 : Nat) : Int)))) := Lib.hid ((Keep.refl (fun k => k = f) w).setCell (p := f) rfl _ _)
  have SF : Hid (Stk (w.setCell ⟨f, ys.length, none⟩ (.int .i64 ((n - 1 : Nat) : Int))) 3 f (ys ++ [.int .i64 ((n - 1 : Nat) : Int)])) := Lib.hid (hF.turn _)
  obtain ⟨m, hm⟩ : ∃ m, m = ys.length := ⟨_, rfl⟩
  rw [← hm] at c10 cl fl hle hd KF SF
  simp only [← hm] at hh
  have hs1 : ((m + 1 : Nat) : Int) - 1 = (m : Int) := by omega
  have hs2 : (0 : Int) ≤ (m : Int) := by omega
  have hq1 : ((n : Int) == 0) = false := by rw [beq_eq_false_iff_ne]; omega
  obtain ⟨n', rfl⟩ : ∃ n', n = n' + 1 := ⟨n - 1, by omega⟩
  rw [Nat.add_sub_cancel] at KF SF hh
  have hq2 : ((n' + 1 : Nat) : Int) - 1 = (n' : Int) := by omega
  obtain ⟨w0, hw0⟩ : ∃ w0, w.setCell ⟨f, m, none⟩ (.int .i64 (n' : Int)) = w0 := ⟨_, rfl⟩
  rw [hw0] at KF SF
  have h1 := hr.lt
  have h2 := hr.rts.lt
  have D0 := Lib.hid (KF.out.row hd (show ¬ dd = f by omega))
  have T0 := Lib.hid (KF.out.row ht (show ¬ tk = f by omega))
  have HC := Lib.hid (readn1_some s q p v l i w0 (hr.keep KF.out (fun k hk => by omega)) hi e0 (he.keep KF.out (fun k hk => by omega)))
  have c7 : w0.cell? ⟨dd, 7, none⟩ = some (srsV s) := cell_of_row' (cur := [_, _, _, _, _, _, _, _, _, _, _]) D0.out 7
  have hna := fun w => nil_readn1 ⟨s, 0, none⟩ w
  have hme := fun w => method_readn1 ⟨s, 0, none⟩ w
  obtain ⟨c, hc⟩ : ∃ c : Nat, c = (l[i]'hi).toNat := ⟨_, rfl⟩
  rw [← hc] at HC hh
  have HH := Lib.hid hh
  rw [← hw0] at c7
  have HW0 := Lib.hid hw0
  clear hr hd he ht hi hh hc hF hm hw0
  go_enter Tryz.func100, Tryz.ntmps100
  go_wp2_with fail
  rw [HW0.out]
  refine HC.out.mono ?_
  rintro e w1 ⟨rfl, hr1, hk1⟩
  have D1 := Lib.hid (hk1.row D0.out (fun h => by omega))
  have T1 := Lib.hid (hk1.row T0.out (fun h => by omega))
  have S1 := Lib.hid (SF.out.keep hk1 (fun h => by omega))
  have R1 := Lib.hid hr1
  have K1 := Lib.hid ((KF.out.mono (T := fun k => k = p ∨ k = q ∨ k = s ∨ k = tk ∨ k = dd ∨ k = f) (fun _ _ h => by omega)).trans (hk1.mono (T := fun k => k = p ∨ k = q ∨ k = s ∨ k = tk ∨ k = dd ∨ k = f) (fun _ _ h => by omega)))
  clear hr1 hk1 HC c7 c10 cl fl SF KF D0 T0
  have c9 := cell_of_row' (cur := [_, _, _, _, _, _, _, _, _, _, _]) D1.out 9
  have f9 := frozen_of_row' (cur := [_, _, _, _, _, _, _, _, _, _, _]) D1.out 9
  have D2 : Hid ((w1.setCell ⟨dd, 9, none⟩ (.int .u8 6)).heap[dd]? = some (decO s sv 6 (stkV f (m + 1)))) := Lib.hid (Lib.heap_setCell_same (i := 9) D1.out _)
  have T2 : Hid ((w1.setCell ⟨dd, 9, none⟩ (.int .u8 6)).heap[tk]? = some (tokO ty ln sr bs bl it ut ft tg ta)) := by
    refine Lib.hid ?_
    rw [Below.heap_setCell _ _ _ _ (show tk ≠ dd by omega)]
    exact T1.out
  have K2 : Hid (Keep (fun k => k = tk ∨ k = dd) w1 (w1.setCell ⟨dd, 9, none⟩ (.int .u8 6))) := Lib.hid ((Keep.refl (fun k => k = tk ∨ k = dd) w1).setCell (p := dd) (Or.inr rfl) 9 _)
  have T3 : Hid (((w1.setCell ⟨dd, 9, none⟩ (.int .u8 6)).setCell ⟨tk, 8, none⟩ (.bool false)).heap[tk]? = some (tokO ty ln sr bs bl it ut ft (.bool false) ta)) := Lib.hid (Lib.heap_setCell_same (i := 8) T2.out _)
  have t8 : ((w1.setCell ⟨dd, 9, none⟩ (.int .u8 6))).cell? ⟨tk, 8, none⟩ = some tg := cell_of_row' (cur := [_, _, _, _, _, _, _, _, _, _]) T2.out 8
  have f8 : ((w1.setCell ⟨dd, 9, none⟩ (.int .u8 6))).frozen? ⟨tk, 8, none⟩ = false := frozen_of_row' (cur := [_, _, _, _, _, _, _, _, _, _]) T2.out 8
  have K3 : Hid (Keep (fun k => k = tk ∨ k = dd) w1 ((w1.setCell ⟨dd, 9, none⟩ (.int .u8 6)).setCell ⟨tk, 8, none⟩ (.bool false))) := Lib.hid (K2.out.setCell (p := tk) (Or.inl rfl) 8 _)
  have D3 : Hid (((w1.setCell ⟨dd, 9, none⟩ (.int .u8 6)).setCell ⟨tk, 8, none⟩ (.bool false)).heap[dd]? = some (decO s sv 6 (stkV f (m + 1)))) := by
    refine Lib.hid ?_
    rw [Below.heap_setCell _ _ _ _ (show dd ≠ tk by omega)]
    exact D2.out
  have HQ := Lib.hid (HH.out _ (R1.out.keep K3.out (fun k hk => by omega)) D3.out T3.out (S1.out.keep K3.out (by omega)) (K1.out.trans (K3.out.mono (fun _ _ h => by omega))))
  clear K2 T2 T3 D3 HH
  go_wp2_with fail
  refine HQ.out.mono ?_
  rintro e w4 ⟨rfl, hp⟩
  have HP := Lib.hid hp
  clear hp HQ
  go_wp2
  go_ret2
  exact ⟨rfl, HP.out⟩

set_option maxRecDepth 100000 in
set_option maxHeartbeats 4000000 in
theorem accArrNext (P : World → Prop) (B : Bool) (n : Nat) (hn0 : 0 < n) (hn1 : n < 256) (w : World) (hd : w.heap[dd]? = some (decO s sv ph (stkV f (ys.length + 1)))) (hF : Stk w 3 f (ys ++ [.int .i64 n])) (hr : Srs w s q p v l i) (hpf : p < f) (hqf : f ≠ q) (hsf : f ≠ s) (hsd : s < dd) (hfd : f < dd) (hdt : dd < tk) (ht : w.heap[tk]? = some (tokO ty ln sr bs bl it ut ft tg ta)) (hi : i < l.length) (e0 : Addr) (he : ErrAt p w 0 e0)
    (hh : ∀ w2, Srs w2 s q p v l (i + 1) → w2.heap[dd]? = some (decO s sv ph (stkV f (ys.length + 1))) → w2.heap[tk]? = some (tokO ty ln sr bs bl it ut ft (.bool false) ta) → Stk w2 3 f (ys ++ [.int .i64 ((n - 1 : Nat) : Int)]) → Keep (fun k => k = p ∨ k = q ∨ k = s ∨ k = tk ∨ k = dd ∨ k = f) w w2 →
      Calls Tryz.prog 105 #[.pointer (some ⟨dd, 0, none⟩), .int .u8 (l[i]'hi).toNat, .pointer (some ⟨tk, 0, none⟩)] w2 fun e w' => e = .returned (.tuple #[.bool B, .nilIface]) ∧ P w') :
    Calls Tryz.prog 99 #[.pointer (some ⟨dd, 0, none⟩), .pointer (some ⟨tk, 0, none⟩)] w fun e w' =>
      e = .returned (.tuple #[.bool false, .nilIface]) ∧ P w' := by
  have c10 := cell_of_row' (cur := [_, _, _, _, _, _, _, _, _, _, _]) hd 10
  have cl := hF.last
  have fl := hF.frozen ys.length
  have hle : ys.length + 1 ≤ 10 := by obtain ⟨_, _, _, _, h⟩ := hF; simpa using h
  have KF : Hid (Keep (fun k => k = f) w (w.setCell ⟨f, ys.length, none⟩ (.int .i64 ((n - 1 : Nat) : Int)))) := Lib.hid ((Keep.refl (fun k => k = f) w).setCell (p := f) rfl _ _)
  have SF : Hid (Stk (w.setCell ⟨f, ys.length, none⟩ (.int .i64 ((n - 1 : Nat) : Int))) 3 f (ys ++ [.int .i64 ((n - 1 : Nat) : Int)])) := Lib.hid (hF.turn _)
  obtain ⟨m, hm⟩ : ∃ m, m = ys.length := ⟨_, rfl⟩
  rw [← hm] at c10 cl fl hle hd KF SF
  simp only [← hm] at hh
  have hs1 : ((m + 1 : Nat) : Int) - 1 = (m : Int) := by omega
  have hs2 : (0 : Int) ≤ (m : Int) := by omega
  have hq1 : ((n : Int) == 0) = false := by rw [beq_eq_false_iff_ne]; omega
  obtain ⟨n', rfl⟩ : ∃ n', n = n' + 1 := ⟨n - 1, by omega⟩
  rw [Nat.add_sub_cancel] at KF SF hh
  have hq2 : ((n' + 1 : Nat) : Int) - 1 = (n' : Int) := by omega
  obtain ⟨w0, hw0⟩ : ∃ w0, w.setCell ⟨f, m, none⟩ (.int .i64 (n' : Int)) = w0 := ⟨_, rfl⟩
  rw [hw0] at KF SF
  have h1 := hr.lt
  have h2 := hr.rts.lt
  have D0 := Lib.hid (KF.out.row hd (show ¬ dd = f by omega))
  have T0 := Lib.hid (KF.out.row ht (show ¬ tk = f by omega))
  have HC := Lib.hid (readn1_some s q p v l i w0 (hr.keep KF.out (fun k hk => by omega)) hi e0 (he.keep KF.out (fun k hk => by omega)))
  have c7 : w0.cell? ⟨dd, 7, none⟩ = some (srsV s) := cell_of_row' (cur := [_, _, _, _, _, _, _, _, _, _, _]) D0.out 7
  have hna := fun w => nil_readn1 ⟨s, 0, none⟩ w
  have hme := fun w => method_readn1 ⟨s, 0, none⟩ w
  obtain ⟨c, hc⟩ : ∃ c : Nat, c = (l[i]'hi).toNat := ⟨_, rfl⟩
  rw [← hc] at HC hh
  have HH := Lib.hid hh
  rw [← hw0] at c7
  have HW0 := Lib.hid hw0
  clear hr hd he ht hi hh hc hF hm hw0
  go_enter Tryz.func99, Tryz.ntmps99
  go_wp2_with fail
  rw [HW0.out]
  refine HC.out.mono ?_
  rintro e w1 ⟨rfl, hr1, hk1⟩
  have D1 := Lib.hid (hk1.row D0.out (fun h => by omega))
  have T1 := Lib.hid (hk1.row T0.out (fun h => by omega))
  have S1 := Lib.hid (SF.out.keep hk1 (fun h => by omega))
  have R1 := Lib.hid hr1
  have K1 := Lib.hid ((KF.out.mono (T := fun k => k = p ∨ k = q ∨ k = s ∨ k = tk ∨ k = dd ∨ k = f) (fun _ _ h => by omega)).trans (hk1.mono (T := fun k => k = p ∨ k = q ∨ k = s ∨ k = tk ∨ k = dd ∨ k = f) (fun _ _ h => by omega)))
  clear hr1 hk1 HC c7 c10 cl fl SF KF D0 T0
  have T2 := T1
  have D2 := D1
  have K2 : Hid (Keep (fun k => k = tk ∨ k = dd) w1 w1) := Lib.hid (Keep.refl _ w1)
  have T3 : Hid ((w1.setCell ⟨tk, 8, none⟩ (.bool false)).heap[tk]? = some (tokO ty ln sr bs bl it ut ft (.bool false) ta)) := Lib.hid (Lib.heap_setCell_same (i := 8) T2.out _)
  have t8 : (w1).cell? ⟨tk, 8, none⟩ = some tg := cell_of_row' (cur := [_, _, _, _, _, _, _, _, _, _]) T2.out 8
  have f8 : (w1).frozen? ⟨tk, 8, none⟩ = false := frozen_of_row' (cur := [_, _, _, _, _, _, _, _, _, _]) T2.out 8
  have K3 : Hid (Keep (fun k => k = tk ∨ k = dd) w1 (w1.setCell ⟨tk, 8, none⟩ (.bool false))) := Lib.hid (K2.out.setCell (p := tk) (Or.inl rfl) 8 _)
  have D3 : Hid ((w1.setCell ⟨tk, 8, none⟩ (.bool false)).heap[dd]? = some (decO s sv ph (stkV f (m + 1)))) := by
    refine Lib.hid ?_
    rw [Below.heap_setCell _ _ _ _ (show dd ≠ tk by omega)]
    exact D2.out
  have HQ := Lib.hid (HH.out _ (R1.out.keep K3.out (fun k hk => by omega)) D3.out T3.out (S1.out.keep K3.out (by omega)) (K1.out.trans (K3.out.mono (fun _ _ h => by omega))))
  clear K2 T2 T3 D3 HH
  go_wp2_with fail
  refine HQ.out.mono ?_
  rintro e w4 ⟨rfl, hp⟩
  have HP := Lib.hid hp
  clear hp HQ
  go_wp2
  go_ret2
  exact ⟨rfl, HP.out⟩
end
end Go.Proofs.YtglkonccinpdnaaGreatDoor
