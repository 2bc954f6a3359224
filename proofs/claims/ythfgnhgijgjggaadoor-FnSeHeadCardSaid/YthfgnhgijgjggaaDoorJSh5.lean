/- Contracts, joined (CdO CdP CdQ UvD IxA LdA LdB LdC SeA SeB). -/
import Derived.Test.YthfgnhgijgjggaaDoorJSh2
import Derived.Test.YthfgnhgijgjggaaDoorJSh4
import Derived.StillTailTactics
import Derived.Outline
/- Contracts: impl.cidOut. -/
namespace Go.Proofs.YthfgnhgijgjggaaDoor
open Go.RowKit

abbrev outZ : Obj := .cells #[.int .u64 0, .int .u64 0, .int .u64 0, .string ⟨#[]⟩] 26

set_option maxRecDepth 100000 in
set_option maxHeartbeats 8000000 in
theorem cidOut_ok (s : ByteArray) (x : CidD) (h : CidStr s x) (w : World) (hu : UvS w) :
    Calls Tryd.prog 60 #[.agg #[.string s]] w fun e w' => e = .returned (.agg #[.int .u64 x.ver, .int .u64 x.codec, .int .u64 x.code, .string ⟨x.dig.toArray⟩]) ∧ Below w.heap.size w w' := by
  have hA : Below w.heap.size w ((w.alloc (.cells #[.string s] 80)).alloc outZ) := ((Below.refl _ _).alloc (Nat.le_refl _) _).alloc (by simp) _
  have HR0 := Lib.hid (heap_alloc2_old w (.cells #[.string s] 80) outZ)
  have HR1 := Lib.hid (heap_alloc2_new w (.cells #[.string s] 80) outZ)
  have HP := fun W => Lib.hid (cdPrefix s x h W)
  have HH := fun W (hb : Below w.heap.size w W) => Lib.hid (cdHash s x h W (hu.below hb))
  have hfit := h.fits
  have hcode : x.code < 9223372036854775808 := by rcases h.tidy with ⟨_, _, h2, _⟩ | ⟨_, _, h2⟩ <;> omega
  have hmr := mhRd_enc x.code x.dig [] hcode (by omega)
  rw [List.append_nil] at hmr
  have hml := (mhEnc_len_le x.code x.dig (by omega) (by omega)).2
  have HMR := Lib.hid hmr
  clear h hcode hmr
  generalize mhEnc x.code x.dig = M at *
  generalize hdl : (x.dig.length : Int) = dl at HP
  have HDL := Lib.hid hdl
  clear hdl
  generalize (x.ver : Int) = v0 at *
  generalize (x.codec : Int) = v1 at *
  generalize hS : (⟨x.dig.toArray⟩ : ByteArray) = S at *
  have HSS := Lib.hid hS
  clear hS
  go_enter Tryd.func60, Tryd.ntmps60
  go_wp2_with fail
  refine (HP _).out.mono ?_
  rintro e w1 ⟨rfl, hb1⟩
  have hb := below_next hA hb1
  have r0 := row_below hb1 (block_of_row HR0.out) HR0.out
  have r1 := row_below hb1 (block_of_row HR1.out) HR1.out
  have hz1 : w.heap.size + 2 ≤ w1.heap.size := by have := hb1.size; simpa using this
  obtain ⟨w2, hw2⟩ : ∃ w2, w2 = w1.alloc (.cells #[.int .u64 v0, .int .u64 v1, .int .u64 x.code, .int .i64 dl] 91) := ⟨_, rfl⟩
  have hb12 : Below w1.heap.size w1 w2 := by rw [hw2]; exact (Below.refl _ _).alloc (Nat.le_refl _) _
  have r2 : w2.heap[w1.heap.size]? = some (.cells #[.int .u64 v0, .int .u64 v1, .int .u64 x.code, .int .i64 dl] 91 (0, 0)) := by rw [hw2]; exact heap_alloc_new _ _
  have c0 : (w1.alloc (.cells #[.int .u64 v0, .int .u64 v1, .int .u64 x.code, .int .i64 dl] 91)).cell? ⟨w.heap.size, 0, none⟩ = some (.string s) := by rw [← hw2]; exact cell_of_row' (cur := [_]) (row_below hb12 (block_of_row r0) r0) 0
  have hb2 := below_next hb hb12
  have HR2 := Lib.hid r2
  have HRO := Lib.hid (row_below hb12 (block_of_row r1) r1)
  have HC := HH w2 hb2
  rw [hw2] at HC
  have HW2 := Lib.hid hw2
  clear hw2 r0 r1 r2 hb1 HH hA HR0 HR1 hb hb12 HP
  go_wp2_with fail
  refine HC.out.mono ?_
  rw [← HW2.out]
  rintro e w3 ⟨⟨A, n, c, rfl, hbs⟩, hb3⟩
  have hb3' := below_next hb2 hb3
  have hnM := hbs.slice.1
  have hmr := HMR.out
  rw [← hnM] at hmr
  obtain ⟨A', c', hs', hc⟩ := Decode_ok A n c M w3 hbs (by rw [← hnM]; omega) (hu.below hb3') x.code x.dig hmr
  have HC3 := Lib.hid (hc w3 (Below.refl _ _))
  have HS3 := Lib.hid hs'
  clear hc hs' hmr hbs hnM c0 HC
  go_wp2_with fail
  refine HC3.out.mono ?_
  rintro e w4 ⟨⟨g, rfl, hg, hrow⟩, hb4⟩
  have hb34 := below_next hb3 hb4
  have hb4' := below_next hb2 hb34
  have ro := row_below hb34 (block_of_row HRO.out) HRO.out
  have rp := row_below hb34 (block_of_row HR2.out) HR2.out
  have p0 := cell_of_row' (cur := [_, _, _, _]) rp 0
  have p1 := cell_of_row' (cur := [_, _, _, _]) rp 1
  have g0 : w4.cell? ⟨g, 0, none⟩ = some (.int .u64 x.code) := by simp [World.cell?, hrow]
  have g3 : w4.cell? ⟨g, 3, none⟩ = some (.slice A' x.dig.length c') := by simp [World.cell?, hrow]
  have hcv : ∀ q, (convert 43 9 (.slice A' x.dig.length c')).run Tryd.prog (w4.drewN q) = .ok (.string ⟨x.dig.toArray⟩) (w4.drewN q) := fun q =>
    (((HS3.out.below hb4).drewN q).str Tryd.underlying43 Tryd.underlying5 Tryd.underlying9)
  rw [HSS.out] at hcv
  have HO := Lib.hid ro
  clear hrow rp ro HC3 HS3 HRO HR2 HW2 HMR HDL
  generalize x.dig.length = D at *
  have hcvd : (convert 43 9 (.slice A' D c')).run Tryd.prog w4.drew = .ok (.string S) w4.drew := hcv 1
  clear hcv
  go_wp2_with fail
  go_still_tail 14, (by kernel_rfl)
  change wpList _ _ _ _ _ w4.drew
  have k0 : w4.drew.cell? ⟨w.heap.size + 1, 0, none⟩ = _ := cell_of_row' (cur := [_, _, _, _]) HO.out 0
  have k1 : w4.drew.cell? ⟨w.heap.size + 1, 1, none⟩ = _ := cell_of_row' (cur := [_, _, _, _]) HO.out 1
  have k2 : w4.drew.cell? ⟨w.heap.size + 1, 2, none⟩ = _ := cell_of_row' (cur := [_, _, _, _]) HO.out 2
  have k3 : w4.drew.cell? ⟨w.heap.size + 1, 3, none⟩ = _ := cell_of_row' (cur := [_, _, _, _]) HO.out 3
  have f0 : w4.drew.frozen? ⟨w.heap.size + 1, 0, none⟩ = _ := frozen_of_row' (cur := [_, _, _, _]) HO.out 0
  have f1 : w4.drew.frozen? ⟨w.heap.size + 1, 1, none⟩ = _ := frozen_of_row' (cur := [_, _, _, _]) HO.out 1
  have f2 : w4.drew.frozen? ⟨w.heap.size + 1, 2, none⟩ = _ := frozen_of_row' (cur := [_, _, _, _]) HO.out 2
  have f3 : w4.drew.frozen? ⟨w.heap.size + 1, 3, none⟩ = _ := frozen_of_row' (cur := [_, _, _, _]) HO.out 3
  have HO5 : Hid (w4.drew.heap[w.heap.size + 1]? = some outZ) := HO
  have hb5 : Below w.heap.size w w4.drew := hb4'.drewN 1
  clear HO p0 p1 g0 g3 hcvd hb34 hb4 hb3 hb4' hb3'
  generalize w4.drew = w5 at *
  go_wp2
  refine bodyPost_ret (results_cell_row rfl _ _ (w.heap.size + 1) 26 #[.int .u64 v0, .int .u64 v1, .int .u64 x.code, .string S] (0, 0) _ rfl (by simp [World.setCell, Array.getElem?_modify, HO5.out]) Tryd.underlying26 rfl (by kernel_rfl)) rfl ?_
  exact ⟨rfl, (((hb5.setCell (by show w.heap.size ≤ w.heap.size + 1; omega) _).setCell (by show w.heap.size ≤ w.heap.size + 1; omega) _).setCell (by show w.heap.size ≤ w.heap.size + 1; omega) _).setCell (by show w.heap.size ≤ w.heap.size + 1; omega) _⟩
end Go.Proofs.YthfgnhgijgjggaaDoor
/- Contracts: cid.Cast; impl.CdRead, impl.CdCast. -/
namespace Go.Proofs.YthfgnhgijgjggaaDoor
open Go.RowKit

section
variable {P : Program}
theorem results_row_tmp2 {fn : Func} {p u u2 : Tmp} {ty : TypeId} (h : fn.results = #[.cell p ty, .tmp u, .tmp u2]) (tmps : Array Value) (w : World) (g : Nat) (t : TypeId) (cs : Array Value) (fr : Nat × Nat) (d : TypeDesc)
    (hp : tmps.getD p undef = .pointer (some ⟨g, 0, none⟩)) (hg : w.heap[g]? = some (.cells cs t fr))
    (hu : P.underlying ty = some d) (hd : (match d with | .struct _ | .array _ _ => true | _ => false) = true) (hi : (P.info? ty).map (·.size) = some cs.size) :
    (results fn tmps).run P w = .ok (.tuple #[.agg cs, tmps.getD u undef, tmps.getD u2 undef]) w := by
  have hp' : tmps[p]?.getD undef = .pointer (some ⟨g, 0, none⟩) := by simpa using hp
  simp only [results, h]
  simp [Result.andThen, hp', asAddr, run_loadVar_row w g t ty cs fr d hg hu hd hi]
end

theorem cidStr_rd {l : List UInt8} {x : CidD} {k : Nat} (h : cidRd l = some (x, k)) (hl : l.length ≤ 2147483600) : CidStr ⟨(cidEnc x).toArray⟩ x := by
  obtain ⟨_, _, ht, _⟩ := cidRd_take h
  have := cidRd_dig h
  exact ⟨rfl, ht, by omega⟩

/-- impl.Cid as zeros. -/
abbrev noCid : Value := .agg #[.int .u64 0, .int .u64 0, .int .u64 0, .string ⟨#[]⟩]
def cidVal (x : CidD) : Value := .agg #[.int .u64 x.ver, .int .u64 x.codec, .int .u64 x.code, .string ⟨x.dig.toArray⟩]

/-- What the walks need of a result's variable of type impl.Cid. -/
structure OutVar (w : World) (g : Nat) : Prop where
  row : w.heap[g]? = some outZ
theorem OutVar.cells {w : World} {g : Nat} (h : OutVar w g) : (w.cell? ⟨g, 0, none⟩ = some (.int .u64 0) ∧ w.cell? ⟨g, 1, none⟩ = some (.int .u64 0) ∧ w.cell? ⟨g, 2, none⟩ = some (.int .u64 0) ∧ w.cell? ⟨g, 3, none⟩ = some (.string ⟨#[]⟩)) ∧
    (w.frozen? ⟨g, 0, none⟩ = false ∧ w.frozen? ⟨g, 1, none⟩ = false ∧ w.frozen? ⟨g, 2, none⟩ = false ∧ w.frozen? ⟨g, 3, none⟩ = false) :=
  ⟨⟨cell_of_row' (cur := [_, _, _, _]) h.row 0, cell_of_row' (cur := [_, _, _, _]) h.row 1, cell_of_row' (cur := [_, _, _, _]) h.row 2, cell_of_row' (cur := [_, _, _, _]) h.row 3⟩,
    ⟨frozen_of_row' (cur := [_, _, _, _]) h.row 0, frozen_of_row' (cur := [_, _, _, _]) h.row 1, frozen_of_row' (cur := [_, _, _, _]) h.row 2, frozen_of_row' (cur := [_, _, _, _]) h.row 3⟩⟩
theorem OutVar.below {w w' : World} {g : Nat} (h : OutVar w g) (hb : Below w.heap.size w w') : OutVar w' g := ⟨row_below hb (block_of_row h.row) h.row⟩
theorem set4 {w : World} {g : Nat} {a b c d : Value} {t : TypeId} (h : w.heap[g]? = some (.cells #[a, b, c, d] t (0, 0))) (p q r s : Value) :
    ((((w.setCell ⟨g, 0, none⟩ p).setCell ⟨g, 1, none⟩ q).setCell ⟨g, 2, none⟩ r).setCell ⟨g, 3, none⟩ s).heap[g]? = some (.cells #[p, q, r, s] t (0, 0)) :=
  Lib.heap_setCell_same (i := 3) (Lib.heap_setCell_same (i := 2) (Lib.heap_setCell_same (i := 1) (Lib.heap_setCell_same (i := 0) h p) q) r) s
theorem below_set4 {B : Nat} {w w' : World} {g : Nat} (h : Below B w w') (hB : B ≤ g) (p q r s : Value) : Below B w ((((w'.setCell ⟨g, 0, none⟩ p).setCell ⟨g, 1, none⟩ q).setCell ⟨g, 2, none⟩ r).setCell ⟨g, 3, none⟩ s) :=
  (((h.setCell hB _).setCell hB _).setCell hB _).setCell hB _
end Go.Proofs.YthfgnhgijgjggaaDoor
/- Contracts: impl.CdRead, impl.CdCast; laws.cdOne. -/
namespace Go.Proofs.YthfgnhgijgjggaaDoor
open Go.RowKit

theorem conv_in' (w : World) (s : ByteArray) : ∃ A c w1, (convert 9 43 (.string s)).run Tryd.prog w = .ok (.slice A s.size c) w1 ∧ Below w.heap.size w w1 ∧ BS w1 (.slice A s.size c) s.data.toList := by
  obtain ⟨c, w1, h⟩ := conv_in w s
  exact ⟨_, c, w1, h⟩

theorem cidVal_eq (v0 v1 v2 : Int) (S : ByteArray) (x : CidD) (h0 : (x.ver : Int) = v0) (h1 : (x.codec : Int) = v1) (h2 : (x.code : Int) = v2) (hS : (⟨x.dig.toArray⟩ : ByteArray) = S) : cidVal x = .agg #[.int .u64 v0, .int .u64 v1, .int .u64 v2, .string S] := by
  subst h0 h1 h2 hS; rfl

set_option maxRecDepth 100000 in
set_option maxHeartbeats 4000000 in
theorem cdReadI_ok (s : ByteArray) (w : World) (hm : s.size ≤ 2147483600) (hu : CdS w) (x : CidD) (k : Nat) (hd : cidRd s.data.toList = some (x, k)) :
    Calls Tryd.prog 48 #[.string s] w fun e w' => e = .returned (.tuple #[cidVal x, .int .i64 k, .bool true]) ∧ Below w.heap.size w w' := by
  have hA : Below w.heap.size w (w.alloc outZ) := (Below.refl _ _).alloc (Nat.le_refl _) _
  obtain ⟨A, c, w1, hconv, hb1, hbs⟩ := conv_in' (w.alloc outZ) s
  have hb := below_next hA hb1
  have HC := Lib.hid (cidFrom_ok _ _ _ _ w1 hbs (by rw [ba_len]; omega) (hu.below hb) x k hd)
  have hO : OutVar w1 w.heap.size := OutVar.below ⟨heap_alloc_new w outZ⟩ hb1
  have HOut := fun W (h : Below w.heap.size w W) => Lib.hid (cidOut_ok ⟨(cidEnc x).toArray⟩ x (cidStr_rd hd (by rw [ba_len]; omega)) W (hu.below h).toUvS)
  have hz1 : w.heap.size + 1 ≤ w1.heap.size := by have := hb1.size; simpa using this
  have CE := Lib.hid (cidVal_eq _ _ _ _ x rfl rfl rfl rfl)
  generalize (⟨(cidEnc x).toArray⟩ : ByteArray) = E at *
  generalize (x.ver : Int) = v0 at *
  generalize (x.codec : Int) = v1 at *
  generalize (x.code : Int) = v2 at *
  generalize (⟨x.dig.toArray⟩ : ByteArray) = S at *
  rw [CE.out]
  clear CE hd hu hbs hb1
  go_enter Tryd.func48, Tryd.ntmps48
  go_wp2_with fail
  refine HC.out.mono ?_
  rintro e w2 ⟨rfl, hb2⟩
  have hb' := below_next hb hb2
  have hb3 : Below w2.heap.size w2 (w2.alloc (.cells #[.string E] 80)) := (Below.refl _ _).alloc (Nat.le_refl _) _
  have hb4 := below_next hb' hb3
  have hO3 := (hO.below hb2).below hb3
  have HD := HOut _ hb4
  clear hO HC HOut hconv hb' hb3 hb hA hm
  go_wp2_with fail
  refine HD.out.mono ?_
  rintro e w4 ⟨rfl, hb5⟩
  have hO4 := hO3.below hb5
  have hb6 := below_next hb4 hb5
  obtain ⟨⟨k0, k1, k2, k3⟩, f0, f1, f2, f3⟩ := hO4.cells
  have HO := Lib.hid hO4.row
  clear hO3 hO4 HD hb4 hb5
  go_wp2
  refine bodyPost_ret (results_row_tmp2 rfl _ _ (w.heap.size) 26 #[.int .u64 v0, .int .u64 v1, .int .u64 v2, .string S] (0, 0) _ rfl (set4 HO.out _ _ _ _) Tryd.underlying26 rfl (by kernel_rfl)) rfl ?_
  exact ⟨rfl, below_set4 hb6 (Nat.le_refl _) _ _ _ _⟩

set_option maxRecDepth 100000 in
set_option maxHeartbeats 4000000 in
theorem cdReadI_no (s : ByteArray) (w : World) (hm : s.size ≤ 2147483600) (hu : CdS w) (hd : cidRd s.data.toList = none) :
    Calls Tryd.prog 48 #[.string s] w fun e w' => e = .returned (.tuple #[noCid, .int .i64 0, .bool false]) ∧ Below w.heap.size w w' := by
  have hA : Below w.heap.size w (w.alloc outZ) := (Below.refl _ _).alloc (Nat.le_refl _) _
  obtain ⟨A, c, w1, hconv, hb1, hbs⟩ := conv_in' (w.alloc outZ) s
  have hb := below_next hA hb1
  have HC := Lib.hid (cidFrom_no _ _ _ _ w1 hbs (by rw [ba_len]; omega) (hu.below hb) hd)
  have hO : OutVar w1 w.heap.size := OutVar.below ⟨heap_alloc_new w outZ⟩ hb1
  clear hd hu hbs hb1
  go_enter Tryd.func48, Tryd.ntmps48
  go_wp2_with fail
  refine HC.out.mono ?_
  rintro e w2 ⟨⟨E, t, p, rfl⟩, hb2⟩
  have hb' := below_next hb hb2
  have hO2 := hO.below hb2
  have hO3 := fun o => hO2.below ((Below.refl w2.heap.size w2).alloc (Nat.le_refl _) o)
  have k0 := fun o => (hO3 o).cells.1.1
  have k1 := fun o => (hO3 o).cells.1.2.1
  have k2 := fun o => (hO3 o).cells.1.2.2.1
  have k3 := fun o => (hO3 o).cells.1.2.2.2
  have f0 := fun o => (hO3 o).cells.2.1
  have f1 := fun o => (hO3 o).cells.2.2.1
  have f2 := fun o => (hO3 o).cells.2.2.2.1
  have f3 := fun o => (hO3 o).cells.2.2.2.2
  have HO := fun o => Lib.hid (hO3 o).row
  clear hO hO2 hO3 HC hconv hb hA hm
  go_wp2
  refine bodyPost_ret (results_row_tmp2 rfl _ _ (w.heap.size) 26 #[.int .u64 0, .int .u64 0, .int .u64 0, .string ⟨#[]⟩] (0, 0) _ rfl (set4 (HO _).out _ _ _ _) Tryd.underlying26 rfl (by kernel_rfl)) rfl ?_
  exact ⟨rfl, below_set4 (hb'.alloc hb'.size _) (Nat.le_refl _) _ _ _ _⟩

end Go.Proofs.YthfgnhgijgjggaaDoor
namespace Go.Proofs.YthfgnhgijgjggaaDoor
open Go.RowKit

/-- What spec.ReadVarint answers. -/
def UvR.spec : UvR → Value
  | .ok x m => .tuple #[.int .u64 x, .int .i64 m, .int .i64 0]
  | .under => .tuple #[.int .u64 0, .int .i64 0, .int .i64 1]
  | .over => .tuple #[.int .u64 0, .int .i64 0, .int .i64 2]
  | .notMin => .tuple #[.int .u64 0, .int .i64 0, .int .i64 3]

theorem UvR.spec_eq {Y M : Int} {x m : Nat} (h : Y = x) (h2 : M = m) : Ending.returned (.tuple #[.int .u64 Y, .int .i64 M, .int .i64 0]) = .returned (UvR.ok x m).spec := by
  rw [h, h2]; rfl

set_option maxRecDepth 100000 in
set_option maxHeartbeats 1000000 in
theorem readVarint_any (s : ByteArray) (w : World) (hm : s.size ≤ 9223372036854775807) :
    Calls Tryd.prog 57 #[.string s] w fun e w' => e = .returned (uvDec s.data.toList).spec ∧ w = w' := by
  have hlen : s.data.toList.length = s.size := by rw [Array.length_toList]; rfl
  have HL := Lib.hid hlen
  clear hlen
  go_enter Tryd.func57, Tryd.ntmps57
  go_wp2
  go_loop [5, 6] (fun x i => ∃ (k X : Nat), k ≤ s.size ∧ k ≤ 9 ∧ X < 2 ^ (7 * k) ∧ i = .int .i64 k ∧ x = .int .u64 X ∧ Hid (uvDec s.data.toList = uvGo k X (s.data.toList.drop k))) (fun _ i => s.size - (intOf i).toNat)
  case atStart => exact ⟨0, 0, by omega, by omega, by decide, rfl, rfl, Lib.hid rfl⟩
  case round =>
    obtain ⟨k, X, hk, hk10, hX, rfl, rfl, hd⟩ := hrel
    by_cases hlt : k < s.size
    · have hlt' : k < s.data.toList.length := by rw [HL.out]; exact hlt
      have hsk : s.data.toList[k] = s[k] := by simp; rfl
      have hb : s[k].toNat < 256 := UInt8.toNat_lt _
      have hstep : uvGo k X (s.data.toList.drop k) = (if (k = 8 ∧ 128 ≤ s[k].toNat) ∨ 9 ≤ k then .over
          else if s[k].toNat < 128 then (if s[k].toNat = 0 ∧ 0 < k then .notMin else .ok (X + s[k].toNat * 2 ^ (7 * k)) (k + 1))
          else uvGo (k + 1) (X + (s[k].toNat % 128) * 2 ^ (7 * k)) (s.data.toList.drop (k + 1))) := by
        rw [List.drop_eq_getElem_cons hlt', uvGo, hsk]
      clear hsk
      have HST := Lib.hid hstep
      clear hstep
      go_wp2
      · have h8 : (k : Int) = 8 := by assumption
        obtain rfl : k = 8 := by omega
        have h0 : ((s[8].toNat : Int) == 0) = true := by assumption
        have h0' : s[8].toNat = 0 := by simpa using h0
        have hf : uvDec s.data.toList = .notMin := by rw [hd.out, HST.out, if_neg (by omega), if_pos (by omega), if_pos (by omega)]
        go_ret3
        exact ⟨by rw [hf]; rfl, rfl⟩
      · have h8 : (k : Int) = 8 := by assumption
        obtain rfl : k = 8 := by omega
        have h0 : ((s[8].toNat : Int) == 0) = false := by assumption
        have h0' : ¬ s[8].toNat = 0 := by simpa using h0
        have h1 : (s[8].toNat : Int) < 128 := by assumption
        have hf : uvDec s.data.toList = .ok (X + s[8].toNat * 2 ^ (7 * 8)) (8 + 1) := by rw [hd.out, HST.out, if_neg (by omega), if_pos (by omega), if_neg (by omega)]
        have hor := uv_or_and 8 X s[8].toNat (by omega) hX hb
        rw [Nat.mod_eq_of_lt (by omega)] at hor
        go_ret3
        exact ⟨by rw [hf]; exact UvR.spec_eq hor rfl, rfl⟩
      · have h8 : (k : Int) = 8 := by assumption
        obtain rfl : k = 8 := by omega
        have h1 : (128 : Int) ≤ s[8].toNat := by assumption
        have hf : uvDec s.data.toList = .over := by rw [hd.out, HST.out, if_pos (Or.inl ⟨rfl, by omega⟩)]
        go_ret3
        exact ⟨by rw [hf]; rfl, rfl⟩
      · have h9 : (9 : Int) ≤ k := by assumption
        have hf : uvDec s.data.toList = .over := by rw [hd.out, HST.out, if_pos (Or.inr (by omega))]
        go_ret3
        exact ⟨by rw [hf]; rfl, rfl⟩
      · have h8 : ¬ (k : Int) = 8 := by assumption
        have h9 : (k : Int) < 9 := by assumption
        have h1 : (s[k].toNat : Int) < 128 := by assumption
        have h2 : 0 < k := by assumption
        have h0 : ((s[k].toNat : Int) == 0) = true := by assumption
        have h0' : s[k].toNat = 0 := by simpa using h0
        have hf : uvDec s.data.toList = .notMin := by rw [hd.out, HST.out, if_neg (by omega), if_pos (by omega), if_pos (by omega)]
        go_ret3
        exact ⟨by rw [hf]; rfl, rfl⟩
      · have h8 : ¬ (k : Int) = 8 := by assumption
        have h9 : (k : Int) < 9 := by assumption
        have h1 : (s[k].toNat : Int) < 128 := by assumption
        have h0 : ((s[k].toNat : Int) == 0) = false := by assumption
        have h0' : ¬ s[k].toNat = 0 := by simpa using h0
        have hf : uvDec s.data.toList = .ok (X + s[k].toNat * 2 ^ (7 * k)) (k + 1) := by rw [hd.out, HST.out, if_neg (by omega), if_pos (by omega), if_neg (by omega)]
        have hor := uv_or_and k X s[k].toNat (by omega) hX hb
        rw [Nat.mod_eq_of_lt (by omega)] at hor
        go_ret3
        exact ⟨by rw [hf]; exact UvR.spec_eq hor (by omega), rfl⟩
      · have h8 : ¬ (k : Int) = 8 := by assumption
        have h9 : (k : Int) < 9 := by assumption
        have h1 : (s[k].toNat : Int) < 128 := by assumption
        have h2 : ¬ 0 < k := by assumption
        have hf : uvDec s.data.toList = .ok (X + s[k].toNat * 2 ^ (7 * k)) (k + 1) := by rw [hd.out, HST.out, if_neg (by omega), if_pos (by omega), if_neg (by omega)]
        have hor := uv_or_and k X s[k].toNat (by omega) hX hb
        rw [Nat.mod_eq_of_lt (by omega)] at hor
        go_ret3
        exact ⟨by rw [hf]; exact UvR.spec_eq hor (by omega), rfl⟩
      · have h8 : ¬ (k : Int) = 8 := by assumption
        have h9 : (k : Int) < 9 := by assumption
        have h1 : (128 : Int) ≤ s[k].toNat := by assumption
        have hor := uv_or_and k X s[k].toNat (by omega) hX hb
        exact ⟨⟨k + 1, X + s[k].toNat % 128 * 2 ^ (7 * k), by omega, by omega, uv_step_lt k X _ hX (by omega), by go_num, by rw [hor],
          Lib.hid (by rw [hd.out, HST.out, if_neg (by omega), if_neg (by omega)])⟩, by simp [intOf]; omega⟩
    · have hkn : k = s.data.toList.length := by rw [HL.out]; omega
      have hf : Hid (uvDec s.data.toList = .under) := Lib.hid (by rw [hd.out, hkn, List.drop_length]; rfl)
      clear hkn
      go_wp2
      go_ret3
      exact ⟨by rw [hf.out]; rfl, rfl⟩
end Go.Proofs.YthfgnhgijgjggaaDoor
/- Contracts: internalio.ToByteReader, index.ReadCodec, impl.IxCodec. FnIxCodec's walk. -/
namespace Go.Proofs.YthfgnhgijgjggaaDoor
open Go.RowKit

set_option maxRecDepth 100000 in
set_option maxHeartbeats 1000000 in
theorem toByteReader (p : Nat) (w : World) : Calls Tryd.prog 106 #[rdV p] w fun e w' => e = .returned (rdV p) ∧ w' = w := by
  have hta : ∀ W, (Instr.typeAssert (rdV p) 165 192 true).run Tryd.prog W = .ok (.tuple #[rdV p, .bool true]) W := fun W => by kernel_rfl
  go_enter Tryd.func106, Tryd.ntmps106
  go_wp2
  go_ret
  exact ⟨rfl, rfl⟩

/-- What impl.IxCodec answers. -/
def UvR.ix : UvR → Value
  | .ok x _ => .tuple #[.int .u64 x, .bool true]
  | _ => .tuple #[.int .u64 0, .bool false]

theorem uvDec_1025 : uvDec (⟨#[129, 8]⟩ : ByteArray).data.toList = .ok 1025 2 := rfl

end Go.Proofs.YthfgnhgijgjggaaDoor
/- Contracts: (*bytes.Reader).Len, impl.kind, util.LdReadSize, util.LdRead over a reader of bytes. -/
namespace Go.Proofs.YthfgnhgijgjggaaDoor
open Go.RowKit

section
variable {P : Program}
/-- 'make([]byte, n)' of a uint64. -/
theorem make_bytes64 {t e : TypeId} (ht : P.underlying t = some (.slice e)) (hinfo : (P.info? e).map (fun i => (i.zero, i.size, i.bytes)) = some (some (.int .u8 0), 1, 1)) (w : World) (n : Nat) (hn : n ≤ 281474976710656) :
    ∃ w1, (Instr.makeSlice t (.int .u64 (n : Int)) (.int .u64 (n : Int))).run P w = .ok (.slice (some ⟨w.heap.size, 0, none⟩) n n) w1 ∧ Below w.heap.size w w1 ∧ w1.heap.size = w.heap.size + 1 ∧
      w1.heap[w.heap.size]? = some (.cells (List.replicate n (Value.int .u8 0)).toArray e (0, 0)) := by
  obtain ⟨i, hi, h2⟩ := Option.map_eq_some_iff.1 hinfo
  simp only [Prod.mk.injEq] at h2
  obtain ⟨hz, hsz, hby⟩ := h2
  have hr := run_make (P := P) w t e i _ ht hi hz .u64 .u64 (n : Int) (n : Int) (by omega) (by omega) (by rw [hby]; omega) (by omega)
  simp only [Int.toNat_natCast, hsz, Nat.mul_one] at hr
  refine ⟨_, hr, (Below.refl _ _).alloc (Nat.le_refl _) _, by simp, ?_⟩
  rw [heap_alloc_new]
  congr 2
  apply Array.ext
  · simp [size_madeCells]
  · intro j h1 h2
    have h0 : [Value.int IntKind.u8 0][j % 1]?.getD default = Value.int IntKind.u8 0 := by rw [Nat.mod_one]; rfl
    simp [madeCells, Value.cells, h0]
end

set_option maxRecDepth 100000 in
set_option maxHeartbeats 1000000 in
/-- How many bytes are left. -/
theorem rdLen (p : Nat) (v : Value) (l : List UInt8) (i : Nat) (w : World) (hr : Rdr w p v l i) :
    Calls Tryd.prog 51 #[.pointer (some ⟨p, 0, none⟩)] w fun e w' => e = .returned (.int .i64 ((l.length : Int) - i)) ∧ Keep (fun _ => False) w w' := by
  obtain ⟨⟨r, hrow⟩, ⟨⟨A0, c0, rfl, hc0, hcl⟩, hout⟩, hle, hfits⟩ := hr
  have h0 : w.cell? ⟨p, 0, none⟩ = some (.slice A0 l.length c0) := by rw [cell_of_row' (cur := [_, _, _]) hrow]; rfl
  have h1 : w.cell? ⟨p, 1, none⟩ = some (.int .i64 i) := by rw [cell_of_row' (cur := [_, _, _]) hrow]; rfl
  clear hcl hout hc0 hrow
  generalize l.length = n at *
  by_cases hi : i = n
  · subst hi
    go_enter Tryd.func51, Tryd.ntmps51
    go_wp2
    go_quiet (fail)
    go_wp2
    go_ret
    exact ⟨by rw [Int.sub_self]; rfl, keep_drewN _ _ _⟩
  · have hlt : i < n := by omega
    go_enter Tryd.func51, Tryd.ntmps51
    go_wp2
    go_quiet (fail)
    go_wp2
    go_quiet (fail)
    go_wp2
    go_ret
    exact ⟨rfl, (keep_drewN _ _ _).drewN _⟩

set_option maxRecDepth 100000 in
set_option maxHeartbeats 1000000 in
theorem kind_nil (w : World) : Calls Tryd.prog 52 #[.nilIface] w fun e w' => e = .returned (.int .u8 0) ∧ w' = w := by
  go_enter Tryd.func52, Tryd.ntmps52
  go_wp2
  go_ret
  exact ⟨rfl, rfl⟩

set_option maxRecDepth 100000 in
set_option maxHeartbeats 1000000 in
theorem kind_end (B : Nat) (w : World) (e0 : Addr) (he : ErrAt B w 0 e0) : Calls Tryd.prog 52 #[errV e0] w fun e w' => e = .returned (.int .u8 1) ∧ w' = w := by
  have heq := fun w => run_eqErr_same e0 w
  have hc := he.cell
  clear he
  go_enter Tryd.func52, Tryd.ntmps52
  go_wp2
  go_ret
  exact ⟨rfl, rfl⟩

set_option maxRecDepth 100000 in
set_option maxHeartbeats 1000000 in
theorem ldSize_ok (p : Nat) (v : Value) (l : List UInt8) (i : Nat) (w : World) (hr : Rdr w p v l i) (e0 e1 : Addr) (t2 t3 : TypeId) (p2 p3 : Value) (he : UvErrs p w e0 e1 (.iface t2 p2) (.iface t3 p3)) (x m : Nat) (hd : uvDec (l.drop i) = .ok x m) (z : Bool) (most : Nat) (hm : x ≤ most) (hz : z = true → x ≠ 0) :
    Calls Tryd.prog 86 #[rdV p, .bool z, .int .u64 most] w fun e w' => e = .returned (.tuple #[.int .u64 x, .nilIface]) ∧ Rdr w' p v l (i + m) ∧ Keep (fun k => k = p) w w' := by
  have HB := Lib.hid (readUv p v l i w hr e0 e1 t2 t3 p2 p3 he)
  rw [hd] at HB
  have HT := fun W => Lib.hid (toByteReader p W)
  clear hr he hd
  go_enter Tryd.func86, Tryd.ntmps86
  go_wp2_with fail
  refine (HT _).out.mono ?_
  rintro e w1 ⟨rfl, rfl⟩
  go_wp2_with fail
  refine HB.out.mono ?_
  unfold UvR.rd UvR.at_
  dsimp only
  rintro e w2 ⟨rfl, ⟨j, rfl, hr2⟩, hk⟩
  have HR2 := Lib.hid hr2
  clear hr2 HB HT
  cases z
  · by_cases h0 : x = 0
    · subst h0
      go_wp2
      go_ret2
      exact ⟨rfl, HR2.out, hk⟩
    · have hx : ((x : Int) == 0) = false := by simp; omega
      go_wp2
      go_ret2
      exact ⟨rfl, HR2.out, hk⟩
  · have hx : ((x : Int) == 0) = false := by have := hz rfl; simp; omega
    go_wp2
    go_ret2
    exact ⟨rfl, HR2.out, hk⟩

set_option maxRecDepth 100000 in
set_option maxHeartbeats 1000000 in
theorem ldSize_end (p : Nat) (v : Value) (l : List UInt8) (i : Nat) (w : World) (hr : Rdr w p v l i) (e0 e1 : Addr) (t2 t3 : TypeId) (p2 p3 : Value) (he : UvErrs p w e0 e1 (.iface t2 p2) (.iface t3 p3)) (m : Nat) (hd : uvDec (l.drop i) = .ok 0 m) (most : Nat) :
    Calls Tryd.prog 86 #[rdV p, .bool true, .int .u64 most] w fun e w' => e = .returned (.tuple #[.int .u64 0, errV e0]) ∧ Rdr w' p v l (i + m) ∧ Keep (fun k => k = p) w w' := by
  have HB := Lib.hid (readUv p v l i w hr e0 e1 t2 t3 p2 p3 he)
  rw [hd] at HB
  have HE := Lib.hid he
  have HT := fun W => Lib.hid (toByteReader p W)
  clear hr he hd
  go_enter Tryd.func86, Tryd.ntmps86
  go_wp2_with fail
  refine (HT _).out.mono ?_
  rintro e w1 ⟨rfl, rfl⟩
  go_wp2_with fail
  refine HB.out.mono ?_
  unfold UvR.rd UvR.at_
  dsimp only
  rintro e w2 ⟨rfl, ⟨j, rfl, hr2⟩, hk⟩
  have HR2 := Lib.hid hr2
  have hc := (HE.out.keep hk (fun k h => by omega)).eof.cell
  clear hr2 HB HT HE
  go_wp2
  go_quiet (fail)
  go_wp2
  go_ret2
  exact ⟨rfl, HR2.out.keep (keep_drewN (fun _ => False) _ _) (fun _ h => h.elim), hk.drewN _⟩
end Go.Proofs.YthfgnhgijgjggaaDoor
/- Contracts: util.LdRead over a reader of bytes, impl.LdRead. -/
namespace Go.Proofs.YthfgnhgijgjggaaDoor
open Go.RowKit

/-- A slice of the bytes l, and no error. -/
def BytesNil (l : List UInt8) (e : Ending) (w' : World) : Prop := ∃ A c, e = .returned (.tuple #[.slice A l.length c, .nilIface]) ∧ BS w' (.slice A l.length c) l

set_option maxRecDepth 100000 in
set_option maxHeartbeats 1000000 in
theorem ldRead_ok (p : Nat) (v : Value) (l : List UInt8) (i : Nat) (w : World) (hr : Rdr w p v l i) (e0 e1 : Addr) (t2 t3 : TypeId) (p2 p3 : Value) (he : UvErrs p w e0 e1 (.iface t2 p2) (.iface t3 p3)) (x m : Nat) (hd : uvDec (l.drop i) = .ok x m) (z : Bool) (most : Nat) (hm : x ≤ most) (hz : z = true → x ≠ 0) (hx : i + m + x ≤ l.length) (hl : l.length ≤ 281474976710656) :
    Calls Tryd.prog 50 #[rdV p, .bool z, .int .u64 most] w fun e w' => BytesNil ((l.drop (i + m)).take x) e w' ∧ Rdr w' p v l (i + m + x) ∧ Keep (fun k => k = p) w w' := by
  have HB := Lib.hid (ldSize_ok p v l i w hr e0 e1 t2 t3 p2 p3 he x m hd z most hm hz)
  have hpw : p < w.heap.size := by obtain ⟨r, hrow⟩ := hr.row; exact block_of_row hrow
  have hxs : x ≤ 281474976710656 := by omega
  have hlen : ((l.drop (i + m)).take x).length = x := by rw [List.length_take, List.length_drop]; omega
  have HL := Lib.hid hlen
  have HX := Lib.hid hx
  clear hr he hd hlen hz hm hx hl
  go_enter Tryd.func50, Tryd.ntmps50
  go_wp2_with fail
  refine HB.out.mono ?_
  rintro e w1 ⟨rfl, hr1, hk1⟩
  obtain ⟨w2, hmk, hb2, hs2, hrow⟩ := make_bytes64 (P := Tryd.prog) Tryd.underlying43 info_u8 w1 x hxs
  have hp1 : p < w1.heap.size := by have := hk1.size; omega
  have HF := Lib.hid (rdFull_ok p w1.heap.size x x v l (i + m) (List.replicate x (Value.int .u8 0)) 5 w2 (hr1.below hb2) hp1 hrow (by simp) HX.out)
  have HK1 := Lib.hid hk1
  have hs1 := hk1.size
  have HK2 := Lib.hid (hb2.keep (S := fun _ => False))
  clear hr1 hrow hk1 hs2
  generalize hg : w1.heap.size = g at *
  go_wp2_with fail
  refine HF.out.mono ?_
  rintro e w3 ⟨rfl, hr3, hrow3, hk3⟩
  have HBS := Lib.hid (BS.of_row hrow3.out (c := x) (by rw [HL.out]; exact Nat.le_refl _))
  have HR3 := Lib.hid hr3
  have hk : Keep (fun k => k = p) w w3 := HK1.out.trans2 (T := fun k => k = p ∨ k = g) ((HK2.out.mono (fun _ _ h => h.elim)).trans hk3) (fun k hk h => by omega)
  clear hr3 hrow3 hk3 hmk HF HB
  go_wp2
  go_ret2
  refine ⟨⟨some ⟨g, 0, none⟩, x, by rw [HL.out]; rfl, HBS.out⟩, HR3.out, hk⟩

set_option maxRecDepth 100000 in
set_option maxHeartbeats 1000000 in
theorem ldRead_end (p : Nat) (v : Value) (l : List UInt8) (i : Nat) (w : World) (hr : Rdr w p v l i) (e0 e1 : Addr) (t2 t3 : TypeId) (p2 p3 : Value) (he : UvErrs p w e0 e1 (.iface t2 p2) (.iface t3 p3)) (m : Nat) (hd : uvDec (l.drop i) = .ok 0 m) (most : Nat) :
    Calls Tryd.prog 50 #[rdV p, .bool true, .int .u64 most] w fun e w' => e = .returned (.tuple #[.slice none 0 0, errV e0]) ∧ Rdr w' p v l (i + m) ∧ Keep (fun k => k = p) w w' := by
  have HB := Lib.hid (ldSize_end p v l i w hr e0 e1 t2 t3 p2 p3 he m hd most)
  clear hr he hd
  go_enter Tryd.func50, Tryd.ntmps50
  go_wp2_with fail
  refine HB.out.mono ?_
  rintro e w1 ⟨rfl, hr1, hk1⟩
  have HR := Lib.hid hr1
  clear hr1
  go_wp2
  go_ret2
  exact ⟨rfl, HR.out, hk1⟩
end Go.Proofs.YthfgnhgijgjggaaDoor
/- Contracts: impl.LdRead. -/
namespace Go.Proofs.YthfgnhgijgjggaaDoor
open Go.RowKit

theorem Keep.below' {w w' : World} (h : Keep (fun _ => False) w w') : Below w.heap.size w w' := h.below (fun _ _ h => h) (Nat.le_refl _)

set_option maxRecDepth 100000 in
set_option maxHeartbeats 4000000 in
theorem iLdRead_ok (s : ByteArray) (hs : s.size ≤ 2147483647) (w : World) (e0 e1 : Addr) (t2 t3 : TypeId) (p2 p3 : Value) (he : UvErrs w.heap.size w e0 e1 (.iface t2 p2) (.iface t3 p3)) (x m : Nat) (hd : uvDec s.data.toList = .ok x m) (z : Bool) (most : Nat) (hm : x ≤ most) (hz : z = true → x ≠ 0) (hx : m + x ≤ s.size) (D : ByteArray) (hD : D = ⟨((s.data.toList.drop m).take x).toArray⟩) :
    Calls Tryd.prog 25 #[.string s, .bool z, .int .u64 most] w fun e w' => e = .returned (.tuple #[.string D, .int .i64 ((m : Int) + x), .int .u8 0]) ∧ Below w.heap.size w w' := by
  obtain ⟨A, c, w1, hconv, hb1, hbs⟩ := conv_in' w s
  have hl : s.data.toList.length = s.size := by rw [Array.length_toList]; rfl
  obtain ⟨l, hll⟩ : ∃ l, l = s.data.toList := ⟨_, rfl⟩
  rw [← hll] at hbs hl hd hD
  obtain ⟨N, hN⟩ : ∃ N, N = s.size := ⟨_, rfl⟩
  have HN := Lib.hid (newReader (.slice A s.size c) l w1 hbs (by omega))
  have he1 := Lib.hid ((he.keep (S := fun _ => False) hb1.keep (fun _ h => h.elim)).mono hb1.size)
  have HD := Lib.hid hd
  have HL := Lib.hid hl
  have HX := Lib.hid hx
  have HDD := Lib.hid hD
  have g1 : IntKind.i64.wrap ((s.size : Int) - ((s.size : Int) - ((m : Int) + x))) = (m : Int) + x := by rw [IntWalk.i64_in _ (by omega)]; omega
  clear hbs he hl hll hd hN hx hD
  go_enter Tryd.func25, Tryd.ntmps25
  go_wp2_with fail
  refine HN.out.mono ?_
  rintro e w2 ⟨rfl, hr, hs2, hb2⟩
  have b2 : Below w.heap.size w w2 := below_next hb1 hb2
  have he2 := he1.out.keep (S := fun _ => False) hb2.keep (fun _ h => h.elim)
  have HC := Lib.hid (ldRead_ok w1.heap.size _ l 0 w2 hr e0 e1 t2 t3 p2 p3 he2 x m HD.out z most hm hz (by have := HX.out; have := HL.out; omega) (by have := HL.out; omega))
  rw [Nat.zero_add] at HC
  have hw1 := hb1.size
  clear hr he2 hb2 HN hb1 hconv
  generalize w1.heap.size = q at *
  go_wp2_with fail
  refine HC.out.mono ?_
  rintro e w3 ⟨⟨A3, c3, rfl, hbs3⟩, hr3, hk3⟩
  have b3 : Below w.heap.size w w3 := b2.trans (hk3.below (fun k hk e => by omega) (by omega))
  have hcv : ∀ W, Below w3.heap.size w3 W → (convert 43 9 (.slice A3 ((l.drop m).take x).length c3)).run Tryd.prog W = .ok (.string D) W := fun W hW => by rw [HDD.out]; exact (hbs3.below hW).str (dst := 9) Tryd.underlying43 Tryd.underlying5 Tryd.underlying9
  have HLen := Lib.hid (rdLen q _ l (m + x) w3.drew hr3.drew)
  rw [HL.out] at HLen
  have h0 : Below w3.heap.size w3 w3.drew := below_drewN _ _ 1
  have hk0 := hcv _ h0
  generalize ((l.drop m).take x).length = n3 at *
  clear hbs3 hr3 hk3 HC HDD
  go_wp2_with fail
  go_region_with (first
    | (go_at_call 51; (with_reducible refine HLen.out.mono ?_); rintro e w4 ⟨rfl, hk4⟩; have h4 := below_next h0 hk4.below'; have hk5 := hcv _ h4)
    | (go_at_call 52; (with_reducible refine (kind_nil _).mono ?_); rintro e w5 ⟨rfl, rfl⟩))
  all_goals
    have b4 := below_next b3 h4
    go_wp2
    go_ret3
    exact ⟨by first | rfl | (rw [← g1]; rfl), b4⟩

set_option maxRecDepth 100000 in
set_option maxHeartbeats 4000000 in
theorem iLdRead_end (s : ByteArray) (hs : s.size ≤ 2147483647) (w : World) (e0 e1 : Addr) (t2 t3 : TypeId) (p2 p3 : Value) (he : UvErrs w.heap.size w e0 e1 (.iface t2 p2) (.iface t3 p3)) (m : Nat) (hd : uvDec s.data.toList = .ok 0 m) (most : Nat) :
    Calls Tryd.prog 25 #[.string s, .bool true, .int .u64 most] w fun e w' => e = .returned (.tuple #[.string ⟨#[]⟩, .int .i64 m, .int .u8 1]) ∧ Below w.heap.size w w' := by
  obtain ⟨A, c, w1, hconv, hb1, hbs⟩ := conv_in' w s
  have hl : s.data.toList.length = s.size := by rw [Array.length_toList]; rfl
  have hmz : m ≤ s.size := by have := (uvDec_ok hd).2.1; omega
  obtain ⟨l, hll⟩ : ∃ l, l = s.data.toList := ⟨_, rfl⟩
  rw [← hll] at hbs hl hd
  have HN := Lib.hid (newReader (.slice A s.size c) l w1 hbs (by omega))
  have he1 := Lib.hid ((he.keep (S := fun _ => False) hb1.keep (fun _ h => h.elim)).mono hb1.size)
  have HD := Lib.hid hd
  have HL := Lib.hid hl
  have g1 : IntKind.i64.wrap ((s.size : Int) - ((s.size : Int) - (m : Int))) = (m : Int) := by rw [IntWalk.i64_in _ (by omega)]; omega
  clear hbs he hl hll hd
  go_enter Tryd.func25, Tryd.ntmps25
  go_wp2_with fail
  refine HN.out.mono ?_
  rintro e w2 ⟨rfl, hr, hs2, hb2⟩
  have b2 : Below w.heap.size w w2 := below_next hb1 hb2
  have he2 := he1.out.keep (S := fun _ => False) hb2.keep (fun _ h => h.elim)
  have HC := Lib.hid (ldRead_end w1.heap.size _ l 0 w2 hr e0 e1 t2 t3 p2 p3 he2 m HD.out most)
  rw [Nat.zero_add] at HC
  have HE2 := Lib.hid he2
  have hw1 := hb1.size
  clear hr he2 hb2 HN hb1 hconv
  generalize w1.heap.size = q at *
  go_wp2_with fail
  refine HC.out.mono ?_
  rintro e w3 ⟨rfl, hr3, hk3⟩
  have b3 : Below w.heap.size w w3 := b2.trans (hk3.below (fun k hk e => by omega) (by omega))
  have HE3 := HE2.out.keep hk3 (fun k h => by omega)
  have hcv : ∀ W, (convert 43 9 (.slice none 0 0)).run Tryd.prog W = .ok (.string ⟨#[]⟩) W := fun W => (BS.nil W 0).str (dst := 9) Tryd.underlying43 Tryd.underlying5 Tryd.underlying9
  have HLen := Lib.hid (rdLen q _ l m w3.drew hr3.drew)
  rw [HL.out] at HLen
  have h0 : Below w3.heap.size w3 w3.drew := below_drewN _ _ 1
  have HK := fun W (h : Keep (fun _ => False) w3.drew W) => Lib.hid (kind_end _ W e0 (((HE3.keep (S := fun _ => False) (keep_drew _ w3) (fun _ h => h.elim)).keep (S := fun _ => False) h (fun _ h => h.elim)).eof))
  clear hr3 hk3 HC HE2 HE3
  go_wp2_with fail
  go_region_with (first
    | (go_at_call 51; (with_reducible refine HLen.out.mono ?_); rintro e w4 ⟨rfl, hk4⟩; have h4 := below_next h0 hk4.below'; have HK4 := HK _ hk4)
    | (go_at_call 52; (with_reducible refine HK4.out.mono ?_); rintro e w5 ⟨rfl, rfl⟩))
  all_goals
    have b4 := below_next b3 h4
    clear HK
    go_wp2
    go_ret3
    exact ⟨by first | rfl | (rw [← g1]; rfl), b4⟩
end Go.Proofs.YthfgnhgijgjggaaDoor
/- Contracts: io.LimitReader and its Read, over a reader of bytes. -/
namespace Go.Proofs.YthfgnhgijgjggaaDoor
open Go.RowKit

/-- A limited reader in block q over the reader in block p: N bytes more are let through. -/
def LimAt (w : World) (q p N : Nat) : Prop := w.heap[q]? = some (.cells #[rdV p, .int .i64 (N : Int)] 204 (0, 0))
abbrev limV (q : Nat) : Value := .iface 202 (.pointer (some ⟨q, 0, none⟩))

theorem limSet {w : World} {b : Nat} {x y : Value} {t : TypeId} (h : w.heap[b]? = some (.cells #[x, y] t (0, 0))) (v : Value) : (w.setCell ⟨b, 1, none⟩ v).heap[b]? = some (.cells #[x, v] t (0, 0)) := by
  have := Lib.heap_setCell_same (i := 1) h v
  simpa using this

set_option maxRecDepth 100000 in
set_option maxHeartbeats 2000000 in
/-- Bytes that are there and let through are read. -/
theorem limRead_some (q p g o m c N K : Nat) (v : Value) (l : List UInt8) (i : Nat) (cur : List Value) (t : TypeId) (w : World) (hr : Rdr w p v l i) (hl : LimAt w q p N) (hN : 0 < N) (hN2 : N ≤ 9223372036854775807) (hi : i < l.length) (hpq : p < q) (hqg : q ≠ g) (hpg : p < g)
    (hg : w.heap[g]? = some (.cells cur.toArray t (0, 0))) (hm : 0 < m) (hmc : m ≤ c) (hc : c ≤ 9223372036854775807) (hfit : o + m ≤ cur.length) (hK : K = min (min m N) (l.length - i)) :
    Calls Tryd.prog 159 #[.pointer (some ⟨q, 0, none⟩), .slice (some ⟨g, o, none⟩) m c] w fun e w' => e = .returned (.tuple #[.int .i64 K, .nilIface]) ∧ Rdr w' p v l (i + K) ∧ LimAt w' q p (N - K) ∧
      Hid (w'.heap[g]? = some (.cells (splice cur o (Lib.byteCells ((l.drop i).take (min m N)))).toArray t (0, 0))) ∧ Keep (fun k => k = p ∨ k = q ∨ k = g) w w' := by
  have hna := fun w => nil_rdRead ⟨p, 0, none⟩ w
  have hme := fun w => method_rdRead ⟨p, 0, none⟩ w
  have c0 : w.cell? ⟨q, 0, none⟩ = some (rdV p) := cell_of_row' (cur := [_, _]) hl 0
  have c1 : w.cell? ⟨q, 1, none⟩ = some (.int .i64 (N : Int)) := cell_of_row' (cur := [_, _]) hl 1
  have HL := Lib.hid hl
  have HK := Lib.hid hK
  have hKN : K ≤ N := by omega
  have fin : ∀ w1, Rdr w1 p v l (i + K) → Hid (w1.heap[g]? = some (.cells (splice cur o (Lib.byteCells ((l.drop i).take (min m N)))).toArray t (0, 0))) → Keep (fun k => k = p ∨ k = g) w w1 →
      Hid (w1.cell? ⟨q, 1, none⟩ = some (.int .i64 (N : Int)) ∧ w1.frozen? ⟨q, 1, none⟩ = false) ∧ Hid (Rdr (w1.setCell ⟨q, 1, none⟩ (.int .i64 ((N : Int) - K))) p v l (i + K) ∧ LimAt (w1.setCell ⟨q, 1, none⟩ (.int .i64 ((N : Int) - K))) q p (N - K) ∧
      Hid ((w1.setCell ⟨q, 1, none⟩ (.int .i64 ((N : Int) - K))).heap[g]? = some (.cells (splice cur o (Lib.byteCells ((l.drop i).take (min m N)))).toArray t (0, 0))) ∧ Keep (fun k => k = p ∨ k = q ∨ k = g) w (w1.setCell ⟨q, 1, none⟩ (.int .i64 ((N : Int) - K)))) := by
    intro w1 hr1 hg1 hk1
    have hl1 : LimAt w1 q p N := hk1.row hl (by omega)
    refine ⟨Lib.hid ⟨cell_of_row' (cur := [_, _]) hl1 1, frozen_of_row' (cur := [_, _]) hl1 1⟩, Lib.hid ⟨hr1.keep (S := fun k => k = q) (Keep.setCell (S := fun k => k = q) (Keep.refl _ _) rfl _ _) (fun k hk => by omega), ?_, Lib.hid ((Below.heap_setCell _ _ _ _ (Ne.symm hqg)).trans hg1.out), Keep.setCell (hk1.mono fun _ _ h => by omega) (Or.inr (Or.inl rfl)) _ _⟩⟩
    have := limSet hl1 (.int .i64 ((N : Int) - K))
    unfold LimAt
    rw [Int.ofNat_sub hKN]
    exact this
  have FIN := Lib.hid fin
  clear fin
  by_cases hmN : m ≤ N
  · have HR := Lib.hid (rdRead_some p g o m c v l i cur t (some ⟨g, o, none⟩) w hr hi hpg hg (fun _ => rfl) hfit)
    have e1 : min m (l.length - i) = K := by omega
    have e2 : min m N = m := by omega
    rw [e1] at HR
    rw [e2] at FIN ⊢
    clear hr hg hl hfit hK e1 e2
    go_enter Tryd.func159, Tryd.ntmps159
    go_wp2_with (go_at_call 141; refine HR.out.mono ?_; rintro e w1 ⟨rfl, hr1, hg1, hk1⟩; obtain ⟨f1, f2⟩ := FIN.out _ hr1 hg1 hk1; obtain ⟨d1, d2⟩ := f1.out; clear hr1 hg1 hk1)
    go_ret2
    exact ⟨rfl, f2.out.1, f2.out.2.1, f2.out.2.2.1, f2.out.2.2.2⟩
  · have hsl := fun W => run_zero_to (P := Tryd.prog) Tryd.underlying43 info_u8 (some ⟨g, o, none⟩) m c N (by omega) hmc W
    have HR := Lib.hid (rdRead_some p g o N c v l i cur t (some ⟨g, o, none⟩) w hr hi hpg hg (fun _ => rfl) (by omega))
    have e1 : min N (l.length - i) = K := by omega
    have e2 : min m N = N := by omega
    rw [e1] at HR
    rw [e2] at FIN ⊢
    clear hr hg hl hfit hK e1 e2
    go_enter Tryd.func159, Tryd.ntmps159
    go_wp2_with (go_at_call 141; refine HR.out.mono ?_; rintro e w1 ⟨rfl, hr1, hg1, hk1⟩; obtain ⟨f1, f2⟩ := FIN.out _ hr1 hg1 hk1; obtain ⟨d1, d2⟩ := f1.out; clear hr1 hg1 hk1)
    go_ret2
    exact ⟨rfl, f2.out.1, f2.out.2.1, f2.out.2.2.1, f2.out.2.2.2⟩

set_option maxRecDepth 100000 in
set_option maxHeartbeats 2000000 in
/-- Where nothing is let through any more, or nothing is there, the end is told. -/
theorem limRead_end (q p m c N : Nat) (A : Option Addr) (v : Value) (l : List UInt8) (i : Nat) (w : World) (hr : Rdr w p v l i) (hl : LimAt w q p N) (hN2 : N ≤ 9223372036854775807) (hi : N = 0 ∨ i = l.length) (hmc : m ≤ c) (e0 : Addr) (he : ErrAt p w 0 e0) :
    Calls Tryd.prog 159 #[.pointer (some ⟨q, 0, none⟩), .slice A m c] w fun e w' => e = .returned (.tuple #[.int .i64 0, errV e0]) ∧ LimAt w' q p N ∧ Keep (fun k => k = q) w w' := by
  have hna := fun w => nil_rdRead ⟨p, 0, none⟩ w
  have hme := fun w => method_rdRead ⟨p, 0, none⟩ w
  have c0 : w.cell? ⟨q, 0, none⟩ = some (rdV p) := cell_of_row' (cur := [_, _]) hl 0
  have c1 : w.cell? ⟨q, 1, none⟩ = some (.int .i64 (N : Int)) := cell_of_row' (cur := [_, _]) hl 1
  have ce := he.cell
  have HL := Lib.hid hl
  by_cases h0 : N = 0
  · subst h0
    clear hr hl he hi
    go_enter Tryd.func159, Tryd.ntmps159
    go_wp2_with fail
    go_quiet (fail)
    go_wp2
    go_ret2
    exact ⟨rfl, HL.out, keep_drewN _ _ _⟩
  · have hil : i = l.length := by omega
    have fin : ∀ w1, Keep (fun _ => False) w w1 → Hid (w1.cell? ⟨q, 1, none⟩ = some (.int .i64 (N : Int)) ∧ w1.frozen? ⟨q, 1, none⟩ = false) ∧ Hid (LimAt (w1.setCell ⟨q, 1, none⟩ (.int .i64 (N : Int))) q p N ∧ Keep (fun k => k = q) w (w1.setCell ⟨q, 1, none⟩ (.int .i64 (N : Int)))) := by
      intro w1 hk1
      have hl1 : LimAt w1 q p N := hk1.row hl (fun h => h)
      exact ⟨Lib.hid ⟨cell_of_row' (cur := [_, _]) hl1 1, frozen_of_row' (cur := [_, _]) hl1 1⟩, Lib.hid ⟨limSet hl1 _, Keep.setCell (S := fun k => k = q) (hk1.mono fun _ _ h => h.elim) rfl _ _⟩⟩
    have FIN := Lib.hid fin
    clear fin hi
    by_cases hmN : m ≤ N
    · have HR := Lib.hid (rdRead_end p m c v l i A w hr hil e0 he)
      clear hr hl he hil
      go_enter Tryd.func159, Tryd.ntmps159
      go_wp2_with (go_at_call 141; refine HR.out.mono ?_; rintro e w1 ⟨rfl, hk1⟩; obtain ⟨f1, f2⟩ := FIN.out _ hk1; obtain ⟨d1, d2⟩ := f1.out; clear hk1)
      go_ret2
      exact ⟨rfl, f2.out.1, f2.out.2⟩
    · have hsl := fun W => run_zero_to (P := Tryd.prog) Tryd.underlying43 info_u8 A m c N (by omega) hmc W
      have HR := Lib.hid (rdRead_end p N c v l i A w hr hil e0 he)
      clear hr hl he hil
      go_enter Tryd.func159, Tryd.ntmps159
      go_wp2_with (go_at_call 141; refine HR.out.mono ?_; rintro e w1 ⟨rfl, hk1⟩; obtain ⟨f1, f2⟩ := FIN.out _ hk1; obtain ⟨d1, d2⟩ := f1.out; clear hk1)
      go_ret2
      exact ⟨rfl, f2.out.1, f2.out.2⟩
end Go.Proofs.YthfgnhgijgjggaaDoor
/- Contracts: io.ReadFull over a limited reader. -/
namespace Go.Proofs.YthfgnhgijgjggaaDoor
open Go.RowKit

theorem nil_limRead (a : Addr) (w : World) : (nilAhead 359 202 (.pointer (some a)) "Read").run Tryd.prog w = .ok (some false) w := by kernel_rfl
theorem method_limRead (a : Addr) (w : World) : (method 359 202 (.pointer (some a)) "Read").run Tryd.prog w = .ok (159, .pointer (some a)) w := by kernel_rfl

theorem LimAt.drew {w : World} {q p N : Nat} (h : LimAt w q p N) : LimAt w.drew q p N := h
theorem LimAt.keep {w w' : World} {q p N : Nat} {S : Nat → Prop} (h : LimAt w q p N) (hk : Keep S w w') (hS : ¬ S q) : LimAt w' q p N := hk.row h hS

set_option maxRecDepth 100000 in
set_option maxHeartbeats 2000000 in
theorem limAtLeast_ok (q p g o n c N : Nat) (v : Value) (l : List UInt8) (i : Nat) (cur : List Value) (t : TypeId) (w : World) (hr : Rdr w p v l i) (hl : LimAt w q p N) (hN2 : N ≤ 9223372036854775807) (hpq : p < q) (hqg : q ≠ g) (hpg : p < g)
    (hg : w.heap[g]? = some (.cells cur.toArray t (0, 0))) (hn0 : 0 < n) (hnc : n ≤ c) (hc : c ≤ 9223372036854775807) (hfit : o + n ≤ cur.length) (hi : i + n ≤ l.length) (hnN : n ≤ N) :
    Calls Tryd.prog 107 #[limV q, .slice (some ⟨g, o, none⟩) n c, .int .i64 n] w fun e w' => e = .returned (.tuple #[.int .i64 n, .nilIface]) ∧ Rdr w' p v l (i + n) ∧ LimAt w' q p (N - n) ∧
      Hid (w'.heap[g]? = some (.cells (splice cur o (Lib.byteCells ((l.drop i).take n))).toArray t (0, 0))) ∧ Keep (fun k => k = p ∨ k = q ∨ k = g) w w' := by
  have HR := Lib.hid (limRead_some q p g o n c N n v l i cur t w.drew hr.drew hl.drew (by omega) hN2 (by omega) hpq hqg hpg hg hn0 hnc hc hfit (by omega))
  have hmn : min n N = n := by omega
  rw [hmn] at HR
  have hmf : ∀ (fn : Fn) (first cap : Array Value) (w : World), (Instr.makeFunc fn first cap).run Tryd.prog w = .ok (.func fn first cap) w := fun _ _ _ _ => rfl
  have hna := fun w => nil_limRead ⟨q, 0, none⟩ w
  have hme := fun w => method_limRead ⟨q, 0, none⟩ w
  have b1 : n ≤ 9223372036854775807 := by omega
  clear hr hg hmn hi hl
  go_enter Tryd.func107, Tryd.ntmps107
  go_wp2
  refine wp_loop_rounds 2 ?_
  rw [rounds_succ]
  go_wp2_with fail
  go_region_with (go_at_call 159; refine HR.out.mono ?_; rintro e w1 ⟨rfl, hr1, hl1, hg1, hk1⟩)
  have F := Lib.hid (And.intro hr1 (And.intro hl1 (And.intro hg1 ((keep_drew (fun k => k = p ∨ k = q ∨ k = g) w).trans hk1))))
  clear hr1 hl1 hg1 hk1
  go_wp2
  rw [rounds_succ]
  go_wp2
  go_ret2
  exact ⟨rfl, F.out.1, F.out.2.1, F.out.2.2.1, F.out.2.2.2⟩

set_option maxRecDepth 100000 in
set_option maxHeartbeats 2000000 in
theorem limAtLeast_end (q p g o n c N : Nat) (v : Value) (l : List UInt8) (i : Nat) (w : World) (hr : Rdr w p v l i) (hl : LimAt w q p N) (hN2 : N ≤ 9223372036854775807) (hn0 : 0 < n) (hnc : n ≤ c) (hc : c ≤ 9223372036854775807)
    (hi : N = 0 ∨ i = l.length) (e0 : Addr) (he : ErrAt p w 0 e0) :
    Calls Tryd.prog 107 #[limV q, .slice (some ⟨g, o, none⟩) n c, .int .i64 n] w fun e w' => e = .returned (.tuple #[.int .i64 0, errV e0]) ∧ LimAt w' q p N ∧ Keep (fun k => k = q) w w' := by
  have HR := Lib.hid (limRead_end q p n c N (some ⟨g, o, none⟩) v l i w.drew hr.drew hl.drew hN2 hi hnc e0 he.drew)
  have hmf : ∀ (fn : Fn) (first cap : Array Value) (w : World), (Instr.makeFunc fn first cap).run Tryd.prog w = .ok (.func fn first cap) w := fun _ _ _ _ => rfl
  have hna := fun w => nil_limRead ⟨q, 0, none⟩ w
  have hme := fun w => method_limRead ⟨q, 0, none⟩ w
  have b1 : n ≤ 9223372036854775807 := by omega
  clear hr hl hi he
  go_enter Tryd.func107, Tryd.ntmps107
  go_wp2
  refine wp_loop_rounds 2 ?_
  rw [rounds_succ]
  go_wp2_with fail
  go_region_with (go_at_call 159; refine HR.out.mono ?_; rintro e w1 ⟨rfl, hl1, hk1⟩)
  have F := Lib.hid (And.intro hl1 ((keep_drew (fun k => k = q) w).trans hk1))
  clear hl1 hk1
  go_wp2
  rw [rounds_succ]
  go_wp2
  go_ret2
  exact ⟨rfl, F.out.1, F.out.2⟩

set_option maxRecDepth 100000 in
set_option maxHeartbeats 2000000 in
theorem limAtLeast_cut (q p g o n c N K : Nat) (v : Value) (l : List UInt8) (i : Nat) (cur : List Value) (t : TypeId) (w : World) (hr : Rdr w p v l i) (hl : LimAt w q p N) (hN2 : N ≤ 9223372036854775807) (hpq : p < q) (hqg : q ≠ g) (hpg : p < g)
    (hg : w.heap[g]? = some (.cells cur.toArray t (0, 0))) (hnc : n ≤ c) (hc : c ≤ 9223372036854775807) (hfit : o + n ≤ cur.length) (hK : K = min N (l.length - i)) (hK0 : 0 < K) (hKn : K < n) (e0 e1 : Addr) (he : ErrAt p w 0 e0) (he1 : ErrAt p w 5 e1) :
    Calls Tryd.prog 107 #[limV q, .slice (some ⟨g, o, none⟩) n c, .int .i64 n] w fun e w' => e = .returned (.tuple #[.int .i64 K, errV e1]) ∧ Rdr w' p v l (i + K) ∧ Keep (fun k => k = p ∨ k = q ∨ k = g) w w' := by
  have HR := Lib.hid (limRead_some q p g o n c N K v l i cur t w.drew hr.drew hl.drew (by omega) hN2 (by omega) hpq hqg hpg hg (by omega) hnc hc hfit (by omega))
  have hsl2 := fun W => run_from (P := Tryd.prog) Tryd.underlying43 info_u8 (some ⟨g, o, none⟩) n c K (by omega) W
  rw [cutA_own _ _ _ _ (by omega)] at hsl2
  have hmf : ∀ (fn : Fn) (first cap : Array Value) (w : World), (Instr.makeFunc fn first cap).run Tryd.prog w = .ok (.func fn first cap) w := fun _ _ _ _ => rfl
  have hna := fun w => nil_limRead ⟨q, 0, none⟩ w
  have hme := fun w => method_limRead ⟨q, 0, none⟩ w
  have b1 : n ≤ 9223372036854775807 := by omega
  have hend : N - K = 0 ∨ i + K = l.length := by omega
  have HEND := Lib.hid hend
  have HE := Lib.hid he
  have HE1 := Lib.hid he1
  clear hr hg hl he he1 hK hend
  go_enter Tryd.func107, Tryd.ntmps107
  go_wp2
  refine wp_loop_rounds 3 ?_
  rw [rounds_succ]
  go_wp2_with fail
  go_region_with (go_at_call 159; refine HR.out.mono ?_; rintro e w1 ⟨rfl, hr1, hl1, hg1, hk1⟩)
  have hk1' := (keep_drew (fun k => k = p ∨ k = q ∨ k = g) w).trans hk1
  have q1 : ErrAt p w1 0 e0 := HE.out.keep hk1' (fun k h => by omega)
  have q2 : ErrAt p w1 5 e1 := HE1.out.keep hk1' (fun k h => by omega)
  have HR2 := Lib.hid (limRead_end q p (n - K) (c - K) (N - K) (some ⟨g, o + K, none⟩) v l (i + K) w1.drew hr1.drew hl1.drew (by omega) HEND.out (by omega) e0 q1.drew)
  have HK1 := Lib.hid hk1'
  have HRD := Lib.hid hr1.drew
  have Q1 := Lib.hid q1
  have Q2 := Lib.hid q2
  clear HR hg1 hk1 hr1 hl1 hk1' q1 q2
  go_wp2
  rw [rounds_succ]
  go_wp2_with fail
  go_region_with (go_at_call 159; refine HR2.out.mono ?_; rintro e w2 ⟨rfl, hl2, hk2⟩)
  have k1 : w2.cell? ⟨0, 0, none⟩ = _ := hk2.cell Q1.out.drew.cell (fun h => by have := Q1.out.lt; dsimp only at h; omega)
  have k2 : w2.cell? ⟨5, 0, none⟩ = _ := hk2.cell Q2.out.drew.cell (fun h => by have := Q2.out.lt; dsimp only at h; omega)
  have keq := run_eqErr_same e0
  have F := Lib.hid (HK1.out.trans (((keep_drew _ w1).trans hk2).mono (fun _ _ h => Or.inr (Or.inl h))))
  have HRF := Lib.hid (HRD.out.keep hk2 (fun k h => by omega))
  clear hl2 hk2
  go_wp2
  rw [rounds_succ]
  go_wp2
  go_ret2
  exact ⟨rfl, HRF.out, F.out⟩

set_option maxRecDepth 100000 in
set_option maxHeartbeats 1000000 in
theorem limAtLeast_zero (q c : Nat) (A : Option Addr) (w : World) :
    Calls Tryd.prog 107 #[limV q, .slice A 0 c, .int .i64 0] w fun e w' => e = .returned (.tuple #[.int .i64 0, .nilIface]) ∧ w' = w := by
  go_enter Tryd.func107, Tryd.ntmps107
  go_wp2
  refine wp_loop_rounds 1 ?_
  rw [rounds_succ]
  go_wp2
  go_ret2
  exact ⟨rfl, rfl⟩

/-- io.ReadFull hands on what io.ReadAtLeast answers. -/
theorem limFull_of (q n c : Nat) (A : Option Addr) (w : World) (v0 v1 : Value) (R : World → Prop) (h : Calls Tryd.prog 107 #[limV q, .slice A n c, .int .i64 n] w fun e w' => e = .returned (.tuple #[v0, v1]) ∧ R w') :
    Calls Tryd.prog 87 #[limV q, .slice A n c] w fun e w' => e = .returned (.tuple #[v0, v1]) ∧ R w' := by
  have H := Lib.hid h
  clear h
  go_enter Tryd.func87, Tryd.ntmps87
  go_wp2_with fail
  refine H.out.mono ?_
  rintro e w1 ⟨rfl, h1⟩
  go_wp2
  go_ret2
  exact ⟨rfl, h1⟩
end Go.Proofs.YthfgnhgijgjggaaDoor
