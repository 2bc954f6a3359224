/- Contracts, joined (CdQ UvD IxA LdA LdB LdC LwE SpA LwG EqS CdR SpB CdS CdT). -/
import Derived.Test.YthfgnhgijgjggaaDoorJHm1
import Derived.Test.YthfgnhgijgjggaaDoorJHm2
import Derived.Test.YthfgnhgijgjggaaDoorJHm3
import Derived.Test.YthfgnhgijgjggaaDoorJHm4
import Derived.Test.YthfgnhgijgjggaaDoorJHm5
import Derived.Outline
import Derived.Lib.AppendStr
import Derived.Laws.StructEq
import Derived.Lib.QuietBelow
import Derived.Deep.RegionHeld
/- Contracts: impl.CdRead, impl.CdCast; laws.cdOne. -/
namespace Go.Proofs.YthfgnhgijgjggaaDoor
open Go.RowKit

theorem conv_in' (w : World) (s : ByteArray) : ∃ A c w1, (convert 9 43 (.string s)).run Tryd.prog w = .ok (.slice A s.size c) w1 ∧ Below w.heap.size w w1 ∧ BS w1 (.slice A s.size c) s.data.toList := by
  obtain ⟨c, w1, h⟩ := conv_in w s
  exact ⟨_, c, w1, h⟩

theorem cidVal_eq (v0 v1 v2 : Int) (S : ByteArray) (x : CidD) (h0 : (x.ver : Int) = v0) (h1 : (x.codec : Int) = v1) (h2 : (x.code : Int) = v2) (hS : (⟨x.dig.toArray⟩ : ByteArray) = S) : cidVal x = .agg #[.int .u64 v0, .int .u64 v1, .int .u64 v2, .string S] := by
  subst h0 h1 h2 hS; rfl

set_option maxRecDepth 100000 in
set_option maxHeartbeats 4000000 in
theorem cdReadI_ok (s : ByteArray) (w : World) (hm : s.size ≤ 2147483600) (hu : CdS w) (x : CidD) (k : Nat) (hd : cidRd s.data.toList = some (x, k)) :
    Calls Tryd.prog 48 #[.string s] w fun e w' => e = .returned (.tuple #[cidVal x, .int .i64 k, .bool true]) ∧ Below w.heap.size w w' := by
  have hA : Below w.heap.size w (w.alloc outZ) := (Below.refl _ _).alloc (Nat.le_refl _) _
  obtain ⟨A, c, w1, hconv, hb1, hbs⟩ := conv_in' (w.alloc outZ) s
  have hb := below_next hA hb1
  have HC := Lib.hid (cidFrom_ok _ _ _ _ w1 hbs (by rw [ba_len]; omega) (hu.below hb) x k hd)
  have hO : OutVar w1 w.heap.size := OutVar.below ⟨heap_alloc_new w outZ⟩ hb1
  have HOut := fun W (h : Below w.heap.size w W) => Lib.hid (cidOut_ok ⟨(cidEnc x).toArray⟩ x (cidStr_rd hd (by rw [ba_len]; omega)) W (hu.below h).toUvS)
  have hz1 : w.heap.size + 1 ≤ w1.heap.size := by have := hb1.size; simpa using this
  have CE := Lib.hid (cidVal_eq _ _ _ _ x rfl rfl rfl rfl)
  generalize (⟨(cidEnc x).toArray⟩ : ByteArray) = E at *
  generalize (x.ver : Int) = v0 at *
  generalize (x.codec : Int) = v1 at *
  generalize (x.code : Int) = v2 at *
  generalize (⟨x.dig.toArray⟩ : ByteArray) = S at *
  rw [CE.out]
  clear CE hd hu hbs hb1
  go_enter Tryd.func48, Tryd.ntmps48
  go_wp2_with fail
  refine HC.out.mono ?_
  rintro e w2 ⟨rfl, hb2⟩
  have hb' := below_next hb hb2
  have hb3 : Below w2.heap.size w2 (w2.alloc (.cells #[.string E] 80)) := (Below.refl _ _).alloc (Nat.le_refl _) _
  have hb4 := below_next hb' hb3
  have hO3 := (hO.below hb2).below hb3
  have HD := HOut _ hb4
  clear hO HC HOut hconv hb' hb3 hb hA hm
  go_wp2_with fail
  refine HD.out.mono ?_
  rintro e w4 ⟨rfl, hb5⟩
  have hO4 := hO3.below hb5
  have hb6 := below_next hb4 hb5
  obtain ⟨⟨k0, k1, k2, k3⟩, f0, f1, f2, f3⟩ := hO4.cells
  have HO := Lib.hid hO4.row
  clear hO3 hO4 HD hb4 hb5
  go_wp2
  refine bodyPost_ret (results_row_tmp2 rfl _ _ (w.heap.size) 26 #[.int .u64 v0, .int .u64 v1, .int .u64 v2, .string S] (0, 0) _ rfl (set4 HO.out _ _ _ _) Tryd.underlying26 rfl (by kernel_rfl)) rfl ?_
  exact ⟨rfl, below_set4 hb6 (Nat.le_refl _) _ _ _ _⟩

set_option maxRecDepth 100000 in
set_option maxHeartbeats 4000000 in
theorem cdReadI_no (s : ByteArray) (w : World) (hm : s.size ≤ 2147483600) (hu : CdS w) (hd : cidRd s.data.toList = none) :
    Calls Tryd.prog 48 #[.string s] w fun e w' => e = .returned (.tuple #[noCid, .int .i64 0, .bool false]) ∧ Below w.heap.size w w' := by
  have hA : Below w.heap.size w (w.alloc outZ) := (Below.refl _ _).alloc (Nat.le_refl _) _
  obtain ⟨A, c, w1, hconv, hb1, hbs⟩ := conv_in' (w.alloc outZ) s
  have hb := below_next hA hb1
  have HC := Lib.hid (cidFrom_no _ _ _ _ w1 hbs (by rw [ba_len]; omega) (hu.below hb) hd)
  have hO : OutVar w1 w.heap.size := OutVar.below ⟨heap_alloc_new w outZ⟩ hb1
  clear hd hu hbs hb1
  go_enter Tryd.func48, Tryd.ntmps48
  go_wp2_with fail
  refine HC.out.mono ?_
  rintro e w2 ⟨⟨E, t, p, rfl⟩, hb2⟩
  have hb' := below_next hb hb2
  have hO2 := hO.below hb2
  have hO3 := fun o => hO2.below ((Below.refl w2.heap.size w2).alloc (Nat.le_refl _) o)
  have k0 := fun o => (hO3 o).cells.1.1
  have k1 := fun o => (hO3 o).cells.1.2.1
  have k2 := fun o => (hO3 o).cells.1.2.2.1
  have k3 := fun o => (hO3 o).cells.1.2.2.2
  have f0 := fun o => (hO3 o).cells.2.1
  have f1 := fun o => (hO3 o).cells.2.2.1
  have f2 := fun o => (hO3 o).cells.2.2.2.1
  have f3 := fun o => (hO3 o).cells.2.2.2.2
  have HO := fun o => Lib.hid (hO3 o).row
  clear hO hO2 hO3 HC hconv hb hA hm
  go_wp2
  refine bodyPost_ret (results_row_tmp2 rfl _ _ (w.heap.size) 26 #[.int .u64 0, .int .u64 0, .int .u64 0, .string ⟨#[]⟩] (0, 0) _ rfl (set4 (HO _).out _ _ _ _) Tryd.underlying26 rfl (by kernel_rfl)) rfl ?_
  exact ⟨rfl, below_set4 (hb'.alloc hb'.size _) (Nat.le_refl _) _ _ _ _⟩

end Go.Proofs.YthfgnhgijgjggaaDoor
namespace Go.Proofs.YthfgnhgijgjggaaDoor
open Go.RowKit

/-- What spec.ReadVarint answers. -/
def UvR.spec : UvR → Value
  | .ok x m => .tuple #[.int .u64 x, .int .i64 m, .int .i64 0]
  | .under => .tuple #[.int .u64 0, .int .i64 0, .int .i64 1]
  | .over => .tuple #[.int .u64 0, .int .i64 0, .int .i64 2]
  | .notMin => .tuple #[.int .u64 0, .int .i64 0, .int .i64 3]

theorem UvR.spec_eq {Y M : Int} {x m : Nat} (h : Y = x) (h2 : M = m) : Ending.returned (.tuple #[.int .u64 Y, .int .i64 M, .int .i64 0]) = .returned (UvR.ok x m).spec := by
  rw [h, h2]; rfl

set_option maxRecDepth 100000 in
set_option maxHeartbeats 1000000 in
theorem readVarint_any (s : ByteArray) (w : World) (hm : s.size ≤ 9223372036854775807) :
    Calls Tryd.prog 57 #[.string s] w fun e w' => e = .returned (uvDec s.data.toList).spec ∧ w = w' := by
  have hlen : s.data.toList.length = s.size := by rw [Array.length_toList]; rfl
  have HL := Lib.hid hlen
  clear hlen
  go_enter Tryd.func57, Tryd.ntmps57
  go_wp2
  go_loop [5, 6] (fun x i => ∃ (k X : Nat), k ≤ s.size ∧ k ≤ 9 ∧ X < 2 ^ (7 * k) ∧ i = .int .i64 k ∧ x = .int .u64 X ∧ Hid (uvDec s.data.toList = uvGo k X (s.data.toList.drop k))) (fun _ i => s.size - (intOf i).toNat)
  case atStart => exact ⟨0, 0, by omega, by omega, by decide, rfl, rfl, Lib.hid rfl⟩
  case round =>
    obtain ⟨k, X, hk, hk10, hX, rfl, rfl, hd⟩ := hrel
    by_cases hlt : k < s.size
    · have hlt' : k < s.data.toList.length := by rw [HL.out]; exact hlt
      have hsk : s.data.toList[k] = s[k] := by simp; rfl
      have hb : s[k].toNat < 256 := UInt8.toNat_lt _
      have hstep : uvGo k X (s.data.toList.drop k) = (if (k = 8 ∧ 128 ≤ s[k].toNat) ∨ 9 ≤ k then .over
          else if s[k].toNat < 128 then (if s[k].toNat = 0 ∧ 0 < k then .notMin else .ok (X + s[k].toNat * 2 ^ (7 * k)) (k + 1))
          else uvGo (k + 1) (X + (s[k].toNat % 128) * 2 ^ (7 * k)) (s.data.toList.drop (k + 1))) := by
        rw [List.drop_eq_getElem_cons hlt', uvGo, hsk]
      clear hsk
      have HST := Lib.hid hstep
      clear hstep
      go_wp2
      · have h8 : (k : Int) = 8 := by assumption
        obtain rfl : k = 8 := by omega
        have h0 : ((s[8].toNat : Int) == 0) = true := by assumption
        have h0' : s[8].toNat = 0 := by simpa using h0
        have hf : uvDec s.data.toList = .notMin := by rw [hd.out, HST.out, if_neg (by omega), if_pos (by omega), if_pos (by omega)]
        go_ret3
        exact ⟨by rw [hf]; rfl, rfl⟩
      · have h8 : (k : Int) = 8 := by assumption
        obtain rfl : k = 8 := by omega
        have h0 : ((s[8].toNat : Int) == 0) = false := by assumption
        have h0' : ¬ s[8].toNat = 0 := by simpa using h0
        have h1 : (s[8].toNat : Int) < 128 := by assumption
        have hf : uvDec s.data.toList = .ok (X + s[8].toNat * 2 ^ (7 * 8)) (8 + 1) := by rw [hd.out, HST.out, if_neg (by omega), if_pos (by omega), if_neg (by omega)]
        have hor := uv_or_and 8 X s[8].toNat (by omega) hX hb
        rw [Nat.mod_eq_of_lt (by omega)] at hor
        go_ret3
        exact ⟨by rw [hf]; exact UvR.spec_eq hor rfl, rfl⟩
      · have h8 : (k : Int) = 8 := by assumption
        obtain rfl : k = 8 := by omega
        have h1 : (128 : Int) ≤ s[8].toNat := by assumption
        have hf : uvDec s.data.toList = .over := by rw [hd.out, HST.out, if_pos (Or.inl ⟨rfl, by omega⟩)]
        go_ret3
        exact ⟨by rw [hf]; rfl, rfl⟩
      · have h9 : (9 : Int) ≤ k := by assumption
        have hf : uvDec s.data.toList = .over := by rw [hd.out, HST.out, if_pos (Or.inr (by omega))]
        go_ret3
        exact ⟨by rw [hf]; rfl, rfl⟩
      · have h8 : ¬ (k : Int) = 8 := by assumption
        have h9 : (k : Int) < 9 := by assumption
        have h1 : (s[k].toNat : Int) < 128 := by assumption
        have h2 : 0 < k := by assumption
        have h0 : ((s[k].toNat : Int) == 0) = true := by assumption
        have h0' : s[k].toNat = 0 := by simpa using h0
        have hf : uvDec s.data.toList = .notMin := by rw [hd.out, HST.out, if_neg (by omega), if_pos (by omega), if_pos (by omega)]
        go_ret3
        exact ⟨by rw [hf]; rfl, rfl⟩
      · have h8 : ¬ (k : Int) = 8 := by assumption
        have h9 : (k : Int) < 9 := by assumption
        have h1 : (s[k].toNat : Int) < 128 := by assumption
        have h0 : ((s[k].toNat : Int) == 0) = false := by assumption
        have h0' : ¬ s[k].toNat = 0 := by simpa using h0
        have hf : uvDec s.data.toList = .ok (X + s[k].toNat * 2 ^ (7 * k)) (k + 1) := by rw [hd.out, HST.out, if_neg (by omega), if_pos (by omega), if_neg (by omega)]
        have hor := uv_or_and k X s[k].toNat (by omega) hX hb
        rw [Nat.mod_eq_of_lt (by omega)] at hor
        go_ret3
        exact ⟨by rw [hf]; exact UvR.spec_eq hor (by omega), rfl⟩
      · have h8 : ¬ (k : Int) = 8 := by assumption
        have h9 : (k : Int) < 9 := by assumption
        have h1 : (s[k].toNat : Int) < 128 := by assumption
        have h2 : ¬ 0 < k := by assumption
        have hf : uvDec s.data.toList = .ok (X + s[k].toNat * 2 ^ (7 * k)) (k + 1) := by rw [hd.out, HST.out, if_neg (by omega), if_pos (by omega), if_neg (by omega)]
        have hor := uv_or_and k X s[k].toNat (by omega) hX hb
        rw [Nat.mod_eq_of_lt (by omega)] at hor
        go_ret3
        exact ⟨by rw [hf]; exact UvR.spec_eq hor (by omega), rfl⟩
      · have h8 : ¬ (k : Int) = 8 := by assumption
        have h9 : (k : Int) < 9 := by assumption
        have h1 : (128 : Int) ≤ s[k].toNat := by assumption
        have hor := uv_or_and k X s[k].toNat (by omega) hX hb
        exact ⟨⟨k + 1, X + s[k].toNat % 128 * 2 ^ (7 * k), by omega, by omega, uv_step_lt k X _ hX (by omega), by go_num, by rw [hor],
          Lib.hid (by rw [hd.out, HST.out, if_neg (by omega), if_neg (by omega)])⟩, by simp [intOf]; omega⟩
    · have hkn : k = s.data.toList.length := by rw [HL.out]; omega
      have hf : Hid (uvDec s.data.toList = .under) := Lib.hid (by rw [hd.out, hkn, List.drop_length]; rfl)
      clear hkn
      go_wp2
      go_ret3
      exact ⟨by rw [hf.out]; rfl, rfl⟩
end Go.Proofs.YthfgnhgijgjggaaDoor
/- Contracts: internalio.ToByteReader, index.ReadCodec, impl.IxCodec. FnIxCodec's walk. -/
namespace Go.Proofs.YthfgnhgijgjggaaDoor
open Go.RowKit

set_option maxRecDepth 100000 in
set_option maxHeartbeats 1000000 in
theorem toByteReader (p : Nat) (w : World) : Calls Tryd.prog 106 #[rdV p] w fun e w' => e = .returned (rdV p) ∧ w' = w := by
  have hta : ∀ W, (Instr.typeAssert (rdV p) 165 192 true).run Tryd.prog W = .ok (.tuple #[rdV p, .bool true]) W := fun W => by kernel_rfl
  go_enter Tryd.func106, Tryd.ntmps106
  go_wp2
  go_ret
  exact ⟨rfl, rfl⟩

/-- What impl.IxCodec answers. -/
def UvR.ix : UvR → Value
  | .ok x _ => .tuple #[.int .u64 x, .bool true]
  | _ => .tuple #[.int .u64 0, .bool false]

theorem uvDec_1025 : uvDec (⟨#[129, 8]⟩ : ByteArray).data.toList = .ok 1025 2 := rfl

end Go.Proofs.YthfgnhgijgjggaaDoor
/- Contracts: (*bytes.Reader).Len, impl.kind, util.LdReadSize, util.LdRead over a reader of bytes. -/
namespace Go.Proofs.YthfgnhgijgjggaaDoor
open Go.RowKit

section
variable {P : Program}
/-- 'make([]byte, n)' of a uint64. -/
theorem make_bytes64 {t e : TypeId} (ht : P.underlying t = some (.slice e)) (hinfo : (P.info? e).map (fun i => (i.zero, i.size, i.bytes)) = some (some (.int .u8 0), 1, 1)) (w : World) (n : Nat) (hn : n ≤ 281474976710656) :
    ∃ w1, (Instr.makeSlice t (.int .u64 (n : Int)) (.int .u64 (n : Int))).run P w = .ok (.slice (some ⟨w.heap.size, 0, none⟩) n n) w1 ∧ Below w.heap.size w w1 ∧ w1.heap.size = w.heap.size + 1 ∧
      w1.heap[w.heap.size]? = some (.cells (List.replicate n (Value.int .u8 0)).toArray e (0, 0)) := by
  obtain ⟨i, hi, h2⟩ := Option.map_eq_some_iff.1 hinfo
  simp only [Prod.mk.injEq] at h2
  obtain ⟨hz, hsz, hby⟩ := h2
  have hr := run_make (P := P) w t e i _ ht hi hz .u64 .u64 (n : Int) (n : Int) (by omega) (by omega) (by rw [hby]; omega) (by omega)
  simp only [Int.toNat_natCast, hsz, Nat.mul_one] at hr
  refine ⟨_, hr, (Below.refl _ _).alloc (Nat.le_refl _) _, by simp, ?_⟩
  rw [heap_alloc_new]
  congr 2
  apply Array.ext
  · simp [size_madeCells]
  · intro j h1 h2
    have h0 : [Value.int IntKind.u8 0][j % 1]?.getD default = Value.int IntKind.u8 0 := by rw [Nat.mod_one]; rfl
    simp [madeCells, Value.cells, h0]
end

set_option maxRecDepth 100000 in
set_option maxHeartbeats 1000000 in
/-- How many bytes are left. -/
theorem rdLen (p : Nat) (v : Value) (l : List UInt8) (i : Nat) (w : World) (hr : Rdr w p v l i) :
    Calls Tryd.prog 51 #[.pointer (some ⟨p, 0, none⟩)] w fun e w' => e = .returned (.int .i64 ((l.length : Int) - i)) ∧ Keep (fun _ => False) w w' := by
  obtain ⟨⟨r, hrow⟩, ⟨⟨A0, c0, rfl, hc0, hcl⟩, hout⟩, hle, hfits⟩ := hr
  have h0 : w.cell? ⟨p, 0, none⟩ = some (.slice A0 l.length c0) := by rw [cell_of_row' (cur := [_, _, _]) hrow]; rfl
  have h1 : w.cell? ⟨p, 1, none⟩ = some (.int .i64 i) := by rw [cell_of_row' (cur := [_, _, _]) hrow]; rfl
  clear hcl hout hc0 hrow
  generalize l.length = n at *
  by_cases hi : i = n
  · subst hi
    go_enter Tryd.func51, Tryd.ntmps51
    go_wp2
    go_quiet (fail)
    go_wp2
    go_ret
    exact ⟨by rw [Int.sub_self]; rfl, keep_drewN _ _ _⟩
  · have hlt : i < n := by omega
    go_enter Tryd.func51, Tryd.ntmps51
    go_wp2
    go_quiet (fail)
    go_wp2
    go_quiet (fail)
    go_wp2
    go_ret
    exact ⟨rfl, (keep_drewN _ _ _).drewN _⟩

set_option maxRecDepth 100000 in
set_option maxHeartbeats 1000000 in
theorem kind_nil (w : World) : Calls Tryd.prog 52 #[.nilIface] w fun e w' => e = .returned (.int .u8 0) ∧ w' = w := by
  go_enter Tryd.func52, Tryd.ntmps52
  go_wp2
  go_ret
  exact ⟨rfl, rfl⟩

set_option maxRecDepth 100000 in
set_option maxHeartbeats 1000000 in
theorem kind_end (B : Nat) (w : World) (e0 : Addr) (he : ErrAt B w 0 e0) : Calls Tryd.prog 52 #[errV e0] w fun e w' => e = .returned (.int .u8 1) ∧ w' = w := by
  have heq := fun w => run_eqErr_same e0 w
  have hc := he.cell
  clear he
  go_enter Tryd.func52, Tryd.ntmps52
  go_wp2
  go_ret
  exact ⟨rfl, rfl⟩

set_option maxRecDepth 100000 in
set_option maxHeartbeats 1000000 in
theorem ldSize_ok (p : Nat) (v : Value) (l : List UInt8) (i : Nat) (w : World) (hr : Rdr w p v l i) (e0 e1 : Addr) (t2 t3 : TypeId) (p2 p3 : Value) (he : UvErrs p w e0 e1 (.iface t2 p2) (.iface t3 p3)) (x m : Nat) (hd : uvDec (l.drop i) = .ok x m) (z : Bool) (most : Nat) (hm : x ≤ most) (hz : z = true → x ≠ 0) :
    Calls Tryd.prog 86 #[rdV p, .bool z, .int .u64 most] w fun e w' => e = .returned (.tuple #[.int .u64 x, .nilIface]) ∧ Rdr w' p v l (i + m) ∧ Keep (fun k => k = p) w w' := by
  have HB := Lib.hid (readUv p v l i w hr e0 e1 t2 t3 p2 p3 he)
  rw [hd] at HB
  have HT := fun W => Lib.hid (toByteReader p W)
  clear hr he hd
  go_enter Tryd.func86, Tryd.ntmps86
  go_wp2_with fail
  refine (HT _).out.mono ?_
  rintro e w1 ⟨rfl, rfl⟩
  go_wp2_with fail
  refine HB.out.mono ?_
  unfold UvR.rd UvR.at_
  dsimp only
  rintro e w2 ⟨rfl, ⟨j, rfl, hr2⟩, hk⟩
  have HR2 := Lib.hid hr2
  clear hr2 HB HT
  cases z
  · by_cases h0 : x = 0
    · subst h0
      go_wp2
      go_ret2
      exact ⟨rfl, HR2.out, hk⟩
    · have hx : ((x : Int) == 0) = false := by simp; omega
      go_wp2
      go_ret2
      exact ⟨rfl, HR2.out, hk⟩
  · have hx : ((x : Int) == 0) = false := by have := hz rfl; simp; omega
    go_wp2
    go_ret2
    exact ⟨rfl, HR2.out, hk⟩

set_option maxRecDepth 100000 in
set_option maxHeartbeats 1000000 in
theorem ldSize_end (p : Nat) (v : Value) (l : List UInt8) (i : Nat) (w : World) (hr : Rdr w p v l i) (e0 e1 : Addr) (t2 t3 : TypeId) (p2 p3 : Value) (he : UvErrs p w e0 e1 (.iface t2 p2) (.iface t3 p3)) (m : Nat) (hd : uvDec (l.drop i) = .ok 0 m) (most : Nat) :
    Calls Tryd.prog 86 #[rdV p, .bool true, .int .u64 most] w fun e w' => e = .returned (.tuple #[.int .u64 0, errV e0]) ∧ Rdr w' p v l (i + m) ∧ Keep (fun k => k = p) w w' := by
  have HB := Lib.hid (readUv p v l i w hr e0 e1 t2 t3 p2 p3 he)
  rw [hd] at HB
  have HE := Lib.hid he
  have HT := fun W => Lib.hid (toByteReader p W)
  clear hr he hd
  go_enter Tryd.func86, Tryd.ntmps86
  go_wp2_with fail
  refine (HT _).out.mono ?_
  rintro e w1 ⟨rfl, rfl⟩
  go_wp2_with fail
  refine HB.out.mono ?_
  unfold UvR.rd UvR.at_
  dsimp only
  rintro e w2 ⟨rfl, ⟨j, rfl, hr2⟩, hk⟩
  have HR2 := Lib.hid hr2
  have hc := (HE.out.keep hk (fun k h => by omega)).eof.cell
  clear hr2 HB HT HE
  go_wp2
  go_quiet (fail)
  go_wp2
  go_ret2
  exact ⟨rfl, HR2.out.keep (keep_drewN (fun _ => False) _ _) (fun _ h => h.elim), hk.drewN _⟩
end Go.Proofs.YthfgnhgijgjggaaDoor
/- Contracts: util.LdRead over a reader of bytes, impl.LdRead. -/
namespace Go.Proofs.YthfgnhgijgjggaaDoor
open Go.RowKit

/-- A slice of the bytes l, and no error. -/
def BytesNil (l : List UInt8) (e : Ending) (w' : World) : Prop := ∃ A c, e = .returned (.tuple #[.slice A l.length c, .nilIface]) ∧ BS w' (.slice A l.length c) l

set_option maxRecDepth 100000 in
set_option maxHeartbeats 1000000 in
theorem ldRead_ok (p : Nat) (v : Value) (l : List UInt8) (i : Nat) (w : World) (hr : Rdr w p v l i) (e0 e1 : Addr) (t2 t3 : TypeId) (p2 p3 : Value) (he : UvErrs p w e0 e1 (.iface t2 p2) (.iface t3 p3)) (x m : Nat) (hd : uvDec (l.drop i) = .ok x m) (z : Bool) (most : Nat) (hm : x ≤ most) (hz : z = true → x ≠ 0) (hx : i + m + x ≤ l.length) (hl : l.length ≤ 281474976710656) :
    Calls Tryd.prog 50 #[rdV p, .bool z, .int .u64 most] w fun e w' => BytesNil ((l.drop (i + m)).take x) e w' ∧ Rdr w' p v l (i + m + x) ∧ Keep (fun k => k = p) w w' := by
  have HB := Lib.hid (ldSize_ok p v l i w hr e0 e1 t2 t3 p2 p3 he x m hd z most hm hz)
  have hpw : p < w.heap.size := by obtain ⟨r, hrow⟩ := hr.row; exact block_of_row hrow
  have hxs : x ≤ 281474976710656 := by omega
  have hlen : ((l.drop (i + m)).take x).length = x := by rw [List.length_take, List.length_drop]; omega
  have HL := Lib.hid hlen
  have HX := Lib.hid hx
  clear hr he hd hlen hz hm hx hl
  go_enter Tryd.func50, Tryd.ntmps50
  go_wp2_with fail
  refine HB.out.mono ?_
  rintro e w1 ⟨rfl, hr1, hk1⟩
  obtain ⟨w2, hmk, hb2, hs2, hrow⟩ := make_bytes64 (P := Tryd.prog) Tryd.underlying43 info_u8 w1 x hxs
  have hp1 : p < w1.heap.size := by have := hk1.size; omega
  have HF := Lib.hid (rdFull_ok p w1.heap.size x x v l (i + m) (List.replicate x (Value.int .u8 0)) 5 w2 (hr1.below hb2) hp1 hrow (by simp) HX.out)
  have HK1 := Lib.hid hk1
  have hs1 := hk1.size
  have HK2 := Lib.hid (hb2.keep (S := fun _ => False))
  clear hr1 hrow hk1 hs2
  generalize hg : w1.heap.size = g at *
  go_wp2_with fail
  refine HF.out.mono ?_
  rintro e w3 ⟨rfl, hr3, hrow3, hk3⟩
  have HBS := Lib.hid (BS.of_row hrow3.out (c := x) (by rw [HL.out]; exact Nat.le_refl _))
  have HR3 := Lib.hid hr3
  have hk : Keep (fun k => k = p) w w3 := HK1.out.trans2 (T := fun k => k = p ∨ k = g) ((HK2.out.mono (fun _ _ h => h.elim)).trans hk3) (fun k hk h => by omega)
  clear hr3 hrow3 hk3 hmk HF HB
  go_wp2
  go_ret2
  refine ⟨⟨some ⟨g, 0, none⟩, x, by rw [HL.out]; rfl, HBS.out⟩, HR3.out, hk⟩

set_option maxRecDepth 100000 in
set_option maxHeartbeats 1000000 in
theorem ldRead_end (p : Nat) (v : Value) (l : List UInt8) (i : Nat) (w : World) (hr : Rdr w p v l i) (e0 e1 : Addr) (t2 t3 : TypeId) (p2 p3 : Value) (he : UvErrs p w e0 e1 (.iface t2 p2) (.iface t3 p3)) (m : Nat) (hd : uvDec (l.drop i) = .ok 0 m) (most : Nat) :
    Calls Tryd.prog 50 #[rdV p, .bool true, .int .u64 most] w fun e w' => e = .returned (.tuple #[.slice none 0 0, errV e0]) ∧ Rdr w' p v l (i + m) ∧ Keep (fun k => k = p) w w' := by
  have HB := Lib.hid (ldSize_end p v l i w hr e0 e1 t2 t3 p2 p3 he m hd most)
  clear hr he hd
  go_enter Tryd.func50, Tryd.ntmps50
  go_wp2_with fail
  refine HB.out.mono ?_
  rintro e w1 ⟨rfl, hr1, hk1⟩
  have HR := Lib.hid hr1
  clear hr1
  go_wp2
  go_ret2
  exact ⟨rfl, HR.out, hk1⟩
end Go.Proofs.YthfgnhgijgjggaaDoor
/- Contracts: impl.LdRead. -/
namespace Go.Proofs.YthfgnhgijgjggaaDoor
open Go.RowKit

theorem Keep.below' {w w' : World} (h : Keep (fun _ => False) w w') : Below w.heap.size w w' := h.below (fun _ _ h => h) (Nat.le_refl _)

set_option maxRecDepth 100000 in
set_option maxHeartbeats 4000000 in
theorem iLdRead_ok (s : ByteArray) (hs : s.size ≤ 2147483647) (w : World) (e0 e1 : Addr) (t2 t3 : TypeId) (p2 p3 : Value) (he : UvErrs w.heap.size w e0 e1 (.iface t2 p2) (.iface t3 p3)) (x m : Nat) (hd : uvDec s.data.toList = .ok x m) (z : Bool) (most : Nat) (hm : x ≤ most) (hz : z = true → x ≠ 0) (hx : m + x ≤ s.size) (D : ByteArray) (hD : D = ⟨((s.data.toList.drop m).take x).toArray⟩) :
    Calls Tryd.prog 25 #[.string s, .bool z, .int .u64 most] w fun e w' => e = .returned (.tuple #[.string D, .int .i64 ((m : Int) + x), .int .u8 0]) ∧ Below w.heap.size w w' := by
  obtain ⟨A, c, w1, hconv, hb1, hbs⟩ := conv_in' w s
  have hl : s.data.toList.length = s.size := by rw [Array.length_toList]; rfl
  obtain ⟨l, hll⟩ : ∃ l, l = s.data.toList := ⟨_, rfl⟩
  rw [← hll] at hbs hl hd hD
  obtain ⟨N, hN⟩ : ∃ N, N = s.size := ⟨_, rfl⟩
  have HN := Lib.hid (newReader (.slice A s.size c) l w1 hbs (by omega))
  have he1 := Lib.hid ((he.keep (S := fun _ => False) hb1.keep (fun _ h => h.elim)).mono hb1.size)
  have HD := Lib.hid hd
  have HL := Lib.hid hl
  have HX := Lib.hid hx
  have HDD := Lib.hid hD
  have g1 : IntKind.i64.wrap ((s.size : Int) - ((s.size : Int) - ((m : Int) + x))) = (m : Int) + x := by rw [IntWalk.i64_in _ (by omega)]; omega
  clear hbs he hl hll hd hN hx hD
  go_enter Tryd.func25, Tryd.ntmps25
  go_wp2_with fail
  refine HN.out.mono ?_
  rintro e w2 ⟨rfl, hr, hs2, hb2⟩
  have b2 : Below w.heap.size w w2 := below_next hb1 hb2
  have he2 := he1.out.keep (S := fun _ => False) hb2.keep (fun _ h => h.elim)
  have HC := Lib.hid (ldRead_ok w1.heap.size _ l 0 w2 hr e0 e1 t2 t3 p2 p3 he2 x m HD.out z most hm hz (by have := HX.out; have := HL.out; omega) (by have := HL.out; omega))
  rw [Nat.zero_add] at HC
  have hw1 := hb1.size
  clear hr he2 hb2 HN hb1 hconv
  generalize w1.heap.size = q at *
  go_wp2_with fail
  refine HC.out.mono ?_
  rintro e w3 ⟨⟨A3, c3, rfl, hbs3⟩, hr3, hk3⟩
  have b3 : Below w.heap.size w w3 := b2.trans (hk3.below (fun k hk e => by omega) (by omega))
  have hcv : ∀ W, Below w3.heap.size w3 W → (convert 43 9 (.slice A3 ((l.drop m).take x).length c3)).run Tryd.prog W = .ok (.string D) W := fun W hW => by rw [HDD.out]; exact (hbs3.below hW).str (dst := 9) Tryd.underlying43 Tryd.underlying5 Tryd.underlying9
  have HLen := Lib.hid (rdLen q _ l (m + x) w3.drew hr3.drew)
  rw [HL.out] at HLen
  have h0 : Below w3.heap.size w3 w3.drew := below_drewN _ _ 1
  have hk0 := hcv _ h0
  generalize ((l.drop m).take x).length = n3 at *
  clear hbs3 hr3 hk3 HC HDD
  go_wp2_with fail
  go_region_with (first
    | (go_at_call 51; (with_reducible refine HLen.out.mono ?_); rintro e w4 ⟨rfl, hk4⟩; have h4 := below_next h0 hk4.below'; have hk5 := hcv _ h4)
    | (go_at_call 52; (with_reducible refine (kind_nil _).mono ?_); rintro e w5 ⟨rfl, rfl⟩))
  all_goals
    have b4 := below_next b3 h4
    go_wp2
    go_ret3
    exact ⟨by first | rfl | (rw [← g1]; rfl), b4⟩

set_option maxRecDepth 100000 in
set_option maxHeartbeats 4000000 in
theorem iLdRead_end (s : ByteArray) (hs : s.size ≤ 2147483647) (w : World) (e0 e1 : Addr) (t2 t3 : TypeId) (p2 p3 : Value) (he : UvErrs w.heap.size w e0 e1 (.iface t2 p2) (.iface t3 p3)) (m : Nat) (hd : uvDec s.data.toList = .ok 0 m) (most : Nat) :
    Calls Tryd.prog 25 #[.string s, .bool true, .int .u64 most] w fun e w' => e = .returned (.tuple #[.string ⟨#[]⟩, .int .i64 m, .int .u8 1]) ∧ Below w.heap.size w w' := by
  obtain ⟨A, c, w1, hconv, hb1, hbs⟩ := conv_in' w s
  have hl : s.data.toList.length = s.size := by rw [Array.length_toList]; rfl
  have hmz : m ≤ s.size := by have := (uvDec_ok hd).2.1; omega
  obtain ⟨l, hll⟩ : ∃ l, l = s.data.toList := ⟨_, rfl⟩
  rw [← hll] at hbs hl hd
  have HN := Lib.hid (newReader (.slice A s.size c) l w1 hbs (by omega))
  have he1 := Lib.hid ((he.keep (S := fun _ => False) hb1.keep (fun _ h => h.elim)).mono hb1.size)
  have HD := Lib.hid hd
  have HL := Lib.hid hl
  have g1 : IntKind.i64.wrap ((s.size : Int) - ((s.size : Int) - (m : Int))) = (m : Int) := by rw [IntWalk.i64_in _ (by omega)]; omega
  clear hbs he hl hll hd
  go_enter Tryd.func25, Tryd.ntmps25
  go_wp2_with fail
  refine HN.out.mono ?_
  rintro e w2 ⟨rfl, hr, hs2, hb2⟩
  have b2 : Below w.heap.size w w2 := below_next hb1 hb2
  have he2 := he1.out.keep (S := fun _ => False) hb2.keep (fun _ h => h.elim)
  have HC := Lib.hid (ldRead_end w1.heap.size _ l 0 w2 hr e0 e1 t2 t3 p2 p3 he2 m HD.out most)
  rw [Nat.zero_add] at HC
  have HE2 := Lib.hid he2
  have hw1 := hb1.size
  clear hr he2 hb2 HN hb1 hconv
  generalize w1.heap.size = q at *
  go_wp2_with fail
  refine HC.out.mono ?_
  rintro e w3 ⟨rfl, hr3, hk3⟩
  have b3 : Below w.heap.size w w3 := b2.trans (hk3.below (fun k hk e => by omega) (by omega))
  have HE3 := HE2.out.keep hk3 (fun k h => by omega)
  have hcv : ∀ W, (convert 43 9 (.slice none 0 0)).run Tryd.prog W = .ok (.string ⟨#[]⟩) W := fun W => (BS.nil W 0).str (dst := 9) Tryd.underlying43 Tryd.underlying5 Tryd.underlying9
  have HLen := Lib.hid (rdLen q _ l m w3.drew hr3.drew)
  rw [HL.out] at HLen
  have h0 : Below w3.heap.size w3 w3.drew := below_drewN _ _ 1
  have HK := fun W (h : Keep (fun _ => False) w3.drew W) => Lib.hid (kind_end _ W e0 (((HE3.keep (S := fun _ => False) (keep_drew _ w3) (fun _ h => h.elim)).keep (S := fun _ => False) h (fun _ h => h.elim)).eof))
  clear hr3 hk3 HC HE2 HE3
  go_wp2_with fail
  go_region_with (first
    | (go_at_call 51; (with_reducible refine HLen.out.mono ?_); rintro e w4 ⟨rfl, hk4⟩; have h4 := below_next h0 hk4.below'; have HK4 := HK _ hk4)
    | (go_at_call 52; (with_reducible refine HK4.out.mono ?_); rintro e w5 ⟨rfl, rfl⟩))
  all_goals
    have b4 := below_next b3 h4
    clear HK
    go_wp2
    go_ret3
    exact ⟨by first | rfl | (rw [← g1]; rfl), b4⟩
end Go.Proofs.YthfgnhgijgjggaaDoor
/- Contracts: impl.LdWrite, laws.ldOne. -/
namespace Go.Proofs.YthfgnhgijgjggaaDoor
open Go.RowKit

theorem BufRow.is {w : World} {N b : Nat} {bs : List Value} (h : BufRow w N b bs) : Lib.IsBuffer 108 5 0 b bs w := by
  obtain ⟨g, cap, cur, lr, hbk, _, hgb, hg, hlc, hcm, hcs, htk⟩ := h
  exact ⟨Nat.zero_le _, _, _, hbk, ⟨by rw [Nat.mul_one], .inr ⟨g, cap, cur, rfl, Nat.zero_le _, hg, by omega, hcm, by omega, by rw [Nat.mul_one]; exact htk⟩⟩, by simp [Value.ownBlock]; exact hgb⟩

set_option maxRecDepth 100000 in
set_option maxHeartbeats 4000000 in
theorem iLdWrite (v : Value) (ss : List ByteArray) (w : World) (hs : SS w v ss) (hss : ∀ s ∈ ss, s.size ≤ 16384) (hn : ss.length ≤ 50) :
    Calls Tryd.prog 29 #[v] w fun e w' => e = .returned (.string ⟨(Lib.uvarint (jn ss).length ++ jn ss).toArray⟩) ∧ Below w.heap.size w w' := by
  have hA : Below w.heap.size w (w.alloc (.cells #[.slice none 0 0, .int .i64 0, .int .i8 0] 108)) := (Below.refl _ _).alloc (Nat.le_refl _) _
  have hrow := heap_alloc_new w (.cells #[.slice none 0 0, .int .i64 0, .int .i8 0] 108)
  have hsz : (w.alloc (.cells #[.slice none 0 0, .int .i64 0, .int .i8 0] 108)).heap.size = w.heap.size + 1 := by simp
  obtain ⟨w1, hw1⟩ : ∃ w1, w1 = w.alloc (.cells #[.slice none 0 0, .int .i64 0, .int .i8 0] 108) := ⟨_, rfl⟩
  rw [← hw1] at hA hrow hsz
  have HB := Lib.hid (bytesOf_any v ss w1 (hs.below hA) (by omega))
  have HR := Lib.hid hrow
  have HA := Lib.hid hA
  have HSZ := Lib.hid hsz
  have HS := Lib.hid hss
  have HN := Lib.hid hn
  rw [hw1] at HB
  clear hs hrow hA hsz hss hn
  go_enter Tryd.func29, Tryd.ntmps29
  go_wp2_with fail
  refine HB.out.mono ?_
  rw [← hw1]
  clear hw1
  rintro e w2 ⟨⟨v', rfl, hp⟩, hb2⟩
  have hnil : BufNil w2 w.heap.size := ⟨0, row_below hb2 (block_of_row HR.out) HR.out⟩
  have HL := Lib.hid (ldWrite_any w.heap.size w1.heap.size v' ss w2 hnil hp (by rw [HSZ.out]; omega) HS.out HN.out)
  have b2 := Lib.hid (below_next HA.out hb2)
  clear hp hb2 hnil HB
  go_wp2_with fail
  refine HL.out.mono ?_
  rintro e w3 ⟨rfl, ⟨N, hN, hbr⟩, hk⟩
  have HST := Lib.hid (Tryd.Buffer_String 0 w.heap.size _ w3 hbr.is)
  have b3 : Below w.heap.size w w3 := b2.out.trans (hk.below (fun k hk e => by omega) b2.out.size)
  clear hbr hk
  go_wp2_with fail
  refine HST.out.mono ?_
  rintro e w4 ⟨rfl, q, rfl⟩
  go_wp2
  go_ret
  exact ⟨rfl, b3.drewN _⟩

theorem uvDec_3abc : uvDec (⟨#[3, 97, 98, 99]⟩ : ByteArray).data.toList = .ok 3 1 := rfl

set_option maxRecDepth 100000 in
set_option maxHeartbeats 4000000 in
theorem ldOne_any (w : World) (e0 e1 : Addr) (t2 t3 : TypeId) (p2 p3 : Value) (he : UvErrs w.heap.size w e0 e1 (.iface t2 p2) (.iface t3 p3)) :
    Calls Tryd.prog 26 #[] w fun e w' => e = .returned (.bool true) ∧ Below w.heap.size w w' := by
  have HRD := Lib.hid (iLdRead_ok ⟨#[3, 97, 98, 99]⟩ (by decide) w e0 e1 t2 t3 p2 p3 he 3 1 uvDec_3abc false 100 (by omega) (fun h => by cases h) (by decide) ⟨#[97, 98, 99]⟩ rfl)
  have HW := fun (W : World) (v : Value) (h : SS W v [⟨#[97]⟩, ⟨#[98, 99]⟩]) => Lib.hid (iLdWrite v [⟨#[97]⟩, ⟨#[98, 99]⟩] W h (by decide) (by decide))
  have hout : (⟨(Lib.uvarint (jn [⟨#[97]⟩, ⟨#[98, 99]⟩]).length ++ jn [⟨#[97]⟩, ⟨#[98, 99]⟩]).toArray⟩ : ByteArray) = ⟨#[3, 97, 98, 99]⟩ := by
    rw [show (jn [⟨#[97]⟩, ⟨#[98, 99]⟩]) = [97, 98, 99] from rfl]
    rw [Lib.uvarint_small (by decide)]
    rfl
  rw [hout] at HW
  clear hout he
  go_enter Tryd.func26, Tryd.ntmps26
  go_wp2_with fail
  refine HRD.out.mono ?_
  rintro e w1 ⟨rfl, hb1⟩
  have HB1 := Lib.hid hb1
  clear hb1
  go_wp2_with fail
  have hrow := heap_alloc_new w1 (.cells #[.string ⟨#[97]⟩, .string ⟨#[98, 99]⟩] 9)
  have hss : SS (w1.alloc (.cells #[.string ⟨#[97]⟩, .string ⟨#[98, 99]⟩] 9)) (.slice (some ⟨w1.heap.size, 0, none⟩) 2 2) [⟨#[97]⟩, ⟨#[98, 99]⟩] :=
    ⟨_, 2, rfl, by decide, fun _ => ⟨_, 0, rfl, fun j s hj => by
      match j, hj with
      | 0, hj => obtain rfl : (⟨#[97]⟩ : ByteArray) = s := by simpa using hj
                 exact cell_of_row' (cur := [_, _]) hrow 0
      | 1, hj => obtain rfl : (⟨#[98, 99]⟩ : ByteArray) = s := by simpa using hj
                 exact cell_of_row' (cur := [_, _]) hrow 1⟩⟩
  have hal : Below w.heap.size w (w1.alloc (.cells #[.string ⟨#[97]⟩, .string ⟨#[98, 99]⟩] 9)) := HB1.out.alloc HB1.out.size _
  refine (HW _ _ hss).out.mono ?_
  rintro e w2 ⟨rfl, hb2⟩
  have b2 := below_next hal hb2
  clear hrow hss hal hb2
  go_wp2
  go_ret
  exact ⟨rfl, b2⟩
end Go.Proofs.YthfgnhgijgjggaaDoor
/- Contracts of package spec: Varint, MultihashBytes, CidBytes, Tidy. -/
namespace Go.Proofs.YthfgnhgijgjggaaDoor
open Go.RowKit

theorem or128 (m : Nat) : bits .or .u8 ((m : Int) % 256) 128 = (((m % 128 + 128).toUInt8.toNat : Nat) : Int) := by
  rw [Lib.u8_or128_any _ (by omega) (by omega), Lib.toUInt8_toNat (by omega)]
  omega

/-- A row of the call's own reads as its bytes. -/
theorem bs_of_own {w : World} {B : Nat} {e : TypeId} {v : Value} {l : List UInt8} (h : w.ownsRow B e 1 v l.length (Lib.byteCells l)) : ∃ A c, v = .slice A l.length c ∧ BS w (.slice A l.length c) l := by
  rcases h.2 with ⟨rfl, h0⟩ | ⟨g, cap, cur, rfl, _, hg, hnc, _, hcs, htake⟩
  · have hl : l = [] := List.eq_nil_of_length_eq_zero h0
    subst hl
    exact ⟨none, 0, rfl, BS.nil _ _⟩
  · refine ⟨_, cap, rfl, BS.of_cells hnc fun j hj => ?_⟩
    rw [Nat.zero_add]
    have hc := cell_of_row w g j cur e (0, 0) hg
    rw [hc, Nat.mul_one] at *
    have h2 := congrArg (fun x => x[j]?) htake
    simp only [List.getElem?_take, Lib.byteCells, List.getElem?_map, List.getElem?_eq_getElem hj, Option.map_some] at h2
    rw [if_pos hj] at h2
    simpa using h2

set_option maxRecDepth 100000 in
set_option maxHeartbeats 4000000 in
theorem spVarint (n : Nat) (hn : n < 18446744073709551616) (w : World) :
    Calls Tryd.prog 23 #[.int .u64 n] w fun e w' => HasBytes (Lib.uvarint n) e w' ∧ Below w.heap.size w w' := by
  obtain ⟨i0, hi, hz0, hz1, hz2⟩ := info_u8p
  have hlen := Lib.uvarint_length64 hn
  have HL := Lib.hid hlen
  clear hlen
  go_enter Tryd.func23, Tryd.ntmps23
  go_wp2
  go_loopw [0, 3] (fun x v wr => ∃ (done : List UInt8) (m : Nat), x = .int .u64 m ∧ m < 18446744073709551616 ∧ Hid (Lib.uvarint n = done ++ Lib.uvarint m) ∧ done.length ≤ 10 ∧ wr.ownsRow w.heap.size 5 1 v done.length (Lib.byteCells done) ∧ Below w.heap.size w wr) (fun x _ _ => (intOf x).toNat)
  case atStart => exact ⟨[], n, rfl, hn, Lib.hid rfl, by simp, ⟨by simp [Lib.byteCells], .inl ⟨rfl, rfl⟩⟩, Below.refl _ _⟩
  case round =>
    obtain ⟨done, m, rfl, hm, hd, hdl, hown, hb⟩ := hrel
    have hl := congrArg List.length hd.out
    rw [List.length_append] at hl
    have hpos := Lib.uvarint_pos m
    have hd9 : done.length ≤ 9 := by have := HL.out; omega
    clear hl hpos
    have hBw := hb.size
    by_cases hge : 128 ≤ m
    · obtain ⟨c, hc⟩ : ∃ c : UInt8, c = (m % 128 + 128).toUInt8 := ⟨_, rfl⟩
      have hor : bits .or .u8 ((m : Int) % 256) 128 = ((c.toNat : Nat) : Int) := by rw [hc]; exact or128 m
      have hge' : (128 : Int) ≤ m := by omega
      have HC := Lib.hid hc
      clear hc
      go_wp2_with (at_builtin; refine wpList_append_own _ rfl _ _ 43 rfl w.heap.size 5 i0 (.int .u8 0) 1 1 Tryd.underlying43 hi hz0 hz1 hz2 rfl (by decide) _ _ _ rfl (hown.alloc _) ⟨wr.heap.size, 0, none⟩ 1 1 [.int .u8 (c.toNat : Int)] rfl rfl ?c1 ?c2 ?c3 ?c4 ?c5 ?_)
      case c1 =>
        intro j u hj
        match j, hj with
        | 0, hj => simp at hj; subst hj; simp [Addr.add]
      case c2 => intro u hu; simp at hu; subst hu; rfl
      case c3 => unfold maxLen; omega
      case c4 => omega
      case c5 => simp; omega
      intro v' w2 hown' hgrow _
      have hb2 : Below w.heap.size w w2 := (hb.alloc hBw _).grown hgrow (by simp; omega) (fun k hk => (hown.lt k hk).1)
      clear hown hgrow hor
      go_wp2
      go_roundw
      case rel =>
        refine ⟨done ++ [c], m / 128, by go_num, by omega, Lib.hid ?_, by simp; omega, ?_, hb2⟩
        · rw [hd.out, Lib.uvarint_big hge, HC.out]; simp
        · rw [Lib.byteCells_append, List.length_append]; exact hown'
      case measure => simp [intOf]; omega
    · have hge' : (m : Int) < 128 := by omega
      go_wp2_with (at_builtin; refine wpList_append_own _ rfl _ _ 43 rfl w.heap.size 5 i0 (.int .u8 0) 1 1 Tryd.underlying43 hi hz0 hz1 hz2 rfl (by decide) _ _ _ rfl (hown.alloc _) ⟨wr.heap.size, 0, none⟩ 1 1 [.int .u8 (m : Int)] rfl rfl ?d1 ?d2 ?d3 ?d4 ?d5 ?_)
      case d1 =>
        intro j u hj
        match j, hj with
        | 0, hj => simp at hj; subst hj; simp [Addr.add]
      case d2 => intro u hu; simp at hu; subst hu; rfl
      case d3 => unfold maxLen; omega
      case d4 => omega
      case d5 => simp; omega
      intro v' w2 hown' hgrow _
      have hb2 : Below w.heap.size w w2 := (hb.alloc hBw _).grown hgrow (by simp; omega) (fun k hk => (hown.lt k hk).1)
      clear hown hgrow
      have hown2 : w2.ownsRow w.heap.size 5 1 v' (Lib.uvarint n).length (Lib.byteCells (Lib.uvarint n)) := by
        rw [hd.out, Lib.uvarint_small (by omega), Lib.byteCells_append, List.length_append]
        have e : Lib.byteCells [m.toUInt8] = [Value.int .u8 (m : Int)] := by
          simp only [Lib.byteCells, List.map_cons, List.map_nil, Lib.toUInt8_toNat (show m < 256 by omega)]
        rw [e]
        exact hown'
      have HO := Lib.hid hown2
      clear hown' hown2
      go_wp2
      go_ret
      obtain ⟨A, c', rfl, hbs⟩ := bs_of_own HO.out
      exact ⟨⟨A, _, c', rfl, hbs⟩, hb2⟩
end Go.Proofs.YthfgnhgijgjggaaDoor
/- Contracts: laws.zzFits3, laws.seJoined, util.LdSize, impl.LdSize. -/
namespace Go.Proofs.YthfgnhgijgjggaaDoor
open Go.RowKit

def AnyBool (e : Ending) : Prop := ∃ b : Bool, e = .returned (.bool b)
/-- At most 50 strings of at most 2^14 bytes. -/
def fewS (ss : List ByteArray) : Prop := ss.length ≤ 50 ∧ ∀ s ∈ ss, s.size ≤ 16384

set_option maxRecDepth 100000 in
set_option maxHeartbeats 4000000 in
theorem fits3_any (v : Value) (ss : List ByteArray) (w : World) (hs : SS w v ss) (hn : ss.length ≤ 9223372036854775807) :
    Calls Tryd.prog 27 #[v] w fun e w' => AnyBool e ∧ w = w' := by
  obtain ⟨A, c, rfl, hc, hcells⟩ := hs
  obtain ⟨n, hN⟩ : ∃ n, n = ss.length := ⟨_, rfl⟩
  rw [← hN] at hn
  have HC := Lib.hid hcells
  have HN := Lib.hid hN
  rw [← hN]
  clear hcells hc hN
  by_cases hbig : 2147483647 < n
  · go_enter Tryd.func27, Tryd.ntmps27
    go_wp2
    go_ret
    exact ⟨⟨_, rfl⟩, rfl⟩
  · go_enter Tryd.func27, Tryd.ntmps27
    go_wp2
    go_loop [10] (fun i => ∃ (k : Nat), k ≤ n ∧ i = .int .i64 k) (fun i => n - (intOf i).toNat)
    case atStart => exact ⟨0, Nat.zero_le _, rfl⟩
    case round =>
      obtain ⟨k, hk, rfl⟩ := hrel
      by_cases hlt : k < n
      · obtain ⟨b, o, rfl, hcl⟩ := HC.out (by rw [← HN.out]; omega)
        have hks : k < ss.length := by rw [← HN.out]; exact hlt
        obtain ⟨s, hsv⟩ : ∃ s, ss[k]? = some s := ⟨_, List.getElem?_eq_getElem hks⟩
        have hc0 := hcl k s hsv
        clear hcl hsv hks
        by_cases hz : 2147483647 < s.size
        · go_wp2
          go_ret
          exact ⟨⟨_, rfl⟩, rfl⟩
        · go_wp2
          go_round
          case rel => exact ⟨k + 1, by omega, by go_num⟩
          case measure => simp [intOf]; omega
      · obtain rfl : k = n := by omega
        go_wp2
        go_ret
        exact ⟨⟨_, rfl⟩, rfl⟩

/-- What seJoined tells. -/
def SeJ (ss : List ByteArray) (e : Ending) : Prop :=
  (fewS ss ∧ e = .returned (.tuple #[.string ⟨(jn ss).toArray⟩, .bool true])) ∨ (¬ fewS ss ∧ e = .returned (.tuple #[.string ⟨#[]⟩, .bool false]))

set_option maxRecDepth 100000 in
set_option maxHeartbeats 4000000 in
theorem seJoined_any (v : Value) (ss : List ByteArray) (w : World) (hs : SS w v ss) (hn : ss.length ≤ 9223372036854775807) :
    Calls Tryd.prog 28 #[v] w fun e w' => SeJ ss e ∧ Below w.heap.size w w' := by
  obtain ⟨i0, hi, hz0, hz1, hz2⟩ := info_u8p
  obtain ⟨A, c, rfl, hc, hcells⟩ := hs
  obtain ⟨n, hN⟩ : ∃ n, n = ss.length := ⟨_, rfl⟩
  rw [← hN] at hn
  have HC := Lib.hid hcells
  have HN := Lib.hid hN
  rw [← hN]
  clear hcells hc hN
  by_cases hbig : 50 < n
  · go_enter Tryd.func28, Tryd.ntmps28
    go_wp2
    go_ret2
    exact ⟨Or.inr ⟨fun h => by have := h.1; rw [← HN.out] at this; omega, rfl⟩, Below.refl _ _⟩
  · go_enter Tryd.func28, Tryd.ntmps28
    go_wp2
    go_loopw [4, 5] (fun v i wr => ∃ (k : Nat), k ≤ n ∧ i = .int .i64 k ∧ Hid (∀ s ∈ ss.take k, s.size ≤ 16384) ∧ wr.ownsRow w.heap.size 5 1 v (jn (ss.take k)).length (Lib.byteCells (jn (ss.take k))) ∧ Below w.heap.size w wr) (fun _ i _ => n - (intOf i).toNat)
    case atStart => exact ⟨0, Nat.zero_le _, rfl, Lib.hid (by simp), ⟨rfl, .inl ⟨rfl, rfl⟩⟩, Below.refl _ _⟩
    case round =>
      obtain ⟨k, hk, rfl, hsm, hown, hb⟩ := hrel
      have hBw := hb.size
      have hl := jn_len (ss.take k) 16384 hsm.out
      have hlk : (ss.take k).length ≤ 50 := by rw [List.length_take]; omega
      have hl2 : (jn (ss.take k)).length ≤ 819200 := by have := Nat.mul_le_mul_right 16384 hlk; omega
      clear hl hlk
      by_cases hlt : k < n
      · obtain ⟨b, o, rfl, hcl⟩ := HC.out (by rw [← HN.out]; omega)
        have hks : k < ss.length := by rw [← HN.out]; exact hlt
        obtain ⟨s, hsv⟩ : ∃ s, ss[k]? = some s := ⟨_, List.getElem?_eq_getElem hks⟩
        have hc0 := below_cell hb (hcl k s hsv)
        have HSV := Lib.hid hsv
        clear hcl hsv hks
        by_cases hz : 16384 < s.size
        · have HO := Lib.hid hown
          clear hown
          go_wp2
          go_ret2
          exact ⟨Or.inr ⟨fun h => by have := h.2 s (List.mem_of_getElem? HSV.out); omega, rfl⟩, hb⟩
        · have HE := Lib.hid (jn_take ss k s HSV.out)
          go_wp2_with (at_builtin; refine Lib.wpList_append_own_string _ rfl _ _ 43 9 rfl w.heap.size 5 i0 Tryd.underlying43 Tryd.underlying9 hi hz0 hz1 hz2 _ _ _ rfl hown s rfl ?d3 ?d4 ?d5 ?_)
          case d3 => unfold maxLen; omega
          case d4 => omega
          case d5 => omega
          intro v' w2 hown' hgrow _
          have hb2 : Below w.heap.size w w2 := hb.grown hgrow hBw (fun k hk => (hown.lt k hk).1)
          have HO := Lib.hid hown'
          have hsm2 : Hid (∀ x ∈ ss.take (k + 1), x.size ≤ 16384) := Lib.hid (fun x hx => by
            rw [List.take_add_one, HSV.out] at hx
            rcases List.mem_append.1 hx with h | h
            · exact hsm.out x h
            · obtain rfl : x = s := by simpa using h
              omega)
          clear hown hgrow hown'
          go_wp2
          go_roundw
          case rel =>
            refine ⟨k + 1, by omega, by go_num, hsm2, ?_, hb2⟩
            rw [HE.out, List.length_append, ba_len, Lib.byteCells_append]
            exact HO.out
          case measure => simp [intOf]; omega
      · obtain rfl : k = n := by omega
        have hall : ss.take k = ss := List.take_of_length_le (by rw [HN.out]; exact Nat.le_refl _)
        rw [hall] at hown hl2 hsm
        obtain ⟨A', c', rfl, hbs⟩ := bs_of_own hown
        have hcv := hbs.str (P := Tryd.prog) (dst := 9) Tryd.underlying43 Tryd.underlying5 Tryd.underlying9
        clear hown hbs hall
        generalize (jn ss).length = N2 at *
        go_wp2
        go_ret2
        exact ⟨Or.inl ⟨⟨by rw [← HN.out]; omega, hsm.out⟩, rfl⟩, hb⟩
end Go.Proofs.YthfgnhgijgjggaaDoor
/- '==' of two structs, field by field, as one Bool. No program in sight. -/
namespace Go.Proofs.YthfgnhgijgjggaaDoor
section
variable {P : Program} {d : Nat} {xs ys : Array Value} {f : Field} {fs : List Field} {a b : Value} {r s : Bool} {w : World}
theorem fields_last (hn : f.name ≠ "_") (ha : (part f.type xs f.offset).run P w = .ok a w) (hb : (part f.type ys f.offset).run P w = .ok b w) (he : (Op.equalIn d f.type a b).run P w = .ok r w) : (Op.eqFields d xs ys [f]).run P w = .ok r w := by
  simp only [Op.eqFields, if_pos hn, Sem.run_bind, ha, hb, he, Result.andThen_ok]
  cases r <;> simp
theorem fields_more (hn : f.name ≠ "_") (ha : (part f.type xs f.offset).run P w = .ok a w) (hb : (part f.type ys f.offset).run P w = .ok b w) (he : (Op.equalIn d f.type a b).run P w = .ok r w) (hr : (Op.eqFields d xs ys fs).run P w = .ok s w) : (Op.eqFields d xs ys (f :: fs)).run P w = .ok (r && s) w := by
  rw [Op.eqFields]
  simp only [if_pos hn, Sem.run_bind, ha, hb, he, Result.andThen_ok]
  cases r with
  | false => simp
  | true => simpa using hr
theorem structs_equal {t : TypeId} {fs : Array Field} (hu : P.underlying t = some (.struct fs)) (hp : P.stoodInHeld t = false) (h : (Op.eqFields d xs ys fs.toList).run P w = .ok r w) : (Op.equalIn (d + 1) t (.agg xs) (.agg ys)).run P w = .ok r w := by
  have hf : P.fieldsOf t = fs := by simp [Program.fieldsOf, hu]
  rw [run_equalIn_struct (P := P) w d t xs ys (by rw [hf]; exact hu) hp, hf]
  exact h
end
end Go.Proofs.YthfgnhgijgjggaaDoor
/- Contracts: spec.Tidy, laws.zzFits1, laws.cdGood, laws.cdOne; '==' of two identifiers. -/
namespace Go.Proofs.YthfgnhgijgjggaaDoor
open Go.RowKit

/-- '==' of two identifiers, field by field. -/
theorem run_eqCid (x0 x1 x2 y0 y1 y2 : Int) (s t : ByteArray) (w : World) (d : Nat) :
    (Op.equalIn (d + 2) 26 (.agg #[.int .u64 x0, .int .u64 x1, .int .u64 x2, .string s]) (.agg #[.int .u64 y0, .int .u64 y1, .int .u64 y2, .string t])).run Tryd.prog w = .ok (x0 == y0 && (x1 == y1 && (x2 == y2 && (s.toList == t.toList)))) w := by
  refine structs_equal Tryd.underlying26 (by kernel_rfl) ?_
  refine fields_more (by decide) (by go_simp; rfl) (by go_simp; rfl) (by go_simp) ?_
  refine fields_more (by decide) (by go_simp; rfl) (by go_simp; rfl) (by go_simp) ?_
  refine fields_more (by decide) (by go_simp; rfl) (by go_simp; rfl) (by go_simp) ?_
  refine fields_last (by decide) (by go_simp; rfl) (by go_simp; rfl) ?_
  go_simp

theorem ba_toList (l : List UInt8) : (⟨l.toArray⟩ : ByteArray).toList = l := by rw [ByteArray.toList_eq]

theorem eqCid_same (x : CidD) (w : World) : (binOp .eql 26 (cidVal x) (cidVal x)).run Tryd.prog w = .ok (.bool true) w := by
  unfold cidVal
  simp only [binOp]
  simp [Op.equal, Op.maxDepth, run_eqCid _ _ _ _ _ _ _ _ w 9998]

theorem eqCid_other (x y : CidD) (h : x ≠ y) (w : World) : (binOp .eql 26 (cidVal x) (cidVal y)).run Tryd.prog w = .ok (.bool false) w := by
  have hb : ((x.ver : Int) == y.ver && ((x.codec : Int) == y.codec && ((x.code : Int) == y.code && (((⟨x.dig.toArray⟩ : ByteArray)).toList == (⟨y.dig.toArray⟩ : ByteArray).toList)))) = false := by
    rw [Bool.eq_false_iff]
    intro e
    simp only [Bool.and_eq_true, beq_iff_eq, ba_toList] at e
    obtain ⟨e0, e1, e2, e3⟩ := e
    apply h
    obtain ⟨a, b, c, d⟩ := x
    obtain ⟨a', b', c', d'⟩ := y
    simp only at e0 e1 e2 e3
    subst e3
    obtain rfl : a = a' := by omega
    obtain rfl : b = b' := by omega
    obtain rfl : c = c' := by omega
    rfl
  unfold cidVal
  simp only [binOp]
  simp only [Op.equal, Op.maxDepth, run_eqCid _ _ _ _ _ _ _ _ w 9998, Sem.run_bind, Result.andThen_ok, hb]
  rfl

theorem neqCid_same (x : CidD) (w : World) : (binOp .neq 26 (cidVal x) (cidVal x)).run Tryd.prog w = .ok (.bool false) w := by
  unfold cidVal
  simp only [binOp]
  simp [Op.equal, Op.maxDepth, run_eqCid _ _ _ _ _ _ _ _ w 9998]
theorem neqCid_other (x y : CidD) (h : x ≠ y) (w : World) : (binOp .neq 26 (cidVal x) (cidVal y)).run Tryd.prog w = .ok (.bool true) w := by
  have hb := eqCid_other x y h w
  unfold cidVal at hb ⊢
  simp only [binOp] at hb ⊢
  simp only [Op.equal, Op.maxDepth, run_eqCid _ _ _ _ _ _ _ _ w 9998, Sem.run_bind, Result.andThen_ok] at hb ⊢
  simp only [Sem.run_pure, Result.ok.injEq, Value.bool.injEq, and_true] at hb
  rw [hb]
  rfl

set_option maxRecDepth 100000 in
set_option maxHeartbeats 2000000 in
theorem spTidy_yes (x : CidD) (d : ByteArray) (hx : x.dig = d.data.toList) (ht : x.tidy) (w : World) :
    Calls Tryd.prog 35 #[.agg #[.int .u64 x.ver, .int .u64 x.codec, .int .u64 x.code, .string d]] w fun e w' => e = .returned (.bool true) ∧ Below w.heap.size w w' := by
  obtain ⟨v, codec, code, dg⟩ := x
  simp only at hx
  subst hx
  rcases ht with ⟨h0, h1, h2, h3⟩ | ⟨h0, h1, h2⟩
  · simp only [ba_len] at h0 h1 h2 h3
    subst h0 h1 h2
    have h3' : ((d.size : Int) == 32) = true := by rw [h3]; rfl
    clear h3
    go_enter Tryd.func35, Tryd.ntmps35
    go_wp2
    go_ret
    exact ⟨rfl, (Below.refl _ _).alloc (Nat.le_refl _) _⟩
  · simp only at h0 h1 h2
    subst h0
    have h1' : (codec : Int) < 9223372036854775808 := by omega
    have h2' : (code : Int) < 9223372036854775808 := by omega
    generalize (codec : Int) = c1 at *
    generalize (code : Int) = c2 at *
    clear h1 h2
    go_enter Tryd.func35, Tryd.ntmps35
    go_wp2
    go_ret
    exact ⟨rfl, (Below.refl _ _).alloc (Nat.le_refl _) _⟩

set_option maxRecDepth 100000 in
set_option maxHeartbeats 400000 in
theorem spTidy_a (c0 c1 c2 : Int) (d : ByteArray) (h0 : (c0 == 0) = true) (h1 : (c1 == 112) = false) (w : World) :
    Calls Tryd.prog 35 #[.agg #[.int .u64 c0, .int .u64 c1, .int .u64 c2, .string d]] w fun e w' => e = .returned (.bool false) ∧ Below w.heap.size w w' := by
  go_enter Tryd.func35, Tryd.ntmps35
  go_wp2
  go_ret
  exact ⟨rfl, (Below.refl _ _).alloc (Nat.le_refl _) _⟩

set_option maxRecDepth 100000 in
set_option maxHeartbeats 400000 in
theorem spTidy_b (c0 c1 c2 : Int) (d : ByteArray) (h0 : (c0 == 0) = true) (h1 : (c1 == 112) = true) (h2 : (c2 == 18) = false) (w : World) :
    Calls Tryd.prog 35 #[.agg #[.int .u64 c0, .int .u64 c1, .int .u64 c2, .string d]] w fun e w' => e = .returned (.bool false) ∧ Below w.heap.size w w' := by
  go_enter Tryd.func35, Tryd.ntmps35
  go_wp2
  go_ret
  exact ⟨rfl, (Below.refl _ _).alloc (Nat.le_refl _) _⟩

set_option maxRecDepth 100000 in
set_option maxHeartbeats 400000 in
theorem spTidy_c (c0 c1 c2 : Int) (d : ByteArray) (h0 : (c0 == 0) = true) (h1 : (c1 == 112) = true) (h2 : (c2 == 18) = true) (h3 : ((d.size : Int) == 32) = false) (w : World) :
    Calls Tryd.prog 35 #[.agg #[.int .u64 c0, .int .u64 c1, .int .u64 c2, .string d]] w fun e w' => e = .returned (.bool false) ∧ Below w.heap.size w w' := by
  go_enter Tryd.func35, Tryd.ntmps35
  go_wp2
  go_ret
  exact ⟨rfl, (Below.refl _ _).alloc (Nat.le_refl _) _⟩

set_option maxRecDepth 100000 in
set_option maxHeartbeats 400000 in
theorem spTidy_d (c0 c1 c2 : Int) (d : ByteArray) (h0 : (c0 == 0) = false) (h1 : (c0 == 1) = false) (w : World) :
    Calls Tryd.prog 35 #[.agg #[.int .u64 c0, .int .u64 c1, .int .u64 c2, .string d]] w fun e w' => e = .returned (.bool false) ∧ Below w.heap.size w w' := by
  go_enter Tryd.func35, Tryd.ntmps35
  go_wp2
  go_ret
  exact ⟨rfl, (Below.refl _ _).alloc (Nat.le_refl _) _⟩

set_option maxRecDepth 100000 in
set_option maxHeartbeats 400000 in
theorem spTidy_e (c0 c1 c2 : Int) (d : ByteArray) (h0 : (c0 == 0) = false) (h1 : (c0 == 1) = true) (h2 : decide (c1 < 9223372036854775808) = false) (w : World) :
    Calls Tryd.prog 35 #[.agg #[.int .u64 c0, .int .u64 c1, .int .u64 c2, .string d]] w fun e w' => e = .returned (.bool false) ∧ Below w.heap.size w w' := by
  go_enter Tryd.func35, Tryd.ntmps35
  go_wp2
  go_ret
  exact ⟨rfl, (Below.refl _ _).alloc (Nat.le_refl _) _⟩

set_option maxRecDepth 100000 in
set_option maxHeartbeats 400000 in
theorem spTidy_f (c0 c1 c2 : Int) (d : ByteArray) (h0 : (c0 == 0) = false) (h1 : (c0 == 1) = true) (h2 : c1 < 9223372036854775808) (h3 : decide (c2 < 9223372036854775808) = false) (w : World) :
    Calls Tryd.prog 35 #[.agg #[.int .u64 c0, .int .u64 c1, .int .u64 c2, .string d]] w fun e w' => e = .returned (.bool false) ∧ Below w.heap.size w w' := by
  go_enter Tryd.func35, Tryd.ntmps35
  go_wp2
  go_ret
  exact ⟨rfl, (Below.refl _ _).alloc (Nat.le_refl _) _⟩

theorem int_beq_no {a : Nat} {b : Int} (h : (a : Int) ≠ b) : ((a : Int) == b) = false := beq_eq_false_iff_ne.2 h
theorem int_beq_yes {a : Nat} {b : Int} (h : (a : Int) = b) : ((a : Int) == b) = true := beq_iff_eq.2 h
theorem big_no {a : Nat} (h : ¬ a < 9223372036854775808) : decide ((a : Int) < 9223372036854775808) = false := decide_eq_false (by omega)
theorem big_yes {a : Nat} (h : a < 9223372036854775808) : (a : Int) < 9223372036854775808 := by omega

theorem spTidy_no (x : CidD) (d : ByteArray) (hx : x.dig = d.data.toList) (ht : ¬ x.tidy) (w : World) :
    Calls Tryd.prog 35 #[.agg #[.int .u64 x.ver, .int .u64 x.codec, .int .u64 x.code, .string d]] w fun e w' => e = .returned (.bool false) ∧ Below w.heap.size w w' := by
  obtain ⟨v, codec, code, dg⟩ := x
  simp only at hx
  subst hx
  by_cases h0 : v = 0
  · by_cases h1 : codec = 112
    · by_cases h2 : code = 18
      · exact spTidy_c v codec code d (int_beq_yes (by omega)) (int_beq_yes (by omega)) (int_beq_yes (by omega)) (int_beq_no fun e => ht (.inl ⟨h0, h1, h2, by show d.data.toList.length = 32; rw [ba_len]; omega⟩)) w
      · exact spTidy_b v codec code d (int_beq_yes (by omega)) (int_beq_yes (by omega)) (int_beq_no (by omega)) w
    · exact spTidy_a v codec code d (int_beq_yes (by omega)) (int_beq_no (by omega)) w
  · by_cases h1 : v = 1
    · by_cases h2 : codec < 9223372036854775808
      · exact spTidy_f v codec code d (int_beq_no (by omega)) (int_beq_yes (by omega)) (big_yes h2) (big_no fun h3 => ht (.inr ⟨h1, h2, h3⟩)) w
      · exact spTidy_e v codec code d (int_beq_no (by omega)) (int_beq_yes (by omega)) (big_no h2) w
    · exact spTidy_d v codec code d (int_beq_no (by omega)) (int_beq_no (by omega)) w

set_option maxRecDepth 100000 in
theorem fits1 (a b c : Int) (d : ByteArray) (hd : d.size ≤ 2147483647) (w : World) :
    Calls Tryd.prog 14 #[.agg #[.int .u64 a, .int .u64 b, .int .u64 c, .string d]] w fun e w' => e = .returned (.bool true) ∧ Below w.heap.size w w' := by
  go_enter Tryd.func14, Tryd.ntmps14
  go_wp2
  go_ret
  exact ⟨rfl, (Below.refl _ _).alloc (Nat.le_refl _) _⟩
set_option maxRecDepth 100000 in
theorem fits1_no (a b c : Int) (d : ByteArray) (hd : 2147483647 < d.size) (w : World) :
    Calls Tryd.prog 14 #[.agg #[.int .u64 a, .int .u64 b, .int .u64 c, .string d]] w fun e w' => e = .returned (.bool false) ∧ Below w.heap.size w w' := by
  go_enter Tryd.func14, Tryd.ntmps14
  go_wp2
  go_ret
  exact ⟨rfl, (Below.refl _ _).alloc (Nat.le_refl _) _⟩
end Go.Proofs.YthfgnhgijgjggaaDoor
/- Contracts of package spec: MultihashBytes, CidBytes, Tidy. -/
namespace Go.Proofs.YthfgnhgijgjggaaDoor
open Go.RowKit

/-- A slice that turns to the string S, now and behind all that only makes memory. -/
def TurnsTo (S : ByteArray) (e : Ending) (w' : World) : Prop := ∃ A n c, e = .returned (.slice A n c) ∧ ∀ W, Below w'.heap.size w' W → (convert 43 9 (.slice A n c)).run Tryd.prog W = .ok (.string S) W

theorem spVarintS (n : Nat) (hn : n < 18446744073709551616) (S : ByteArray) (hS : S = ⟨(Lib.uvarint n).toArray⟩) (w : World) :
    Calls Tryd.prog 23 #[.int .u64 n] w fun e w' => TurnsTo S e w' ∧ Below w.heap.size w w' :=
  (spVarint n hn w).mono fun e w' ⟨⟨A, n, c, he, hbs⟩, hb⟩ => ⟨⟨A, n, c, he, fun W hW => by rw [hS]; exact (hbs.below hW).str (dst := 9) Tryd.underlying43 Tryd.underlying5 Tryd.underlying9⟩, hb⟩

theorem ba_cat' (a b : List UInt8) : (⟨a.toArray⟩ : ByteArray) ++ ⟨b.toArray⟩ = ⟨(a ++ b).toArray⟩ := by
  apply ByteArray.ext
  rw [ByteArray.data_append]; simp
theorem ba_eta (s : ByteArray) : s = ⟨s.data.toList.toArray⟩ := (ba_mk s).symm

end Go.Proofs.YthfgnhgijgjggaaDoor
/- Contracts: laws.cdOne, laws.cdGood. FnCdBytes' walk. -/
namespace Go.Proofs.YthfgnhgijgjggaaDoor
open Go.RowKit

def oneCid : CidD := ⟨1, 85, 0, [97]⟩
theorem one_tidy : oneCid.tidy := .inr ⟨rfl, by decide, by decide⟩
theorem uvarint0 : Lib.uvarint 0 = [0] := Lib.uvarint_small (by omega)
theorem uvarint85 : Lib.uvarint 85 = [85] := Lib.uvarint_small (by omega)
theorem one_enc : cidEnc oneCid = [1, 85, 0, 1, 97] := by
  show 1 :: (Lib.uvarint 85 ++ (Lib.uvarint 0 ++ (Lib.uvarint 1 ++ [97]))) = _
  rw [uvarint85, uvarint0, uvarint1]; rfl
theorem one_rd : cidRd [1, 85, 0, 1, 97] = some (oneCid, 5) := by
  have := cidRd_enc0 oneCid one_tidy (by decide)
  rw [one_enc] at this
  exact this

set_option maxRecDepth 100000 in
set_option maxHeartbeats 2000000 in
theorem cdOne_any (w : World) (hu : CdS w) :
    Calls Tryd.prog 24 #[] w fun e w' => e = .returned (.bool true) ∧ Below w.heap.size w w' := by
  have C1 := fun W (h : Below w.heap.size w W) => Lib.hid (cdBytesI 1 85 0 ⟨#[97]⟩ ⟨#[1, 85, 0, 1, 97]⟩ true W (fun w1 hb => by
    have := cidIn_ok oneCid one_tidy ⟨#[97]⟩ rfl (by decide) w1 ((hu.below h).below hb).toUvS
    rw [one_enc] at this
    exact this))
  have C2 := fun W (h : Below w.heap.size w W) => Lib.hid (cdReadI_ok ⟨#[1, 85, 0, 1, 97]⟩ W (by decide) (hu.below h) oneCid 5 one_rd)
  have heq := fun W => eqCid_same oneCid W
  rw [show cidVal oneCid = .agg #[.int .u64 1, .int .u64 85, .int .u64 0, .string ⟨#[97]⟩] from rfl] at heq C2
  rw [show ((5 : Nat) : Int) = 5 from rfl] at C2
  have h0 : Below w.heap.size w (w.alloc (.cells #[.int .u64 1, .int .u64 85, .int .u64 0, .string ⟨#[97]⟩] 26)) := (Below.refl _ _).alloc (Nat.le_refl _) _
  have r0 := heap_alloc_new w (.cells #[.int .u64 1, .int .u64 85, .int .u64 0, .string ⟨#[97]⟩] 26)
  have R0 := Lib.hid r0
  clear r0
  go_enter Tryd.func24, Tryd.ntmps24
  go_wp2_with fail
  refine (C1 _ h0).out.mono ?_
  rintro e w1 ⟨rfl, hb1⟩
  have h1 := below_next h0 hb1
  have r1 := row_below hb1 (block_of_row R0.out) R0.out
  have R1 := Lib.hid r1
  clear r1 hb1
  go_wp2_with fail
  refine (C2 _ h1).out.mono ?_
  rintro e w2 ⟨rfl, hb2⟩
  have h2 := below_next h1 hb2
  have r2 := row_below hb2 (block_of_row R1.out) R1.out
  have k0 := fun o => cell_of_row' (cur := [_, _, _, _]) (row_alloc r2 o) 0
  have k1 := fun o => cell_of_row' (cur := [_, _, _, _]) (row_alloc r2 o) 1
  have k2 := fun o => cell_of_row' (cur := [_, _, _, _]) (row_alloc r2 o) 2
  have k3 := fun o => cell_of_row' (cur := [_, _, _, _]) (row_alloc r2 o) 3
  clear r2 hb2 R1 R0 C1 C2
  go_wp2
  go_ret
  exact ⟨rfl, h2.alloc h2.size _⟩
end Go.Proofs.YthfgnhgijgjggaaDoor
/- FnCdBytes' walk: an identifier's bytes are as the specification has them, and there are none of what is no identifier. -/
namespace Go.Proofs.YthfgnhgijgjggaaDoor
open Go.RowKit

/-- A variable of type impl.Cid that holds an identifier. -/
def InRow (w : World) (g : Nat) (a b c : Int) (d : ByteArray) : Prop := w.heap[g]? = some (.cells #[.int .u64 a, .int .u64 b, .int .u64 c, .string d] 26 (0, 0))
theorem InRow.cells {w : World} {g : Nat} {a b c : Int} {d : ByteArray} (h : InRow w g a b c d) : w.cell? ⟨g, 0, none⟩ = some (.int .u64 a) ∧ w.cell? ⟨g, 1, none⟩ = some (.int .u64 b) ∧ w.cell? ⟨g, 2, none⟩ = some (.int .u64 c) ∧ w.cell? ⟨g, 3, none⟩ = some (.string d) :=
  ⟨cell_of_row' (cur := [_, _, _, _]) h 0, cell_of_row' (cur := [_, _, _, _]) h 1, cell_of_row' (cur := [_, _, _, _]) h 2, cell_of_row' (cur := [_, _, _, _]) h 3⟩
theorem InRow.below {w w' : World} {g : Nat} {a b c : Int} {d : ByteArray} (h : InRow w g a b c d) (hb : Below w.heap.size w w') : InRow w' g a b c d := row_below hb (block_of_row h) h
theorem InRow.new (w : World) (a b c : Int) (d : ByteArray) : InRow (w.alloc (cidO a b c d)) w.heap.size a b c d := heap_alloc_new w _

/-- An identifier as the law's argument. -/
structure CidArg (x : CidD) (d : ByteArray) : Prop where
  dig : x.dig = d.data.toList

end Go.Proofs.YthfgnhgijgjggaaDoor
