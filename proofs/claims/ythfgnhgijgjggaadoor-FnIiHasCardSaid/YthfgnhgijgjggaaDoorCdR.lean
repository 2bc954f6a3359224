/- Contracts: spec.Tidy, laws.zzFits1, laws.cdGood, laws.cdOne; '==' of two identifiers. -/
import Derived.Test.YthfgnhgijgjggaaDoorCdQ
import Derived.Test.YthfgnhgijgjggaaDoorEqS
import Derived.Laws.StructEq
namespace Go.Proofs.YthfgnhgijgjggaaDoor
open Go.RowKit

/-- '==' of two identifiers, field by field. -/
theorem run_eqCid (x0 x1 x2 y0 y1 y2 : Int) (s t : ByteArray) (w : World) (d : Nat) :
    (Op.equalIn (d + 2) 26 (.agg #[.int .u64 x0, .int .u64 x1, .int .u64 x2, .string s]) (.agg #[.int .u64 y0, .int .u64 y1, .int .u64 y2, .string t])).run Tryd.prog w = .ok (x0 == y0 && (x1 == y1 && (x2 == y2 && (s.toList == t.toList)))) w := by
  refine structs_equal Tryd.underlying26 (by kernel_rfl) ?_
  refine fields_more (by decide) (by go_simp; rfl) (by go_simp; rfl) (by go_simp) ?_
  refine fields_more (by decide) (by go_simp; rfl) (by go_simp; rfl) (by go_simp) ?_
  refine fields_more (by decide) (by go_simp; rfl) (by go_simp; rfl) (by go_simp) ?_
  refine fields_last (by decide) (by go_simp; rfl) (by go_simp; rfl) ?_
  go_simp

theorem ba_toList (l : List UInt8) : (⟨l.toArray⟩ : ByteArray).toList = l := by rw [ByteArray.toList_eq]

theorem eqCid_same (x : CidD) (w : World) : (binOp .eql 26 (cidVal x) (cidVal x)).run Tryd.prog w = .ok (.bool true) w := by
  unfold cidVal
  simp only [binOp]
  simp [Op.equal, Op.maxDepth, run_eqCid _ _ _ _ _ _ _ _ w 9998]

theorem eqCid_other (x y : CidD) (h : x ≠ y) (w : World) : (binOp .eql 26 (cidVal x) (cidVal y)).run Tryd.prog w = .ok (.bool false) w := by
  have hb : ((x.ver : Int) == y.ver && ((x.codec : Int) == y.codec && ((x.code : Int) == y.code && (((⟨x.dig.toArray⟩ : ByteArray)).toList == (⟨y.dig.toArray⟩ : ByteArray).toList)))) = false := by
    rw [Bool.eq_false_iff]
    intro e
    simp only [Bool.and_eq_true, beq_iff_eq, ba_toList] at e
    obtain ⟨e0, e1, e2, e3⟩ := e
    apply h
    obtain ⟨a, b, c, d⟩ := x
    obtain ⟨a', b', c', d'⟩ := y
    simp only at e0 e1 e2 e3
    subst e3
    obtain rfl : a = a' := by omega
    obtain rfl : b = b' := by omega
    obtain rfl : c = c' := by omega
    rfl
  unfold cidVal
  simp only [binOp]
  simp only [Op.equal, Op.maxDepth, run_eqCid _ _ _ _ _ _ _ _ w 9998, Sem.run_bind, Result.andThen_ok, hb]
  rfl

theorem neqCid_same (x : CidD) (w : World) : (binOp .neq 26 (cidVal x) (cidVal x)).run Tryd.prog w = .ok (.bool false) w := by
  unfold cidVal
  simp only [binOp]
  simp [Op.equal, Op.maxDepth, run_eqCid _ _ _ _ _ _ _ _ w 9998]
theorem neqCid_other (x y : CidD) (h : x ≠ y) (w : World) : (binOp .neq 26 (cidVal x) (cidVal y)).run Tryd.prog w = .ok (.bool true) w := by
  have hb := eqCid_other x y h w
  unfold cidVal at hb ⊢
  simp only [binOp] at hb ⊢
  simp only [Op.equal, Op.maxDepth, run_eqCid _ _ _ _ _ _ _ _ w 9998, Sem.run_bind, Result.andThen_ok] at hb ⊢
  simp only [Sem.run_pure, Result.ok.injEq, Value.bool.injEq, and_true] at hb
  rw [hb]
  rfl

set_option maxRecDepth 100000 in
set_option maxHeartbeats 2000000 in
theorem spTidy_yes (x : CidD) (d : ByteArray) (hx : x.dig = d.data.toList) (ht : x.tidy) (w : World) :
    Calls Tryd.prog 35 #[.agg #[.int .u64 x.ver, .int .u64 x.codec, .int .u64 x.code, .string d]] w fun e w' => e = .returned (.bool true) ∧ Below w.heap.size w w' := by
  obtain ⟨v, codec, code, dg⟩ := x
  simp only at hx
  subst hx
  rcases ht with ⟨h0, h1, h2, h3⟩ | ⟨h0, h1, h2⟩
  · simp only [ba_len] at h0 h1 h2 h3
    subst h0 h1 h2
    have h3' : ((d.size : Int) == 32) = true := by rw [h3]; rfl
    clear h3
    go_enter Tryd.func35, Tryd.ntmps35
    go_wp2
    go_ret
    exact ⟨rfl, (Below.refl _ _).alloc (Nat.le_refl _) _⟩
  · simp only at h0 h1 h2
    subst h0
    have h1' : (codec : Int) < 9223372036854775808 := by omega
    have h2' : (code : Int) < 9223372036854775808 := by omega
    generalize (codec : Int) = c1 at *
    generalize (code : Int) = c2 at *
    clear h1 h2
    go_enter Tryd.func35, Tryd.ntmps35
    go_wp2
    go_ret
    exact ⟨rfl, (Below.refl _ _).alloc (Nat.le_refl _) _⟩

set_option maxRecDepth 100000 in
set_option maxHeartbeats 400000 in
theorem spTidy_a (c0 c1 c2 : Int) (d : ByteArray) (h0 : (c0 == 0) = true) (h1 : (c1 == 112) = false) (w : World) :
    Calls Tryd.prog 35 #[.agg #[.int .u64 c0, .int .u64 c1, .int .u64 c2, .string d]] w fun e w' => e = .returned (.bool false) ∧ Below w.heap.size w w' := by
  go_enter Tryd.func35, Tryd.ntmps35
  go_wp2
  go_ret
  exact ⟨rfl, (Below.refl _ _).alloc (Nat.le_refl _) _⟩

set_option maxRecDepth 100000 in
set_option maxHeartbeats 400000 in
theorem spTidy_b (c0 c1 c2 : Int) (d : ByteArray) (h0 : (c0 == 0) = true) (h1 : (c1 == 112) = true) (h2 : (c2 == 18) = false) (w : World) :
    Calls Tryd.prog 35 #[.agg #[.int .u64 c0, .int .u64 c1, .int .u64 c2, .string d]] w fun e w' => e = .returned (.bool false) ∧ Below w.heap.size w w' := by
  go_enter Tryd.func35, Tryd.ntmps35
  go_wp2
  go_ret
  exact ⟨rfl, (Below.refl _ _).alloc (Nat.le_refl _) _⟩

set_option maxRecDepth 100000 in
set_option maxHeartbeats 400000 in
theorem spTidy_c (c0 c1 c2 : Int) (d : ByteArray) (h0 : (c0 == 0) = true) (h1 : (c1 == 112) = true) (h2 : (c2 == 18) = true) (h3 : ((d.size : Int) == 32) = false) (w : World) :
    Calls Tryd.prog 35 #[.agg #[.int .u64 c0, .int .u64 c1, .int .u64 c2, .string d]] w fun e w' => e = .returned (.bool false) ∧ Below w.heap.size w w' := by
  go_enter Tryd.func35, Tryd.ntmps35
  go_wp2
  go_ret
  exact ⟨rfl, (Below.refl _ _).alloc (Nat.le_refl _) _⟩

set_option maxRecDepth 100000 in
set_option maxHeartbeats 400000 in
theorem spTidy_d (c0 c1 c2 : Int) (d : ByteArray) (h0 : (c0 == 0) = false) (h1 : (c0 == 1) = false) (w : World) :
    Calls Tryd.prog 35 #[.agg #[.int .u64 c0, .int .u64 c1, .int .u64 c2, .string d]] w fun e w' => e = .returned (.bool false) ∧ Below w.heap.size w w' := by
  go_enter Tryd.func35, Tryd.ntmps35
  go_wp2
  go_ret
  exact ⟨rfl, (Below.refl _ _).alloc (Nat.le_refl _) _⟩

set_option maxRecDepth 100000 in
set_option maxHeartbeats 400000 in
theorem spTidy_e (c0 c1 c2 : Int) (d : ByteArray) (h0 : (c0 == 0) = false) (h1 : (c0 == 1) = true) (h2 : decide (c1 < 9223372036854775808) = false) (w : World) :
    Calls Tryd.prog 35 #[.agg #[.int .u64 c0, .int .u64 c1, .int .u64 c2, .string d]] w fun e w' => e = .returned (.bool false) ∧ Below w.heap.size w w' := by
  go_enter Tryd.func35, Tryd.ntmps35
  go_wp2
  go_ret
  exact ⟨rfl, (Below.refl _ _).alloc (Nat.le_refl _) _⟩

set_option maxRecDepth 100000 in
set_option maxHeartbeats 400000 in
theorem spTidy_f (c0 c1 c2 : Int) (d : ByteArray) (h0 : (c0 == 0) = false) (h1 : (c0 == 1) = true) (h2 : c1 < 9223372036854775808) (h3 : decide (c2 < 9223372036854775808) = false) (w : World) :
    Calls Tryd.prog 35 #[.agg #[.int .u64 c0, .int .u64 c1, .int .u64 c2, .string d]] w fun e w' => e = .returned (.bool false) ∧ Below w.heap.size w w' := by
  go_enter Tryd.func35, Tryd.ntmps35
  go_wp2
  go_ret
  exact ⟨rfl, (Below.refl _ _).alloc (Nat.le_refl _) _⟩

theorem int_beq_no {a : Nat} {b : Int} (h : (a : Int) ≠ b) : ((a : Int) == b) = false := beq_eq_false_iff_ne.2 h
theorem int_beq_yes {a : Nat} {b : Int} (h : (a : Int) = b) : ((a : Int) == b) = true := beq_iff_eq.2 h
theorem big_no {a : Nat} (h : ¬ a < 9223372036854775808) : decide ((a : Int) < 9223372036854775808) = false := decide_eq_false (by omega)
theorem big_yes {a : Nat} (h : a < 9223372036854775808) : (a : Int) < 9223372036854775808 := by omega

theorem spTidy_no (x : CidD) (d : ByteArray) (hx : x.dig = d.data.toList) (ht : ¬ x.tidy) (w : World) :
    Calls Tryd.prog 35 #[.agg #[.int .u64 x.ver, .int .u64 x.codec, .int .u64 x.code, .string d]] w fun e w' => e = .returned (.bool false) ∧ Below w.heap.size w w' := by
  obtain ⟨v, codec, code, dg⟩ := x
  simp only at hx
  subst hx
  by_cases h0 : v = 0
  · by_cases h1 : codec = 112
    · by_cases h2 : code = 18
      · exact spTidy_c v codec code d (int_beq_yes (by omega)) (int_beq_yes (by omega)) (int_beq_yes (by omega)) (int_beq_no fun e => ht (.inl ⟨h0, h1, h2, by show d.data.toList.length = 32; rw [ba_len]; omega⟩)) w
      · exact spTidy_b v codec code d (int_beq_yes (by omega)) (int_beq_yes (by omega)) (int_beq_no (by omega)) w
    · exact spTidy_a v codec code d (int_beq_yes (by omega)) (int_beq_no (by omega)) w
  · by_cases h1 : v = 1
    · by_cases h2 : codec < 9223372036854775808
      · exact spTidy_f v codec code d (int_beq_no (by omega)) (int_beq_yes (by omega)) (big_yes h2) (big_no fun h3 => ht (.inr ⟨h1, h2, h3⟩)) w
      · exact spTidy_e v codec code d (int_beq_no (by omega)) (int_beq_yes (by omega)) (big_no h2) w
    · exact spTidy_d v codec code d (int_beq_no (by omega)) (int_beq_no (by omega)) w

set_option maxRecDepth 100000 in
theorem fits1 (a b c : Int) (d : ByteArray) (hd : d.size ≤ 2147483647) (w : World) :
    Calls Tryd.prog 14 #[.agg #[.int .u64 a, .int .u64 b, .int .u64 c, .string d]] w fun e w' => e = .returned (.bool true) ∧ Below w.heap.size w w' := by
  go_enter Tryd.func14, Tryd.ntmps14
  go_wp2
  go_ret
  exact ⟨rfl, (Below.refl _ _).alloc (Nat.le_refl _) _⟩
set_option maxRecDepth 100000 in
theorem fits1_no (a b c : Int) (d : ByteArray) (hd : 2147483647 < d.size) (w : World) :
    Calls Tryd.prog 14 #[.agg #[.int .u64 a, .int .u64 b, .int .u64 c, .string d]] w fun e w' => e = .returned (.bool false) ∧ Below w.heap.size w w' := by
  go_enter Tryd.func14, Tryd.ntmps14
  go_wp2
  go_ret
  exact ⟨rfl, (Below.refl _ _).alloc (Nat.le_refl _) _⟩
end Go.Proofs.YthfgnhgijgjggaaDoor
