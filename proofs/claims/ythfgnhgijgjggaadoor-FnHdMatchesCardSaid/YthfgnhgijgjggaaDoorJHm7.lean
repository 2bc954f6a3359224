/- Contracts, joined (CdU HmA HmB HmC HmD). -/
import Derived.Test.YthfgnhgijgjggaaDoorJHm4
import Derived.Test.YthfgnhgijgjggaaDoorJHm6
import Derived.Deep.AppendLies
import Derived.Deep.RegionLaw
/- Contracts: laws.cdGood. FnCdSame's walk: two identifiers have the same bytes just if they are equal. -/
namespace Go.Proofs.YthfgnhgijgjggaaDoor
open Go.RowKit

/-- laws.cdGood. -/
def CidD.good (x : CidD) (d : ByteArray) : Prop := d.size ≤ 4096 ∧ x.tidy

set_option maxRecDepth 100000 in
set_option maxHeartbeats 1000000 in
theorem cdGood_yes (x : CidD) (d : ByteArray) (hx : x.dig = d.data.toList) (hg : x.good d) (w : World) :
    Calls Tryd.prog 20 #[.agg #[.int .u64 x.ver, .int .u64 x.codec, .int .u64 x.code, .string d]] w fun e w' => e = .returned (.bool true) ∧ Below w.heap.size w w' := by
  obtain ⟨h1, ht⟩ := hg
  have hA : Below w.heap.size w (w.alloc (cidO x.ver x.codec x.code d)) := (Below.refl _ _).alloc (Nat.le_refl _) _
  have T := fun W => Lib.hid (spTidy_yes x d hx ht W)
  have h1' : decide (d.size ≤ 4096) = true := decide_eq_true h1
  clear hx ht
  generalize (x.ver : Int) = c0 at *
  generalize (x.codec : Int) = c1 at *
  generalize (x.code : Int) = c2 at *
  go_enter Tryd.func20, Tryd.ntmps20
  go_wp2_with fail
  refine (T _).out.mono ?_
  rintro e w1 ⟨rfl, hb1⟩
  go_wp2
  go_ret
  exact ⟨rfl, below_next hA hb1⟩

set_option maxRecDepth 100000 in
set_option maxHeartbeats 1000000 in
theorem cdGood_no (x : CidD) (d : ByteArray) (hx : x.dig = d.data.toList) (hg : ¬ x.good d) (w : World) :
    Calls Tryd.prog 20 #[.agg #[.int .u64 x.ver, .int .u64 x.codec, .int .u64 x.code, .string d]] w fun e w' => e = .returned (.bool false) ∧ Below w.heap.size w w' := by
  have hA : Below w.heap.size w (w.alloc (cidO x.ver x.codec x.code d)) := (Below.refl _ _).alloc (Nat.le_refl _) _
  by_cases h1 : d.size ≤ 4096
  · have ht : ¬ x.tidy := fun ht => hg ⟨h1, ht⟩
    have T := fun W => Lib.hid (spTidy_no x d hx ht W)
    have h1' : decide (d.size ≤ 4096) = true := decide_eq_true h1
    clear hx ht hg
    generalize (x.ver : Int) = c0 at *
    generalize (x.codec : Int) = c1 at *
    generalize (x.code : Int) = c2 at *
    go_enter Tryd.func20, Tryd.ntmps20
    go_wp2_with fail
    refine (T _).out.mono ?_
    rintro e w1 ⟨rfl, hb1⟩
    go_wp2
    go_ret
    exact ⟨rfl, below_next hA hb1⟩
  · have h1' : decide (d.size ≤ 4096) = false := decide_eq_false h1
    clear hx hg
    generalize (x.ver : Int) = c0 at *
    generalize (x.codec : Int) = c1 at *
    generalize (x.code : Int) = c2 at *
    go_enter Tryd.func20, Tryd.ntmps20
    go_wp2
    go_ret
    exact ⟨rfl, hA⟩

theorem eqCid_args (x y : CidD) (d f : ByteArray) (hx : x.dig = d.data.toList) (hy : y.dig = f.data.toList) (W : World) :
    (x = y → (binOp .eql 26 (.agg #[.int .u64 x.ver, .int .u64 x.codec, .int .u64 x.code, .string d]) (.agg #[.int .u64 y.ver, .int .u64 y.codec, .int .u64 y.code, .string f])).run Tryd.prog W = .ok (.bool true) W) ∧
    (x ≠ y → (binOp .eql 26 (.agg #[.int .u64 x.ver, .int .u64 x.codec, .int .u64 x.code, .string d]) (.agg #[.int .u64 y.ver, .int .u64 y.codec, .int .u64 y.code, .string f])).run Tryd.prog W = .ok (.bool false) W) := by
  have e1 : cidVal x = .agg #[.int .u64 x.ver, .int .u64 x.codec, .int .u64 x.code, .string d] := by unfold cidVal; rw [hx, ba_mk]
  have e2 : cidVal y = .agg #[.int .u64 y.ver, .int .u64 y.codec, .int .u64 y.code, .string f] := by unfold cidVal; rw [hy, ba_mk]
  rw [← e1, ← e2]
  exact ⟨fun h => by rw [h]; exact eqCid_same y W, fun h => eqCid_other x y h W⟩

end Go.Proofs.YthfgnhgijgjggaaDoor
/- A slice of identifiers; contracts: laws.zzFits2, laws.hdGood. -/
namespace Go.Proofs.YthfgnhgijgjggaaDoor
open Go.RowKit

/-- The slice value v holds the identifiers xs. -/
def CS (w : World) (v : Value) (xs : List CidD) : Prop :=
  ∃ (A : Option Addr) (c : Nat), v = .slice A xs.length c ∧ xs.length ≤ c ∧ (0 < xs.length → ∃ b o, A = some ⟨b, o, none⟩ ∧ ∀ (j : Nat) (x : CidD), xs[j]? = some x →
    w.cell? ⟨b, o + j * 4, none⟩ = some (.int .u64 x.ver) ∧ w.cell? ⟨b, o + j * 4 + 1, none⟩ = some (.int .u64 x.codec) ∧ w.cell? ⟨b, o + j * 4 + 2, none⟩ = some (.int .u64 x.code) ∧ w.cell? ⟨b, o + j * 4 + 3, none⟩ = some (.string ⟨x.dig.toArray⟩))
theorem CS.below {w w' : World} {v : Value} {xs : List CidD} (h : CS w v xs) (hb : Below w.heap.size w w') : CS w' v xs := by
  obtain ⟨A, c, e, hc, h⟩ := h
  refine ⟨A, c, e, hc, fun hl => ?_⟩
  obtain ⟨b, o, e, h⟩ := h hl
  exact ⟨b, o, e, fun j x hj => ⟨below_cell hb (h j x hj).1, below_cell hb (h j x hj).2.1, below_cell hb (h j x hj).2.2.1, below_cell hb (h j x hj).2.2.2⟩⟩
theorem CS.nil (w : World) : CS w (.slice none 0 0) [] := ⟨none, 0, rfl, Nat.le_refl _, fun h => by simp at h⟩

theorem bs_size (x : CidD) : (⟨x.dig.toArray⟩ : ByteArray).size = x.dig.length := List.size_toArray

set_option maxRecDepth 100000 in
set_option maxHeartbeats 4000000 in
theorem fits2_any (v : Value) (xs : List CidD) (w : World) (hs : CS w v xs) (hn : xs.length ≤ 9223372036854775807) :
    Calls Tryd.prog 10 #[v] w fun e w' => AnyBool e ∧ Below w.heap.size w w' := by
  obtain ⟨A, c, rfl, hc, hcells⟩ := hs
  obtain ⟨n, hN⟩ : ∃ n, n = xs.length := ⟨_, rfl⟩
  rw [← hN] at hn
  have HC := Lib.hid hcells
  have HN := Lib.hid hN
  rw [← hN]
  clear hcells hc hN
  by_cases hbig : 2147483647 < n
  · go_enter Tryd.func10, Tryd.ntmps10
    go_wp2
    go_ret
    exact ⟨⟨_, rfl⟩, Below.refl _ _⟩
  · go_enter Tryd.func10, Tryd.ntmps10
    go_wp2
    go_loopw [10] (fun i wr => ∃ (k : Nat), k ≤ n ∧ i = .int .i64 k ∧ Below w.heap.size w wr) (fun i _ => n - (intOf i).toNat)
    case atStart => exact ⟨0, Nat.zero_le _, rfl, Below.refl _ _⟩
    case round =>
      obtain ⟨k, hk, rfl, hb⟩ := hrel
      by_cases hlt : k < n
      · obtain ⟨b, o, rfl, hcl⟩ := HC.out (by rw [← HN.out]; omega)
        have hks : k < xs.length := by rw [← HN.out]; exact hlt
        obtain ⟨x, hsv⟩ : ∃ x, xs[k]? = some x := ⟨_, List.getElem?_eq_getElem hks⟩
        obtain ⟨q0, q1, q2, q3⟩ := hcl k x hsv
        have c0 := below_cell hb q0
        have c1 := below_cell hb q1
        have c2 := below_cell hb q2
        have c3 := below_cell hb q3
        generalize (⟨x.dig.toArray⟩ : ByteArray) = d at *
        generalize (x.ver : Int) = v0 at *
        generalize (x.codec : Int) = v1 at *
        generalize (x.code : Int) = v2 at *
        have hal : Below w.heap.size w (wr.alloc (cidO v0 v1 v2 d)) := hb.alloc hb.size _
        clear hcl hsv hks q0 q1 q2 q3
        by_cases hz : d.size ≤ 2147483647
        · have F := fun W => Lib.hid (fits1 v0 v1 v2 d hz W)
          go_wp2_with fail
          refine (F _).out.mono ?_
          rintro e w1 ⟨rfl, hb1⟩
          have b1 := below_next hal hb1
          clear hb1 F
          go_wp2
          go_roundw
          case rel => exact ⟨k + 1, by omega, by go_num, b1⟩
          case measure => simp [intOf]; omega
        · have F := fun W => Lib.hid (fits1_no v0 v1 v2 d (by omega) W)
          go_wp2_with fail
          refine (F _).out.mono ?_
          rintro e w1 ⟨rfl, hb1⟩
          have b1 := below_next hal hb1
          clear hb1 F
          go_wp2
          go_ret
          exact ⟨⟨_, rfl⟩, b1⟩
      · obtain rfl : k = n := by omega
        go_wp2
        go_ret
        exact ⟨⟨_, rfl⟩, hb⟩
end Go.Proofs.YthfgnhgijgjggaaDoor
/- Contracts: laws.hdGood, Cid.Equals, containsRoot. -/
namespace Go.Proofs.YthfgnhgijgjggaaDoor
open Go.RowKit

/-- An identifier of which laws about headers speak. -/
def CidD.hg (x : CidD) : Prop := x.dig.length ≤ 200 ∧ x.tidy
def hgood (xs : List CidD) : Prop := xs.length ≤ 100 ∧ ∀ x ∈ xs, x.hg
/-- What is known of the first k. -/
def Sofar (bo : Bool) (xs : List CidD) (k : Nat) : Prop := (bo = true ∧ ∀ x ∈ xs.take k, x.hg) ∨ (bo = false ∧ ¬ ∀ x ∈ xs, x.hg)
theorem Sofar.t {xs : List CidD} {k : Nat} (h : Sofar true xs k) : ∀ x ∈ xs.take k, x.hg := by rcases h with h | h; exact h.2; cases h.1
theorem Sofar.f {xs : List CidD} {k : Nat} (h : Sofar false xs k) : ¬ ∀ x ∈ xs, x.hg := by rcases h with h | h; cases h.1; exact h.2
def TwoWays (p : Prop) (e : Ending) : Prop := (p ∧ e = .returned (.bool true)) ∨ (¬ p ∧ e = .returned (.bool false))

set_option maxRecDepth 100000 in
set_option maxHeartbeats 8000000 in
theorem hdGood_any (v : Value) (xs : List CidD) (w : World) (hs : CS w v xs) (hn : xs.length ≤ 9223372036854775807) :
    Calls Tryd.prog 11 #[v] w fun e w' => TwoWays (hgood xs) e ∧ Below w.heap.size w w' := by
  obtain ⟨A, c, rfl, hc, hcells⟩ := hs
  obtain ⟨n, hN⟩ : ∃ n, n = xs.length := ⟨_, rfl⟩
  rw [← hN] at hn
  have HC := Lib.hid hcells
  have HN := Lib.hid hN
  rw [← hN]
  clear hcells hc hN
  by_cases hbig : 100 < n
  · go_enter Tryd.func11, Tryd.ntmps11
    go_wp2
    go_ret
    exact ⟨Or.inr ⟨fun h => by have := h.1; rw [← HN.out] at this; omega, rfl⟩, Below.refl _ _⟩
  · go_enter Tryd.func11, Tryd.ntmps11
    go_wp2
    go_loopw [3, 4] (fun ok i wr => ∃ (bo : Bool) (k : Nat), k ≤ n ∧ ok = .bool bo ∧ i = .int .i64 k ∧ Sofar bo xs k ∧ Below w.heap.size w wr) (fun _ i _ => n - (intOf i).toNat)
    case atStart => exact ⟨true, 0, Nat.zero_le _, rfl, rfl, Or.inl ⟨rfl, by simp⟩, Below.refl _ _⟩
    case round =>
      obtain ⟨bo, k, hk, rfl, rfl, ht, hb⟩ := hrel
      cases bo
      · have hno : Hid (¬ hgood xs) := Lib.hid fun h => ht.f h.2
        go_wp2
        go_ret
        exact ⟨Or.inr ⟨hno.out, rfl⟩, hb⟩
      · by_cases hlt : k < n
        · obtain ⟨b, o, rfl, hcl⟩ := HC.out (by rw [← HN.out]; omega)
          have hks : k < xs.length := by rw [← HN.out]; exact hlt
          obtain ⟨x, hsv⟩ : ∃ x, xs[k]? = some x := ⟨_, List.getElem?_eq_getElem hks⟩
          obtain ⟨q0, q1, q2, q3⟩ := hcl k x hsv
          have c0 := below_cell hb q0
          have c1 := below_cell hb q1
          have c2 := below_cell hb q2
          have c3 := below_cell hb q3
          have htk : xs.take (k + 1) = xs.take k ++ [x] := by rw [List.take_add_one, hsv]; rfl
          have hmem : x ∈ xs := List.mem_of_getElem? hsv
          have hsz := bs_size x
          have hx : x.dig = (⟨x.dig.toArray⟩ : ByteArray).data.toList := rfl
          by_cases hz : x.dig.length ≤ 200
          · have hz' : decide (((⟨x.dig.toArray⟩ : ByteArray).size : Int) ≤ 200) = true := by rw [hsz]; exact decide_eq_true (by omega)
            have hzi : ((⟨x.dig.toArray⟩ : ByteArray).size : Int) ≤ 200 := by rw [hsz]; omega
            by_cases hty : x.tidy
            · have T := fun W => Lib.hid (spTidy_yes x ⟨x.dig.toArray⟩ hx hty W)
              have hnx : Sofar true xs (k + 1) := Or.inl ⟨rfl, fun y hy => by
                rw [htk] at hy
                rcases List.mem_append.1 hy with h | h
                · exact ht.t y h
                · obtain rfl : y = x := by simpa using h
                  exact ⟨hz, hty⟩⟩
              generalize (⟨x.dig.toArray⟩ : ByteArray) = d at *
              generalize (x.ver : Int) = v0 at *
              generalize (x.codec : Int) = v1 at *
              generalize (x.code : Int) = v2 at *
              clear hcl hsv hks q0 q1 q2 q3 htk hmem hsz hx ht hz hty
              go_wp2_with fail
              refine (T _).out.mono ?_
              rintro e w1 ⟨rfl, hb1⟩
              have b1 := below_next hb hb1
              clear hb1 T
              go_wp2
              go_roundw
              case rel => exact ⟨true, k + 1, by omega, rfl, by go_num, hnx, b1⟩
              case measure => simp [intOf]; omega
            · have T := fun W => Lib.hid (spTidy_no x ⟨x.dig.toArray⟩ hx hty W)
              have hnx : Sofar false xs (k + 1) := Or.inr ⟨rfl, fun h => hty (h x hmem).2⟩
              generalize (⟨x.dig.toArray⟩ : ByteArray) = d at *
              generalize (x.ver : Int) = v0 at *
              generalize (x.codec : Int) = v1 at *
              generalize (x.code : Int) = v2 at *
              clear hcl hsv hks q0 q1 q2 q3 htk hmem hsz hx ht hz hty
              go_wp2_with fail
              refine (T _).out.mono ?_
              rintro e w1 ⟨rfl, hb1⟩
              have b1 := below_next hb hb1
              clear hb1 T
              go_wp2
              go_roundw
              case rel => exact ⟨false, k + 1, by omega, rfl, by go_num, hnx, b1⟩
              case measure => simp [intOf]; omega
          · have hz' : decide (((⟨x.dig.toArray⟩ : ByteArray).size : Int) ≤ 200) = false := by rw [hsz]; exact decide_eq_false (by omega)
            have hzi : (200 : Int) < ((⟨x.dig.toArray⟩ : ByteArray).size : Int) := by rw [hsz]; omega
            have hnx : Sofar false xs (k + 1) := Or.inr ⟨rfl, fun h => hz (h x hmem).1⟩
            generalize (⟨x.dig.toArray⟩ : ByteArray) = d at *
            generalize (x.ver : Int) = v0 at *
            generalize (x.codec : Int) = v1 at *
            generalize (x.code : Int) = v2 at *
            clear hcl hsv hks q0 q1 q2 q3 htk hmem hsz hx ht hz
            go_wp2
            go_roundw
            case rel => exact ⟨false, k + 1, by omega, rfl, by go_num, hnx, hb⟩
            case measure => simp [intOf]; omega
        · obtain rfl : k = n := by omega
          have hall : xs.take k = xs := List.take_of_length_le (by rw [HN.out]; exact Nat.le_refl _)
          have hyes : Hid (hgood xs) := Lib.hid ⟨by rw [← HN.out]; omega, by have := ht.t; rwa [hall] at this⟩
          clear hall
          go_wp2
          go_ret
          exact ⟨Or.inl ⟨hyes.out, rfl⟩, hb⟩

theorem run_eqCC (s t : ByteArray) (w : World) : (binOp .eql 80 (.agg #[.string s]) (.agg #[.string t])).run Tryd.prog w = .ok (.bool (s.toList == t.toList)) w := by
  have h : (Op.equalIn (9998 + 2) 80 (.agg #[.string s]) (.agg #[.string t])).run Tryd.prog w = .ok (s.toList == t.toList) w := by
    refine structs_equal Tryd.underlying80 (by kernel_rfl) ?_
    refine fields_last (by decide) (by go_simp; rfl) (by go_simp; rfl) ?_
    go_simp
  simp only [binOp]
  simp [Op.equal, Op.maxDepth, h]


theorem ba_toList' (s : ByteArray) : s.toList = s.data.toList := by rw [ByteArray.toList_eq]
theorem ba_beq (s t : ByteArray) : (s.toList == t.toList) = decide (s = t) := by
  by_cases h : s = t
  · subst h; simp
  · have : s.toList ≠ t.toList := fun e => h (by
      rw [ba_toList', ba_toList'] at e
      rw [← ba_mk s, ← ba_mk t, e])
    simp [h, this]

set_option maxRecDepth 100000 in
set_option maxHeartbeats 1000000 in
theorem equals_any (s t : ByteArray) (w : World) :
    Calls Tryd.prog 64 #[.agg #[.string s], .agg #[.string t]] w fun e w' => TwoWays (s = t) e ∧ Below w.heap.size w w' := by
  have hA : Below w.heap.size w ((w.alloc (.cells #[.string s] 80)).alloc (.cells #[.string t] 80)) := ((Below.refl _ _).alloc (Nat.le_refl _) _).alloc (by simp) _
  have he := fun W => run_eqCC s t W
  rw [ba_beq] at he
  by_cases h : s = t
  · have hd : decide (s = t) = true := decide_eq_true h
    rw [hd] at he
    have HH := Lib.hid h
    clear h hd
    go_enter Tryd.func64, Tryd.ntmps64
    go_wp2
    go_ret
    exact ⟨Or.inl ⟨HH.out, rfl⟩, hA⟩
  · have hd : decide (s = t) = false := decide_eq_false h
    rw [hd] at he
    have HH := Lib.hid h
    clear h hd
    go_enter Tryd.func64, Tryd.ntmps64
    go_wp2
    go_ret
    exact ⟨Or.inr ⟨HH.out, rfl⟩, hA⟩

/-- A header in block h. -/
def HdrAt (w : World) (h : Nat) (v : Value) (ver : Int) : Prop := w.heap[h]? = some (.cells #[v, .int .u64 ver] 74 (0, 0))

set_option maxRecDepth 100000 in
set_option maxHeartbeats 4000000 in
theorem containsRoot_any (h : Nat) (v : Value) (ver : Int) (ss : List ByteArray) (s : ByteArray) (w : World) (hh : HdrAt w h v ver) (hs : SS w v ss) (hn : ss.length ≤ 1000) :
    Calls Tryd.prog 65 #[.pointer (some ⟨h, 0, none⟩), .agg #[.string s]] w fun e w' => TwoWays (s ∈ ss) e ∧ Below w.heap.size w w' := by
  obtain ⟨A, c, rfl, hc, hcells⟩ := hs
  obtain ⟨n, hN⟩ : ∃ n, n = ss.length := ⟨_, rfl⟩
  rw [← hN] at hn hh
  have hA : Below w.heap.size w (w.alloc (.cells #[.string s] 80)) := (Below.refl _ _).alloc (Nat.le_refl _) _
  have k0 := below_cell hA (cell_of_row' (cur := [_, _]) hh 0)
  have k1 := cell_of_row' (cur := [_]) (heap_alloc_new w (.cells #[.string s] 80)) 0
  have HC := Lib.hid hcells
  have HN := Lib.hid hN
  have HK1 := Lib.hid k1
  clear hcells hc hN hh k1
  go_enter Tryd.func65, Tryd.ntmps65
  go_wp2
  go_loopw [12] (fun i wr => ∃ (k : Nat), k ≤ n ∧ i = .int .i64 k ∧ Hid (s ∉ ss.take k) ∧ Hid (Below (w.heap.size + 1) (w.alloc (.cells #[.string s] 80)) wr)) (fun i _ => n - (intOf i).toNat)
  case atStart => exact ⟨0, Nat.zero_le _, rfl, Lib.hid (by simp), Lib.hid (Below.refl _ _)⟩
  case round =>
    obtain ⟨k, hk, rfl, hno, hb⟩ := hrel
    have hbw : Below w.heap.size w wr := hA.trans (hb.out.mono (by omega))
    by_cases hlt : k < n
    · obtain ⟨b, o, rfl, hcl⟩ := HC.out (by rw [← HN.out]; omega)
      have hks : k < ss.length := by rw [← HN.out]; exact hlt
      obtain ⟨t, hsv⟩ : ∃ t, ss[k]? = some t := ⟨_, List.getElem?_eq_getElem hks⟩
      have c0 := below_cell hbw (hcl k t hsv)
      have hsz : w.heap.size + 1 ≤ wr.heap.size := by have := hb.out.size; simpa using this
      have k3 : wr.cell? ⟨w.heap.size, 0, none⟩ = some (.string s) := (hb.out.cell (by show w.heap.size < w.heap.size + 1; omega)).trans HK1.out
      have k4 : (wr.alloc (.cells #[.string t] 80)).cell? ⟨w.heap.size, 0, none⟩ = some (.string s) := below_cell ((Below.refl _ _).alloc (Nat.le_refl _) _) k3
      have hmem : t ∈ ss := List.mem_of_getElem? hsv
      have htk : ss.take (k + 1) = ss.take k ++ [t] := by rw [List.take_add_one, hsv]; rfl
      have hal : Below (w.heap.size + 1) (w.alloc (.cells #[.string s] 80)) (wr.alloc (.cells #[.string t] 80)) := hb.out.alloc (by omega) _
      have HMEM := Lib.hid hmem
      have HTK := Lib.hid htk
      have E := fun W => Lib.hid (equals_any t s W)
      clear hcl hsv hks hmem htk
      go_wp2_with fail
      refine (E _).out.mono ?_
      rintro e w1 ⟨hw, hb1⟩
      have b1 := Lib.hid (hal.trans (hb1.mono (by simp; omega)))
      have b1w : Below w.heap.size w w1 := hA.trans (b1.out.mono (by omega))
      clear hb1 E hal
      rcases hw with ⟨he, rfl⟩ | ⟨he, rfl⟩
      · have HE := Lib.hid he
        clear he
        go_wp2
        go_ret
        exact ⟨Or.inl ⟨HE.out ▸ HMEM.out, rfl⟩, b1w⟩
      · have HE := Lib.hid he
        clear he
        go_wp2
        go_roundw
        case rel => exact ⟨k + 1, by omega, by go_num, Lib.hid (by rw [HTK.out, List.mem_append]; rintro (h | h); exact hno.out h; exact HE.out (by simpa using h : s = t).symm), b1⟩
        case measure => simp [intOf]; omega
    · obtain rfl : k = n := by omega
      have hall : ss.take k = ss := List.take_of_length_le (by rw [HN.out]; exact Nat.le_refl _)
      have HF : Hid (s ∉ ss) := Lib.hid (by have := hno.out; rwa [hall] at this)
      clear hall
      go_wp2
      go_ret
      exact ⟨Or.inr ⟨HF.out, rfl⟩, hbw⟩
end Go.Proofs.YthfgnhgijgjggaaDoor
/- Contract: CarHeader.Matches. -/
namespace Go.Proofs.YthfgnhgijgjggaaDoor
open Go.RowKit

/-- The headers match. -/
def Mat (va vb : Nat) (sa sb : List ByteArray) : Prop := va = vb ∧ sa.length = sb.length ∧ ∀ s ∈ sa, s ∈ sb

theorem equals_yes (s t : ByteArray) (h : s = t) (w : World) : Calls Tryd.prog 64 #[.agg #[.string s], .agg #[.string t]] w fun e w' => e = .returned (.bool true) ∧ Below w.heap.size w w' :=
  (equals_any s t w).mono fun e w' ⟨hw, hb⟩ => ⟨by rcases hw with ⟨_, e⟩ | ⟨n, _⟩; exact e; exact absurd h n, hb⟩
theorem equals_no (s t : ByteArray) (h : ¬ s = t) (w : World) : Calls Tryd.prog 64 #[.agg #[.string s], .agg #[.string t]] w fun e w' => e = .returned (.bool false) ∧ Below w.heap.size w w' :=
  (equals_any s t w).mono fun e w' ⟨hw, hb⟩ => ⟨by rcases hw with ⟨n, _⟩ | ⟨_, e⟩; exact absurd n h; exact e, hb⟩

theorem ints_bne {a b : Nat} (h : a ≠ b) : ((a : Int) != b) = true := by
  rw [bne_iff_ne]; omega

set_option maxRecDepth 100000 in
set_option maxHeartbeats 8000000 in
theorem matches_any (a b : Value) (va vb : Nat) (sa sb : List ByteArray) (w : World) (ha : SS w a sa) (hb : SS w b sb) (hna : sa.length ≤ 1000) (hnb : sb.length ≤ 1000) :
    Calls Tryd.prog 37 #[.agg #[a, .int .u64 va], .agg #[b, .int .u64 vb]] w fun e w' => TwoWays (Mat va vb sa sb) e ∧ Below w.heap.size w w' := by
  have hA : Below w.heap.size w ((w.alloc (.cells #[a, .int .u64 va] 74)).alloc (.cells #[b, .int .u64 vb] 74)) := ((Below.refl _ _).alloc (Nat.le_refl _) _).alloc (by simp) _
  have hr0 := heap_alloc2_old w (.cells #[a, .int .u64 va] 74) (.cells #[b, .int .u64 vb] 74)
  have hr1 := heap_alloc2_new w (.cells #[a, .int .u64 va] 74) (.cells #[b, .int .u64 vb] 74)
  obtain ⟨Aa, ca, rfl, hca, hcella⟩ := ha
  have HSB := Lib.hid hb
  obtain ⟨Ab, cb, rfl, hcb, hcellb⟩ := hb
  obtain ⟨na, hNA⟩ : ∃ n, n = sa.length := ⟨_, rfl⟩
  obtain ⟨nb, hNB⟩ : ∃ n, n = sb.length := ⟨_, rfl⟩
  rw [← hNA] at hca hna hr0 hr1 hA
  rw [← hNB] at hcb hnb hr0 hr1 hA HSB
  have HCA := Lib.hid hcella
  have HCB := Lib.hid hcellb
  have HNA := Lib.hid hNA
  have HNB := Lib.hid hNB
  rw [← hNA, ← hNB]
  have HR0 := Lib.hid hr0
  have HR1 := Lib.hid hr1
  clear hcella hcellb hca hcb hNA hNB hr0 hr1
  by_cases hv : va = vb
  · subst hv
    by_cases hl : na = nb
    · subst hl
      by_cases h1 : na = 1
      · subst h1
        obtain ⟨ba, oa, rfl, hcla⟩ := HCA.out (by rw [← HNA.out]; omega)
        obtain ⟨bb, ob, rfl, hclb⟩ := HCB.out (by rw [← HNB.out]; omega)
        obtain ⟨s, hs⟩ : ∃ s, sa = [s] := List.length_eq_one_iff.1 HNA.out.symm
        obtain ⟨t, ht⟩ : ∃ t, sb = [t] := List.length_eq_one_iff.1 HNB.out.symm
        have c0 := hcla 0 s (by rw [hs]; rfl)
        have c1 := hclb 0 t (by rw [ht]; rfl)
        rw [Nat.add_zero] at c0 c1
        have hm : Hid (Mat va va sa sb ↔ s = t) := Lib.hid ⟨fun h => by have := h.2.2 s (by rw [hs]; simp); rw [ht] at this; simpa using this, fun h => ⟨rfl, by rw [hs, ht]; rfl, by rw [hs, ht, h]; simp⟩⟩
        clear hcla hclb hs ht
        by_cases hst : s = t
        · skip
          have E := fun W => Lib.hid (equals_yes s t hst W)
          have hres := Lib.hid (hm.out.2 hst)
          have d0 := below_cell hA c0
          have d1 := below_cell hA c1
          clear hst c0 c1
          go_enter Tryd.func37, Tryd.ntmps37
          go_wp2_with fail
          go_region_with (go_at_call 64; refine (E _).out.mono ?_; rintro e w1 ⟨rfl, hb1⟩)
          all_goals
            go_wp2
            go_ret
            exact ⟨Or.inl ⟨hres.out, rfl⟩, below_next (hA.drewN 1) hb1⟩
        · skip
          have E := fun W => Lib.hid (equals_no s t hst W)
          have hres := Lib.hid (fun h => hst (hm.out.1 h))
          have d0 := below_cell hA c0
          have d1 := below_cell hA c1
          clear hst c0 c1
          go_enter Tryd.func37, Tryd.ntmps37
          go_wp2_with fail
          go_region_with (go_at_call 64; refine (E _).out.mono ?_; rintro e w1 ⟨rfl, hb1⟩)
          all_goals
            go_wp2
            go_ret
            exact ⟨Or.inr ⟨hres.out, rfl⟩, below_next (hA.drewN 1) hb1⟩
      · have hne1 : ((na : Int) == 1) = false := by rw [beq_eq_false_iff_ne]; omega
        obtain ⟨W2, hW2⟩ : ∃ W2, W2 = ((w.alloc (.cells #[.slice Aa na ca, .int .u64 va] 74)).alloc (.cells #[.slice Ab na cb, .int .u64 va] 74)) := ⟨_, rfl⟩
        have hW2s : W2.heap.size = w.heap.size + 2 := by rw [hW2]; simp
        have hW2A : Below w.heap.size w W2 := by rw [hW2]; exact hA
        have hW2R : HdrAt W2 (w.heap.size + 1) (.slice Ab na cb) va := by rw [hW2]; exact HR1.out
        have HW := Lib.hid (show Hid (W2.heap.size = w.heap.size + 2) ∧ Hid (Below w.heap.size w W2) ∧ Hid (HdrAt W2 (w.heap.size + 1) (.slice Ab na cb) va) from ⟨Lib.hid hW2s, Lib.hid hW2A, Lib.hid hW2R⟩)
        have HEQ := Lib.hid hW2
        clear hW2 hW2s hW2A hW2R h1 hA
        go_enter Tryd.func37, Tryd.ntmps37
        go_wp2
        rw [← HEQ.out]
        go_loopw [35] (fun i wr => ∃ (k : Nat), k ≤ na ∧ i = .int .i64 k ∧ Hid (∀ s ∈ sa.take k, s ∈ sb) ∧ Hid (Below (w.heap.size + 2) W2 wr)) (fun i _ => na - (intOf i).toNat)
        case atStart => exact ⟨0, Nat.zero_le _, rfl, Lib.hid (by simp), Lib.hid (Below.refl _ _)⟩
        case round =>
          obtain ⟨k, hk, rfl, hall, hbl⟩ := hrel
          have hwr : w.heap.size + 2 ≤ wr.heap.size := by have := hbl.out.size; have := HW.out.1.out; omega
          have hbw : Below w.heap.size w wr := HW.out.2.1.out.trans (hbl.out.mono (by omega))
          by_cases hlt : k < na
          · obtain ⟨b, o, rfl, hcl⟩ := HCA.out (by rw [← HNA.out]; omega)
            have hks : k < sa.length := by rw [← HNA.out]; exact hlt
            obtain ⟨t, hsv⟩ : ∃ t, sa[k]? = some t := ⟨_, List.getElem?_eq_getElem hks⟩
            have c0 := below_cell hbw (hcl k t hsv)
            have htk : sa.take (k + 1) = sa.take k ++ [t] := by rw [List.take_add_one, hsv]; rfl
            have hmem : t ∈ sa := List.mem_of_getElem? hsv
            have hal : Below wr.heap.size wr (wr.alloc (.cells #[.string t] 80)) := (Below.refl _ _).alloc (Nat.le_refl _) _
            have hal2 : Below (w.heap.size + 2) W2 (wr.alloc (.cells #[.string t] 80)) := hbl.out.alloc hwr _
            have hh : HdrAt (wr.alloc (.cells #[.string t] 80)) (w.heap.size + 1) (.slice Ab na cb) va := (hal2.block _ (by omega)).trans HW.out.2.2.out
            have E := Lib.hid (containsRoot_any (w.heap.size + 1) (.slice Ab na cb) va sb t (wr.alloc (.cells #[.string t] 80)) hh (HSB.out.below (hbw.trans (hal.mono (by omega)))) (by rw [← HNB.out]; exact hnb))
            have HTK := Lib.hid htk
            have HMEM := Lib.hid hmem
            clear hcl hsv hks htk hmem hh
            go_wp2_with fail
            refine E.out.mono ?_
            rintro e w1 ⟨hw, hb1⟩
            have b1 := Lib.hid (hal2.trans (hb1.mono (by simp; omega)))
            have b1w : Below w.heap.size w w1 := HW.out.2.1.out.trans (b1.out.mono (by omega))
            clear hb1 E hal hal2
            rcases hw with ⟨he, rfl⟩ | ⟨he, rfl⟩
            · have HE := Lib.hid he
              clear he
              go_wp2
              go_roundw
              case rel => exact ⟨k + 1, by omega, by go_num, Lib.hid (by rw [HTK.out]; intro s hs; rcases List.mem_append.1 hs with h | h; exact hall.out s h; obtain rfl : s = t := (by simpa using h); exact HE.out), b1⟩
              case measure => simp [intOf]; omega
            · have HE := Lib.hid he
              clear he
              go_wp2
              go_ret
              exact ⟨Or.inr ⟨fun h => HE.out (h.2.2 t HMEM.out), rfl⟩, b1w⟩
          · obtain rfl : k = na := by omega
            have hal : sa.take k = sa := List.take_of_length_le (by rw [HNA.out]; exact Nat.le_refl _)
            have HF : Hid (Mat va va sa sb) := Lib.hid ⟨rfl, by rw [← HNA.out, ← HNB.out], by have := hall.out; rwa [hal] at this⟩
            clear hal
            go_wp2
            go_ret
            exact ⟨Or.inl ⟨HF.out, rfl⟩, hbw⟩
    · have hne := ints_bne hl
      have hno : Hid (¬ Mat va va sa sb) := Lib.hid fun h => hl (by rw [HNA.out, HNB.out]; exact h.2.1)
      clear hl
      go_enter Tryd.func37, Tryd.ntmps37
      go_wp2
      go_ret
      exact ⟨Or.inr ⟨hno.out, rfl⟩, hA⟩
  · have hne := ints_bne hv
    have hno : Hid (¬ Mat va vb sa sb) := Lib.hid fun h => hv h.1
    clear hv
    go_enter Tryd.func37, Tryd.ntmps37
    go_wp2
    go_ret
    exact ⟨Or.inr ⟨hno.out, rfl⟩, hA⟩
end Go.Proofs.YthfgnhgijgjggaaDoor
/- Contract: impl.headerIn. -/
namespace Go.Proofs.YthfgnhgijgjggaaDoor
open Go.RowKit

/-- An identifier's bytes as a text. -/
def encS (x : CidD) : ByteArray := ⟨(cidEnc x).toArray⟩
abbrev encs (xs : List CidD) : List ByteArray := xs.map encS

theorem info_cc : ∃ i, Tryd.prog.info? 80 = some i ∧ i.zero = some (.agg #[.string ⟨#[]⟩]) ∧ i.size = 1 ∧ i.bytes = 16 := by
  have h : (Tryd.prog.info? 80).map (fun i => (i.zero, i.size, i.bytes)) = some (some (.agg #[.string ⟨#[]⟩]), 1, 16) := by kernel_rfl
  obtain ⟨i, hi, h2⟩ := Option.map_eq_some_iff.1 h
  simp only [Prod.mk.injEq] at h2
  exact ⟨i, hi, h2.1, h2.2.1, h2.2.2⟩

theorem ss_of_own {w : World} {lo : Nat} {v : Value} {e : TypeId} {ss : List ByteArray} (ho : w.ownsRow lo e 1 v ss.length (ss.map (fun s => Value.string s))) : SS w v ss := by
  obtain ⟨hl, ho⟩ := ho
  rcases ho with ⟨rfl, h0⟩ | ⟨g, cap, cur, rfl, hbg, hg, hnc, hcm, hcs, ht⟩
  · exact ⟨none, 0, by rw [h0], by omega, fun h => by omega⟩
  · refine ⟨_, cap, rfl, hnc, fun _ => ⟨g, 0, rfl, fun j s hj => ?_⟩⟩
    have hadd : (⟨g, 0 + j, none⟩ : Addr) = ⟨g, j, none⟩ := by rw [Nat.zero_add]
    rw [hadd, cell_of_row w g j cur e (0, 0) hg]
    have h3 : (ss.map (fun s => Value.string s))[j]? = some (.string s) := by rw [List.getElem?_map, hj]; rfl
    rw [← ht, List.getElem?_take] at h3
    split at h3
    · rw [← Array.getElem?_toList]; exact h3
    · cases h3

theorem bufSet2 {w : World} {b : Nat} {x y : Value} {t : TypeId} (h : w.heap[b]? = some (.cells #[x, y] t (0, 0))) (v : Value) : (w.setCell ⟨b, 0, none⟩ v).heap[b]? = some (.cells #[v, y] t (0, 0)) := by
  have := Lib.heap_setCell_same (i := 0) h v
  simpa using this

theorem ownsRow_setCell {w : World} {B size n g cap : Nat} {e : TypeId} {m : Nat} {xs : List Value} (h : w.ownsRow B e size (.slice (some ⟨g, 0, none⟩) m cap) n xs) (b i : Nat) (u : Value) (hne : g ≠ b) : (w.setCell ⟨b, i, none⟩ u).ownsRow B e size (.slice (some ⟨g, 0, none⟩) m cap) n xs := by
  refine ⟨h.1, ?_⟩
  rcases h.2 with ⟨h, _⟩ | ⟨g', cap', cur, hv, hbg, hg, rest⟩
  · cases h
  · injection hv with h1 h2 h3
    injection h1 with h1
    injection h1 with h1
    subst h1 h2 h3
    exact .inr ⟨g, cap, cur, rfl, hbg, (Below.heap_setCell _ _ _ _ hne).trans hg, rest⟩

set_option maxRecDepth 100000 in
set_option maxHeartbeats 8000000 in
theorem headerIn_ok (a : Value) (xs : List CidD) (ver : Nat) (w : World) (ha : CS w a xs) (hg : hgood xs) (hu : UvS w) :
    Calls Tryd.prog 36 #[a, .int .u64 ver] w fun e w' => (∃ h v, e = .returned (.tuple #[.pointer (some ⟨h, 0, none⟩), .bool true]) ∧ HdrAt w' h v ver ∧ SS w' v (encs xs)) ∧ Below w.heap.size w w' := by
  obtain ⟨i0, hi, hz0, hz1, hz2⟩ := info_cc
  obtain ⟨A, c, rfl, hc, hcells⟩ := ha
  obtain ⟨n, hN⟩ : ∃ n, n = xs.length := ⟨_, rfl⟩
  have hn : n ≤ 100 := by rw [hN]; exact hg.1
  have hmk : (Instr.makeSlice 72 (.int .i64 0) (.int .i64 0)).run Tryd.prog w = .ok (.slice (some ⟨w.heap.size, 0, none⟩) 0 0) (w.alloc (.cells #[] 80)) := by
    have h := run_makeSlice (P := Tryd.prog) w 72 80 i0 (.agg #[.string ⟨#[]⟩]) Tryd.underlying72 hi hz0 .i64 .i64 0 0 (by omega) (by omega) (by rw [hz1]; decide) (by rw [hz2]; decide) (by decide)
    rw [hz1] at h
    have e : madeCells (Value.agg #[.string ⟨#[]⟩]).cells ((0 : Int).toNat * 1) = #[] := Array.eq_empty_of_size_eq_zero (by rw [size_madeCells]; rfl)
    rw [e] at h
    exact h
  have HC := Lib.hid hcells
  have HN := Lib.hid hN
  have HG := Lib.hid hg
  have HU := Lib.hid hu
  rw [← hN]
  clear hcells hc hN hg hu
  go_enter Tryd.func36, Tryd.ntmps36
  go_wp2
  go_loopw [17] (fun i wr => ∃ (k : Nat) (v : Value), k ≤ n ∧ i = .int .i64 k ∧ Hid (HdrAt wr (w.heap.size + 1) v ver) ∧ Hid (wr.ownsRow w.heap.size 80 1 v k ((encs (xs.take k)).map Value.string)) ∧ Hid (v.ownBlock ≠ some (w.heap.size + 1)) ∧ Below w.heap.size w wr ∧ Hid (w.heap.size + 2 ≤ wr.heap.size)) (fun i _ => n - (intOf i).toNat)
  case atStart =>
    have r1 := heap_alloc2_new w (.cells #[] 80) (.cells #[.slice (some ⟨w.heap.size, 0, none⟩) 0 0, .int .u64 ver] 74)
    have r0 := heap_alloc2_old w (.cells #[] 80) (.cells #[.slice (some ⟨w.heap.size, 0, none⟩) 0 0, .int .u64 ver] 74)
    exact ⟨0, _, Nat.zero_le _, rfl, Lib.hid r1, Lib.hid ⟨rfl, .inr ⟨w.heap.size, 0, #[], rfl, Nat.le_refl _, r0, Nat.le_refl _, by decide, rfl, rfl⟩⟩, Lib.hid (by simp [Value.ownBlock]), ((Below.refl _ _).alloc (Nat.le_refl _) _).alloc (by simp) _, Lib.hid (by simp)⟩
  case round =>
    obtain ⟨k, v, hk, rfl, hh, hown, hob, hb, hsz⟩ := hrel
    by_cases hlt : k < n
    · obtain ⟨b, o, rfl, hcl⟩ := HC.out (by rw [← HN.out]; omega)
      have hks : k < xs.length := by rw [← HN.out]; exact hlt
      obtain ⟨x, hsv⟩ : ∃ x, xs[k]? = some x := ⟨_, List.getElem?_eq_getElem hks⟩
      obtain ⟨q0, q1, q2, q3⟩ := hcl k x hsv
      have c0 := below_cell hb q0
      have c1 := below_cell hb q1
      have c2 := below_cell hb q2
      have c3 := below_cell hb q3
      have hxg := HG.out.2 x (List.mem_of_getElem? hsv)
      have htk : (encs (xs.take (k + 1))).map Value.string = (encs (xs.take k)).map Value.string ++ [.string (encS x)] := by rw [List.take_add_one, hsv]; simp
      have hx : x.dig = (⟨x.dig.toArray⟩ : ByteArray).data.toList := rfl
      have hd : (⟨x.dig.toArray⟩ : ByteArray).size ≤ 2147483600 := by rw [bs_size]; have := hxg.1; omega
      have C := fun W (h : Below w.heap.size w W) => Lib.hid (cidIn_ok x hxg.2 ⟨x.dig.toArray⟩ hx hd W (HU.out.below h))
      have HTK := Lib.hid htk
      change ∀ W, Below w.heap.size w W → Hid (Calls _ _ _ W fun e w' => e = .returned (.tuple #[.agg #[.string (encS x)], .bool true]) ∧ Below W.heap.size W w') at C
      generalize encS x = S at *
      generalize (⟨x.dig.toArray⟩ : ByteArray) = d at *
      generalize (x.ver : Int) = v0 at *
      generalize (x.codec : Int) = v1 at *
      generalize (x.code : Int) = v2 at *
      have hal : Below wr.heap.size wr (wr.alloc (cidO v0 v1 v2 d)) := (Below.refl _ _).alloc (Nat.le_refl _) _
      have C1 := C _ (hb.trans (hal.mono hb.size))
      clear hcl hsv hks q0 q1 q2 q3 htk hx hd hxg C
      go_wp2_with fail
      refine C1.out.mono ?_
      rintro e w2 ⟨rfl, hb2⟩
      have hbw2 := below_next hal hb2
      have HB2 := Lib.hid hbw2
      clear hal hb2 hbw2 C1 c0 c1 c2 c3
      go_wp2_with fail
      have hx3 := heap_alloc_new w2 (.cells #[.string S] 80)
      have hb3 : Below wr.heap.size wr (w2.alloc (.cells #[.string S] 80)) := HB2.out.alloc HB2.out.size _
      have hs3 : (w2.alloc (.cells #[.string S] 80)).heap.size = w2.heap.size + 1 := by simp
      have hs2 := HB2.out.size
      generalize w2.alloc (.cells #[.string S] 80) = w3 at *
      have hh3 : HdrAt w3 (w.heap.size + 1) v ver := (hb3.block _ (by have := hsz.out; omega)).trans hh.out
      have k0 : w3.cell? ⟨w.heap.size + 1, 0, none⟩ = some v := cell_of_row' (cur := [_, _]) hh3 0
      have f0 : w3.frozen? ⟨w.heap.size + 1, 0, none⟩ = false := frozen_of_row' (cur := [_, _]) hh3 0
      have kx : w3.cell? ⟨w2.heap.size, 0, none⟩ = some (.string S) := cell_of_row' (cur := [_]) hx3 0
      have k0a : (w3.alloc (.cells #[.string S] 80)).cell? ⟨w.heap.size + 1, 0, none⟩ = some v := below_cell ((Below.refl _ _).alloc (Nat.le_refl _) _) k0
      have hown3 := ownsRow_below hown.out hb3
      have hbw3 : Below w.heap.size w w3 := hb.trans (hb3.mono hb.size)
      have HS3 := Lib.hid hs3
      have HH3 := Lib.hid hh3
      have HB3 := Lib.hid hbw3
      have HO3 := Lib.hid hown3
      have hlen : k + 1 ≤ maxLen := by unfold maxLen; omega
      have hbase : w.heap.size ≤ w3.heap.size := by have := hbw3.size; omega
      have hbytes : (k + 1) * 16 ≤ 140737488355328 := by omega
      have hsz3 : w.heap.size + 2 ≤ w3.heap.size := by have := hsz.out; omega
      clear hx3 hb3 hs3 hh3 hown3 hbw3
      go_region_law (refine step_append_lies _ rfl (.tmp 33) (.tmp 35) 72 rfl w.heap.size 80 i0 (.agg #[.string ⟨#[]⟩]) 1 16 Tryd.underlying72 hi hz0 hz1 hz2 rfl (by decide) v k _ (by rfl) (ownsRow_below HO3.out (((Below.refl _ w3).drew).alloc (Nat.le_refl _) _)) ⟨w3.heap.size, 0, none⟩ 1 1 [.string S] (by rfl) rfl (World.news_of_block (heap_alloc_new w3.drew _)) (by simp [Value.oneCell']) (by decide) hlen hbytes (by simp; omega) _ rfl ?_; intro g cap w6 hown6 hgrow hat hlt6; have hh6 : HdrAt w6 (w.heap.size + 1) v ver := (hgrow.block _ (by simp; omega) (fun e => hob.out e.symm)).trans (((((Below.refl w3.heap.size w3).drew).alloc (Nat.le_refl _) _).block _ (by omega)).trans HH3.out); have m0 : w6.cell? ⟨w.heap.size + 1, 0, none⟩ = some v := cell_of_row' (cur := [_, _]) hh6 0; have m1 : w6.frozen? ⟨w.heap.size + 1, 0, none⟩ = false := frozen_of_row' (cur := [_, _]) hh6 0)
      all_goals (
        have hset := bufSet2 hh6 (.slice (some ⟨g, 0, none⟩) (k + 1) cap)
        have hbw6 : Below w.heap.size w w6 := ((HB3.out.drew).alloc hbase _).grown hgrow (by simp; omega) (fun q hq => (HO3.out.lt q hq).1)
        have hgne : g ≠ w.heap.size + 1 := by
          rcases hat with h | h
          · exact fun e => hob.out (by rw [h, e])
          · have h2 : g = w3.heap.size + 1 := by simpa using h
            omega
        have hown7 := ownsRow_setCell hown6 (w.heap.size + 1) 0 (.slice (some ⟨g, 0, none⟩) (k + 1) cap) hgne
        have HSET := Lib.hid hset
        have HO7 := Lib.hid hown7
        have hb7 : Below w.heap.size w (w6.setCell ⟨w.heap.size + 1, 0, none⟩ (.slice (some ⟨g, 0, none⟩) (k + 1) cap)) := hbw6.setCell (by show w.heap.size ≤ w.heap.size + 1; omega) _
        have hs7 : w.heap.size + 2 ≤ (w6.setCell ⟨w.heap.size + 1, 0, none⟩ (.slice (some ⟨g, 0, none⟩) (k + 1) cap)).heap.size := by
          have := hgrow.size
          simp only [World.setCell, Array.size_modify] at *
          simp at this ⊢
          omega
        clear hset hown7 hown6 hgrow hat hh6 m0 m1
        go_wp2
        go_roundw
        case rel => exact ⟨k + 1, _, by omega, by go_num, HSET, Lib.hid (by rw [HTK.out]; exact HO7.out), Lib.hid (fun e => hgne (by simpa [Value.ownBlock] using e)), hb7, Lib.hid hs7⟩
        case measure => simp [intOf]; omega)
    · obtain rfl : k = n := by omega
      have hall : xs.take k = xs := List.take_of_length_le (by rw [HN.out]; exact Nat.le_refl _)
      have HO := Lib.hid hown.out
      rw [hall] at HO
      clear hall hown
      go_wp2
      go_ret2
      refine ⟨⟨_, v, rfl, hh.out, ?_⟩, hb⟩
      have ho := HO.out
      have e : k = (encs xs).length := by rw [List.length_map]; exact HN.out
      rw [e] at ho
      exact ss_of_own ho
end Go.Proofs.YthfgnhgijgjggaaDoor
