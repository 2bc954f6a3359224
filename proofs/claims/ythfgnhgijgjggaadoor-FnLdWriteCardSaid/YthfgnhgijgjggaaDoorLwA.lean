/- Contract: impl.bytesOf: the bytes of strings, one slice each. -/
import Derived.Test.YthfgnhgijgjggaaDoorRdrMem
import Derived.Test.YthfgnhgijgjggaaDoorUvA
import Derived.Maps.AppendAt
import Derived.OwnWalk
import Derived.Laws.AppendOwn
namespace Go.Proofs.YthfgnhgijgjggaaDoor
open Go.RowKit

/-- The slice value v holds the strings ss. -/
def SS (w : World) (v : Value) (ss : List ByteArray) : Prop :=
  ∃ (A : Option Addr) (c : Nat), v = .slice A ss.length c ∧ ss.length ≤ c ∧ (0 < ss.length → ∃ b o, A = some ⟨b, o, none⟩ ∧ ∀ (j : Nat) (s : ByteArray), ss[j]? = some s → w.cell? ⟨b, o + j, none⟩ = some (.string s))
theorem SS.below {w w' : World} {v : Value} {ss : List ByteArray} (h : SS w v ss) (hb : Below w.heap.size w w') : SS w' v ss := by
  obtain ⟨A, c, e, hc, h⟩ := h
  refine ⟨A, c, e, hc, fun hl => ?_⟩
  obtain ⟨b, o, e, h⟩ := h hl
  exact ⟨b, o, e, fun j s hj => below_cell hb (h j s hj)⟩

/-- x is a slice, from block lo on and not in row r, of the bytes of s. -/
def PartN (w : World) (lo : Nat) (r : Option Nat) (x : Value) (s : ByteArray) : Prop :=
  ∃ b c, x = .slice (some ⟨b, 0, none⟩) s.size c ∧ s.size ≤ c ∧ lo ≤ b ∧ b < w.heap.size ∧ some b ≠ r ∧ ∀ i (h : i < s.data.toList.length), w.cell? ⟨b, 0 + i, none⟩ = some (.int .u8 (s.data.toList[i].toNat))

theorem PartN.grown {w w2 : World} {lo : Nat} {row r2 : Option Nat} {x : Value} {s : ByteArray} (h : PartN w lo row x s) (hg : w.grownBy w2 row) (hr : r2 = row ∨ r2 = some w.heap.size) : PartN w2 lo r2 x s := by
  obtain ⟨b, c, e, hc, h1, h2, h3, h4⟩ := h
  refine ⟨b, c, e, hc, h1, Nat.lt_of_lt_of_le h2 hg.size, ?_, fun i hi => ?_⟩
  · rcases hr with rfl | rfl
    · exact h3
    · intro e; injection e; omega
  · rw [World.cell?_of_block (hg.block b h2 h3)]; exact h4 i hi
theorem PartN.below {w w2 : World} {lo : Nat} {row : Option Nat} {x : Value} {s : ByteArray} (h : PartN w lo row x s) (hg : Below w.heap.size w w2) : PartN w2 lo row x s := by
  obtain ⟨b, c, e, hc, h1, h2, h3, h4⟩ := h
  exact ⟨b, c, e, hc, h1, Nat.lt_of_lt_of_le h2 hg.size, h3, fun i hi => below_cell hg (h4 i hi)⟩

theorem ownsRow_below {w w' : World} {B size n : Nat} {e : TypeId} {v : Value} {xs : List Value} (h : w.ownsRow B e size v n xs) (hb : Below w.heap.size w w') : w'.ownsRow B e size v n xs := by
  refine ⟨h.1, ?_⟩
  rcases h.2 with h | ⟨g, cap, cur, hv, hbg, hg, rest⟩
  · exact .inl h
  · exact .inr ⟨g, cap, cur, hv, hbg, (hb.block g (block_of_row hg)).trans hg, rest⟩

/-- The slice value v (nil, or a row from block lo on) holds slices of the bytes of the strings ss, that lie from block lo on. -/
def Parts (w : World) (lo : Nat) (v : Value) (ss : List ByteArray) : Prop :=
  ∃ (A : Option Addr) (c : Nat), v = .slice A ss.length c ∧ ss.length ≤ c ∧ (0 < ss.length → ∃ g, A = some ⟨g, 0, none⟩ ∧ lo ≤ g ∧ g < w.heap.size ∧ ∀ (j : Nat) (s : ByteArray), ss[j]? = some s → ∃ x, w.cell? ⟨g, 0 + j, none⟩ = some x ∧ PartN w lo none x s)
theorem Parts.below {w w' : World} {lo : Nat} {v : Value} {ss : List ByteArray} (h : Parts w lo v ss) (hb : Below w.heap.size w w') : Parts w' lo v ss := by
  obtain ⟨A, c, e, hc, h⟩ := h
  refine ⟨A, c, e, hc, fun hl => ?_⟩
  obtain ⟨g, e, h1, h2, h⟩ := h hl
  refine ⟨g, e, h1, Nat.lt_of_lt_of_le h2 hb.size, fun j s hj => ?_⟩
  obtain ⟨x, hx, hp⟩ := h j s hj
  exact ⟨x, below_cell hb hx, hp.below hb⟩

theorem parts_of_own {w : World} {lo : Nat} {v : Value} {n : Nat} {xs : List Value} {e : TypeId} {ss : List ByteArray} (hn : ss.length = n) (ho : w.ownsRow lo e 1 v n xs) (hp : ∀ (j : Nat) (x : Value) (s : ByteArray), xs[j]? = some x → ss[j]? = some s → PartN w lo v.ownBlock x s) : Parts w lo v ss := by
  subst hn
  obtain ⟨hl, ho⟩ := ho
  rcases ho with ⟨rfl, h0⟩ | ⟨g, cap, cur, rfl, hbg, hg, hnc, hcm, hcs, ht⟩
  · exact ⟨none, 0, by rw [h0], by omega, fun h => by omega⟩
  · refine ⟨_, cap, rfl, hnc, fun _ => ⟨g, rfl, hbg, block_of_row hg, fun j s hj => ?_⟩⟩
    have hjs : j < ss.length := by
      rcases Nat.lt_or_ge j ss.length with h | h
      · exact h
      · rw [List.getElem?_eq_none h] at hj; cases hj
    have hjx : j < xs.length := by omega
    refine ⟨xs[j], ?_, ?_⟩
    · have hadd : (⟨g, 0 + j, none⟩ : Addr) = ⟨g, j, none⟩ := by rw [Nat.zero_add]
      rw [hadd, cell_of_row w g j cur e (0, 0) hg]
      have h3 : xs[j]? = some xs[j] := List.getElem?_eq_getElem hjx
      generalize xs[j] = y at h3
      rw [← ht, List.getElem?_take] at h3
      split at h3
      · rw [← Array.getElem?_toList]; exact h3
      · cases h3
    · obtain ⟨b, c, e1, h1, h2, h3, _, h5⟩ := hp j _ _ (List.getElem?_eq_getElem hjx) hj
      exact ⟨b, c, e1, h1, h2, h3, by simp, h5⟩

theorem info_bsl : ∃ i, Tryd.prog.info? 43 = some i ∧ i.zero = some (.slice none 0 0) ∧ i.size = 1 ∧ i.bytes = 24 := by
  have h : (Tryd.prog.info? 43).map (fun i => (i.zero, i.size, i.bytes)) = some (some (.slice none 0 0), 1, 24) := by kernel_rfl
  obtain ⟨i, hi, h2⟩ := Option.map_eq_some_iff.1 h
  simp only [Prod.mk.injEq] at h2
  exact ⟨i, hi, h2.1, h2.2.1, h2.2.2⟩

set_option maxRecDepth 100000 in
set_option maxHeartbeats 4000000 in
theorem bytesOf_any (v : Value) (ss : List ByteArray) (w : World) (hs : SS w v ss) (hn : ss.length ≤ 1000) :
    Calls Tryd.prog 54 #[v] w fun e w' => (∃ v', e = .returned v' ∧ Parts w' w.heap.size v' ss) ∧ Below w.heap.size w w' := by
  obtain ⟨i0, hi, hz0, hz1, hz2⟩ := info_bsl
  obtain ⟨A, c, rfl, hc, hcells⟩ := hs
  obtain ⟨n, hN⟩ : ∃ n, n = ss.length := ⟨_, rfl⟩
  rw [← hN] at hc hn
  have HC := Lib.hid hcells
  have HN := Lib.hid hN
  rw [← hN]
  clear hcells hc hN
  go_enter Tryd.func54, Tryd.ntmps54
  go_wp2
  go_loopw [3, 8] (fun v i wr => ∃ (k : Nat) (xs : List Value), k ≤ n ∧ i = .int .i64 k ∧ Hid (xs.length = k) ∧ wr.ownsRow w.heap.size 43 1 v k xs ∧ Hid (∀ (j : Nat) (x : Value) (s : ByteArray), xs[j]? = some x → ss[j]? = some s → PartN wr w.heap.size v.ownBlock x s) ∧ Below w.heap.size w wr) (fun _ i _ => n - (intOf i).toNat)
  case atStart => exact ⟨0, [], Nat.zero_le _, rfl, Lib.hid rfl, ⟨rfl, .inl ⟨rfl, rfl⟩⟩, Lib.hid (fun j x s h => by simp at h), Below.refl _ _⟩
  case round =>
    obtain ⟨k, xs, hk, rfl, hxl, hown, hp, hb⟩ := hrel
    have hBw := hb.size
    by_cases hlt : k < n
    · obtain ⟨b, o, rfl, hcl⟩ := HC.out (by rw [← HN.out]; omega)
      have hks : k < ss.length := by rw [← HN.out]; exact hlt
      obtain ⟨s, hsv⟩ : ∃ s, ss[k]? = some s := ⟨_, List.getElem?_eq_getElem hks⟩
      have hc0 := below_cell hb (hcl k s hsv)
      obtain ⟨c1, w1, hconv, hc1, hb1, hsz1, -, hcells1⟩ := conv_bytes (P := Tryd.prog) Tryd.underlying9 Tryd.underlying43 Tryd.underlying5 wr s
      have HSV := Lib.hid hsv
      have HSZ := Lib.hid hsz1
      have HCE := Lib.hid hcells1
      have HKS := Lib.hid hks
      have hown1 := ownsRow_below hown hb1
      have hown0 := hown
      clear hcl hsv hsz1 hcells1 hown hks
      go_wp2_with (at_builtin; refine wpList_append_own_at _ rfl _ _ 111 rfl w.heap.size 43 i0 (.slice none 0 0) 1 24 Tryd.underlying111 hi hz0 hz1 hz2 rfl (by decide) _ _ _ rfl (hown1.alloc _) ⟨w1.heap.size, 0, none⟩ 1 1 [.slice (some ⟨wr.heap.size, 0, none⟩) s.size c1] rfl rfl ?c1 ?c2 ?c3 ?c4 ?c5 ?_)
      case c1 =>
        intro j u hj
        match j, hj with
        | 0, hj => simp at hj; subst hj; simp [Addr.add]
      case c2 => intro u hu; simp at hu; subst hu; rfl
      case c3 => unfold maxLen; omega
      case c4 => omega
      case c5 => have := hb1.size; simp; omega
      intro v' w2 hown' hgrow _ hat
      have hbw1 := hb1.size
      have hb01 : Below w.heap.size w w1 := hb.trans (hb1.mono hBw)
      have hb2 : Below w.heap.size w w2 := (hb01.alloc (by omega) _).grown hgrow (by simp; omega) (fun q hq => (hown1.lt q hq).1)
      have hpn : Hid (∀ (j : Nat) (x : Value) (s' : ByteArray), (xs ++ [Value.slice (some ⟨wr.heap.size, 0, none⟩) s.size c1])[j]? = some x → ss[j]? = some s' → PartN w2 w.heap.size v'.ownBlock x s') := by
        refine Lib.hid fun j x s' hx hs' => ?_
        have halc : Below w1.heap.size w1 (w1.alloc (.cells #[.slice (some ⟨wr.heap.size, 0, none⟩) s.size c1] 43)) := (Below.refl _ _).alloc (Nat.le_refl _) _
        by_cases hj : j < k
        · rw [List.getElem?_append_left (by rw [hxl.out]; exact hj)] at hx
          exact (((hp.out j x s' hx hs').below hb1).below halc).grown hgrow (by simpa using hat)
        · have hjk : j = k := by
            rcases Nat.lt_or_ge j (k + 1) with h | h
            · omega
            · rw [List.getElem?_eq_none (by rw [List.length_append, hxl.out]; simpa using h)] at hx; cases hx
          subst hjk
          rw [List.getElem?_append_right (by rw [hxl.out]; exact Nat.le_refl _), hxl.out, Nat.sub_self] at hx
          obtain rfl : Value.slice (some ⟨wr.heap.size, 0, none⟩) s.size c1 = x := by simpa using hx
          obtain rfl : s = s' := by have := HSV.out; rw [this] at hs'; injection hs'
          have hpn0 : PartN w1 w.heap.size u3.ownBlock (.slice (some ⟨wr.heap.size, 0, none⟩) s.size c1) s :=
            ⟨_, _, rfl, hc1, hBw, by rw [HSZ.out]; omega, fun e => by have := hown0.lt _ e.symm; omega, HCE.out⟩
          exact (hpn0.below halc).grown hgrow (by simpa using hat)
      have HO := Lib.hid hown'
      clear hown1 hgrow hown' hat
      go_wp2
      go_roundw
      case rel => exact ⟨k + 1, _, by omega, by go_num, Lib.hid (by rw [List.length_append, hxl.out]; rfl), HO.out, hpn, hb2⟩
      case measure => simp [intOf]; omega
    · obtain rfl : k = n := by omega
      have HO := Lib.hid hown
      clear hown
      go_wp2
      go_ret
      exact ⟨⟨_, rfl, parts_of_own HN.out.symm HO.out hp.out⟩, hb⟩
end Go.Proofs.YthfgnhgijgjggaaDoor
