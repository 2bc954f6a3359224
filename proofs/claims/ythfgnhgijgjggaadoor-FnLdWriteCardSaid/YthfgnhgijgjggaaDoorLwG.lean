/- Contracts: laws.zzFits3, laws.seJoined, util.LdSize, impl.LdSize. -/
import Derived.Test.YthfgnhgijgjggaaDoorLwE
import Derived.Test.YthfgnhgijgjggaaDoorSpA
import Derived.Lib.AppendStr
namespace Go.Proofs.YthfgnhgijgjggaaDoor
open Go.RowKit

def AnyBool (e : Ending) : Prop := ∃ b : Bool, e = .returned (.bool b)
/-- At most 50 strings of at most 2^14 bytes. -/
def fewS (ss : List ByteArray) : Prop := ss.length ≤ 50 ∧ ∀ s ∈ ss, s.size ≤ 16384

set_option maxRecDepth 100000 in
set_option maxHeartbeats 4000000 in
theorem fits3_any (v : Value) (ss : List ByteArray) (w : World) (hs : SS w v ss) (hn : ss.length ≤ 9223372036854775807) :
    Calls Tryd.prog 27 #[v] w fun e w' => AnyBool e ∧ w = w' := by
  obtain ⟨A, c, rfl, hc, hcells⟩ := hs
  obtain ⟨n, hN⟩ : ∃ n, n = ss.length := ⟨_, rfl⟩
  rw [← hN] at hn
  have HC := Lib.hid hcells
  have HN := Lib.hid hN
  rw [← hN]
  clear hcells hc hN
  by_cases hbig : 2147483647 < n
  · go_enter Tryd.func27, Tryd.ntmps27
    go_wp2
    go_ret
    exact ⟨⟨_, rfl⟩, rfl⟩
  · go_enter Tryd.func27, Tryd.ntmps27
    go_wp2
    go_loop [10] (fun i => ∃ (k : Nat), k ≤ n ∧ i = .int .i64 k) (fun i => n - (intOf i).toNat)
    case atStart => exact ⟨0, Nat.zero_le _, rfl⟩
    case round =>
      obtain ⟨k, hk, rfl⟩ := hrel
      by_cases hlt : k < n
      · obtain ⟨b, o, rfl, hcl⟩ := HC.out (by rw [← HN.out]; omega)
        have hks : k < ss.length := by rw [← HN.out]; exact hlt
        obtain ⟨s, hsv⟩ : ∃ s, ss[k]? = some s := ⟨_, List.getElem?_eq_getElem hks⟩
        have hc0 := hcl k s hsv
        clear hcl hsv hks
        by_cases hz : 2147483647 < s.size
        · go_wp2
          go_ret
          exact ⟨⟨_, rfl⟩, rfl⟩
        · go_wp2
          go_round
          case rel => exact ⟨k + 1, by omega, by go_num⟩
          case measure => simp [intOf]; omega
      · obtain rfl : k = n := by omega
        go_wp2
        go_ret
        exact ⟨⟨_, rfl⟩, rfl⟩

/-- What seJoined tells. -/
def SeJ (ss : List ByteArray) (e : Ending) : Prop :=
  (fewS ss ∧ e = .returned (.tuple #[.string ⟨(jn ss).toArray⟩, .bool true])) ∨ (¬ fewS ss ∧ e = .returned (.tuple #[.string ⟨#[]⟩, .bool false]))

set_option maxRecDepth 100000 in
set_option maxHeartbeats 4000000 in
theorem seJoined_any (v : Value) (ss : List ByteArray) (w : World) (hs : SS w v ss) (hn : ss.length ≤ 9223372036854775807) :
    Calls Tryd.prog 28 #[v] w fun e w' => SeJ ss e ∧ Below w.heap.size w w' := by
  obtain ⟨i0, hi, hz0, hz1, hz2⟩ := info_u8p
  obtain ⟨A, c, rfl, hc, hcells⟩ := hs
  obtain ⟨n, hN⟩ : ∃ n, n = ss.length := ⟨_, rfl⟩
  rw [← hN] at hn
  have HC := Lib.hid hcells
  have HN := Lib.hid hN
  rw [← hN]
  clear hcells hc hN
  by_cases hbig : 50 < n
  · go_enter Tryd.func28, Tryd.ntmps28
    go_wp2
    go_ret2
    exact ⟨Or.inr ⟨fun h => by have := h.1; rw [← HN.out] at this; omega, rfl⟩, Below.refl _ _⟩
  · go_enter Tryd.func28, Tryd.ntmps28
    go_wp2
    go_loopw [4, 5] (fun v i wr => ∃ (k : Nat), k ≤ n ∧ i = .int .i64 k ∧ Hid (∀ s ∈ ss.take k, s.size ≤ 16384) ∧ wr.ownsRow w.heap.size 5 1 v (jn (ss.take k)).length (Lib.byteCells (jn (ss.take k))) ∧ Below w.heap.size w wr) (fun _ i _ => n - (intOf i).toNat)
    case atStart => exact ⟨0, Nat.zero_le _, rfl, Lib.hid (by simp), ⟨rfl, .inl ⟨rfl, rfl⟩⟩, Below.refl _ _⟩
    case round =>
      obtain ⟨k, hk, rfl, hsm, hown, hb⟩ := hrel
      have hBw := hb.size
      have hl := jn_len (ss.take k) 16384 hsm.out
      have hlk : (ss.take k).length ≤ 50 := by rw [List.length_take]; omega
      have hl2 : (jn (ss.take k)).length ≤ 819200 := by have := Nat.mul_le_mul_right 16384 hlk; omega
      clear hl hlk
      by_cases hlt : k < n
      · obtain ⟨b, o, rfl, hcl⟩ := HC.out (by rw [← HN.out]; omega)
        have hks : k < ss.length := by rw [← HN.out]; exact hlt
        obtain ⟨s, hsv⟩ : ∃ s, ss[k]? = some s := ⟨_, List.getElem?_eq_getElem hks⟩
        have hc0 := below_cell hb (hcl k s hsv)
        have HSV := Lib.hid hsv
        clear hcl hsv hks
        by_cases hz : 16384 < s.size
        · have HO := Lib.hid hown
          clear hown
          go_wp2
          go_ret2
          exact ⟨Or.inr ⟨fun h => by have := h.2 s (List.mem_of_getElem? HSV.out); omega, rfl⟩, hb⟩
        · have HE := Lib.hid (jn_take ss k s HSV.out)
          go_wp2_with (at_builtin; refine Lib.wpList_append_own_string _ rfl _ _ 43 9 rfl w.heap.size 5 i0 Tryd.underlying43 Tryd.underlying9 hi hz0 hz1 hz2 _ _ _ rfl hown s rfl ?d3 ?d4 ?d5 ?_)
          case d3 => unfold maxLen; omega
          case d4 => omega
          case d5 => omega
          intro v' w2 hown' hgrow _
          have hb2 : Below w.heap.size w w2 := hb.grown hgrow hBw (fun k hk => (hown.lt k hk).1)
          have HO := Lib.hid hown'
          have hsm2 : Hid (∀ x ∈ ss.take (k + 1), x.size ≤ 16384) := Lib.hid (fun x hx => by
            rw [List.take_add_one, HSV.out] at hx
            rcases List.mem_append.1 hx with h | h
            · exact hsm.out x h
            · obtain rfl : x = s := by simpa using h
              omega)
          clear hown hgrow hown'
          go_wp2
          go_roundw
          case rel =>
            refine ⟨k + 1, by omega, by go_num, hsm2, ?_, hb2⟩
            rw [HE.out, List.length_append, ba_len, Lib.byteCells_append]
            exact HO.out
          case measure => simp [intOf]; omega
      · obtain rfl : k = n := by omega
        have hall : ss.take k = ss := List.take_of_length_le (by rw [HN.out]; exact Nat.le_refl _)
        rw [hall] at hown hl2 hsm
        obtain ⟨A', c', rfl, hbs⟩ := bs_of_own hown
        have hcv := hbs.str (P := Tryd.prog) (dst := 9) Tryd.underlying43 Tryd.underlying5 Tryd.underlying9
        clear hown hbs hall
        generalize (jn ss).length = N2 at *
        go_wp2
        go_ret2
        exact ⟨Or.inl ⟨⟨by rw [← HN.out]; omega, hsm.out⟩, rfl⟩, hb⟩
end Go.Proofs.YthfgnhgijgjggaaDoor
