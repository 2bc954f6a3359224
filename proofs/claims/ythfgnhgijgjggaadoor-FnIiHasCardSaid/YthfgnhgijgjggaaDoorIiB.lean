/- Contract: walkUpRot23. -/
import Derived.Test.YthfgnhgijgjggaaDoorIiA
import Derived.Deep.DeepCutAuto
namespace Go.Proofs.YthfgnhgijgjggaaDoor
open Go.RowKit

section
variable {α : Type}
theorem Tr.up1_node (p : Nat) (l : Tr α) (x : α) (r : Tr α) (b : Bool) : ∃ p' l' x' r' b', (Tr.node p l x r b).up1 = .node p' l' x' r' b' := by
  unfold Tr.up1
  split
  · rename_i h
    cases r with
    | nil => simp [Tr.right, Tr.red] at h
    | node => exact ⟨_, _, _, _, _, rfl⟩
  · exact ⟨_, _, _, _, _, rfl⟩
theorem Tr.up2_node (p : Nat) (l : Tr α) (x : α) (r : Tr α) (b : Bool) : ∃ p' l' x' r' b', (Tr.node p l x r b).up2 = .node p' l' x' r' b' := by
  unfold Tr.up2
  split
  · rename_i h
    cases l with
    | nil => simp [Tr.left, Tr.red] at h
    | node => exact ⟨_, _, _, _, _, rfl⟩
  · exact ⟨_, _, _, _, _, rfl⟩
theorem Tr.up1_nodup {t : Tr α} (h : t.blocks.Nodup) : t.up1.blocks.Nodup := (Tr.blocks_up1 t).nodup_iff.2 h
theorem Tr.up2_nodup {t : Tr α} (h : t.blocks.Nodup) : t.up2.blocks.Nodup := (Tr.blocks_up2 t).nodup_iff.2 h
def Tr.c1 : Tr α → Bool
  | .nil => false
  | .node _ l _ r _ => r.red && !l.red
def Tr.c2 : Tr α → Bool
  | .nil => false
  | .node _ l _ _ _ => l.red && l.left.red
def Tr.c3 : Tr α → Bool
  | .nil => false
  | .node _ l _ r _ => l.red && r.red
theorem Tr.up1_yes {p q : Nat} {l rl rr : Tr α} {x y : α} {b c : Bool} (h : (Tr.node p l x (.node q rl y rr c) b).c1 = true) : c = false ∧ (Tr.node p l x (.node q rl y rr c) b).up1 = (Tr.node p l x (.node q rl y rr c) b).rotL := by
  simp [Tr.c1, Tr.red] at h
  exact ⟨h.1, by unfold Tr.up1; exact if_pos (by simp [Tr.right, Tr.left, Tr.red, h])⟩
theorem Tr.up1_no {p : Nat} {l r : Tr α} {x : α} {b : Bool} (h : (Tr.node p l x r b).c1 = false) : (Tr.node p l x r b).up1 = .node p l x r b := by
  unfold Tr.up1
  exact if_neg (fun ⟨h1, h2⟩ => by simp only [Tr.right, Tr.left] at h1 h2; simp [Tr.c1, h1, h2] at h)
theorem Tr.up2_yes {p q : Nat} {r ll lr : Tr α} {x y : α} {b c : Bool} (h : (Tr.node p (.node q ll y lr c) x r b).c2 = true) : c = false ∧ (Tr.node p (.node q ll y lr c) x r b).up2 = (Tr.node p (.node q ll y lr c) x r b).rotR := by
  simp [Tr.c2, Tr.red, Tr.left] at h
  exact ⟨h.1, by unfold Tr.up2; exact if_pos (by simp [Tr.left, Tr.red, h])⟩
theorem Tr.up2_no {p : Nat} {l r : Tr α} {x : α} {b : Bool} (h : (Tr.node p l x r b).c2 = false) : (Tr.node p l x r b).up2 = .node p l x r b := by
  unfold Tr.up2
  exact if_neg (fun ⟨h1, h2⟩ => by have h3 : l.red = true := h1; have h4 : l.left.red = true := h2; simp [Tr.c2, h3, h4] at h)
theorem Tr.up3_yes {p q s : Nat} {ll lr rl rr : Tr α} {x y z : α} {b c d : Bool} (h : (Tr.node p (.node q ll y lr c) x (.node s rl z rr d) b).c3 = true) : (Tr.node p (.node q ll y lr c) x (.node s rl z rr d) b).up3 = (Tr.node p (.node q ll y lr c) x (.node s rl z rr d) b).flip := by
  simp [Tr.c3, Tr.red] at h
  unfold Tr.up3; exact if_pos (by simp [Tr.left, Tr.right, Tr.red, h])
theorem Tr.up3_no {p : Nat} {l r : Tr α} {x : α} {b : Bool} (h : (Tr.node p l x r b).c3 = false) : (Tr.node p l x r b).up3 = .node p l x r b := by
  unfold Tr.up3
  exact if_neg (fun ⟨h1, h2⟩ => by simp only [Tr.right, Tr.left] at h1 h2; simp [Tr.c3, h1, h2] at h)

variable (it : α → Value)
/-- Where the walk up stands: the tree t1 lies in memory, the rest is kept. -/
structure UpAt (t t1 : Tr α) (w wc : World) : Prop where
  at_ : t1.At it wc
  keep : Keep (fun k => k ∈ t.blocks) w wc

set_option maxRecDepth 100000 in
set_option maxHeartbeats 4000000 in
theorem walkUp_any (p : Nat) (l : Tr α) (x : α) (r : Tr α) (b : Bool) (w : World) (h : (Tr.node p l x r b).At it w) (hn : (Tr.node p l x r b).blocks.Nodup) :
    Calls Tryd.prog 116 #[.pointer (some ⟨p, 0, none⟩)] w fun e w' => e = .returned (.pointer (Tr.node p l x r b).up.addr) ∧ UpAt it (Tr.node p l x r b) (Tr.node p l x r b).up w w' := by
  obtain ⟨⟨p0, p1, p2, p3⟩, _⟩ := node_cells h.1
  have HR := Lib.hid (isRed_any it r w h.2.2)
  have HL := Lib.hid (isRed_any it l w h.2.1)
  have HT := Lib.hid h
  have HN := Lib.hid hn
  obtain ⟨c1, hc1⟩ : ∃ c, c = (Tr.node p l x r b).c1 := ⟨_, rfl⟩
  have HC1 := Lib.hid hc1
  clear h hn p0 p3
  go_enter Tryd.func116, Tryd.ntmps116
  go_upto_region 1 with fail
  go_cut [15] (fun s15 wc => s15 = .bool c1 ∧ wc = w)
  case first =>
    cases hr : r.red <;> cases hl : l.red
    all_goals
      clear hc1
      go_wp2_with (go_at_call 120; (first | (with_reducible refine HR.out.mono ?_) | (with_reducible refine HL.out.mono ?_)); rintro e w' ⟨rfl, rfl⟩)
      go_meet
      case rel => exact ⟨by rw [HC1.out]; simp only [Tr.c1, hr, hl]; rfl, rfl⟩
  case rest =>
    obtain ⟨rfl, hwc⟩ := hcut
    subst hwc
    obtain ⟨w0, rfl⟩ : ∃ w0 : World, w0 = wc := ⟨wc, rfl⟩
    clear hc1
    go_upto_if 15 with fail
    go_cut [0] (fun s0 wd => s0 = .pointer (Tr.node p l x r b).up1.addr ∧ UpAt it (Tr.node p l x r b) (Tr.node p l x r b).up1 w0 wd)
    case first =>
      cases c1 with
      | true =>
        cases r with
        | nil => cases HC1.out
        | node q rl y rr c =>
          obtain ⟨hcc, he⟩ := Tr.up1_yes HC1.out.symm
          have e2 := Lib.hid he
          subst hcc
          have HC := Lib.hid (rotateLeft_any it p q l rl rr x y b w0 HT.out HN.out)
          clear he
          go_wp2_with (go_at_call 121; (with_reducible refine HC.out.mono ?_); rintro e w' ⟨rfl, h1, h2⟩)
          go_meet
          case rel => exact ⟨by rw [e2.out], by rw [e2.out]; exact h1, h2.mono fun k _ h => by rcases h with rfl | rfl <;> simp [Tr.blocks]⟩
      | false =>
        have e2 := Lib.hid (Tr.up1_no HC1.out.symm)
        go_wp2_with fail
        go_meet
        case rel => exact ⟨by rw [e2.out]; rfl, by rw [e2.out]; exact HT.out, Keep.refl _ _⟩
    case rest =>
      obtain ⟨rfl, hu1⟩ := hcut
      obtain ⟨w1, rfl⟩ : ∃ w1 : World, w1 = wc := ⟨wc, rfl⟩
      obtain ⟨p1', l', x', r', b', he⟩ := Tr.up1_node p l x r b
      have hB1 : Hid (∀ k, k ∈ (Tr.node p1' l' x' r' b').blocks → k ∈ (Tr.node p l x r b).blocks) := Lib.hid fun k h => by rw [← he] at h; exact (Tr.blocks_up1 _).mem_iff.1 h
      have HN1 : Hid (Tr.node p1' l' x' r' b').blocks.Nodup := Lib.hid (by rw [← he]; exact Tr.up1_nodup HN.out)
      have HT1 : Hid ((Tr.node p1' l' x' r' b').At it w1) := Lib.hid (by rw [← he]; exact hu1.at_)
      have HK1 := Lib.hid hu1.keep
      have HU : Hid ((Tr.node p l x r b).up = (Tr.node p1' l' x' r' b').up2.up3) := Lib.hid (by unfold Tr.up; rw [he])
      rw [show (Tr.node p l x r b).up1.addr = some ⟨p1', 0, none⟩ by rw [he]; rfl]
      clear he hu1 HT HN HR HL HC1 p1 p2
      obtain ⟨⟨p0, p1, p2, p3⟩, _⟩ := node_cells HT1.out.1
      have HL := Lib.hid (isRed_any it l' w1 HT1.out.2.1)
      obtain ⟨c2, hc2⟩ : ∃ c, c = (Tr.node p1' l' x' r' b').c2 := ⟨_, rfl⟩
      have HC2 := Lib.hid hc2
      clear p0 p3 hc2
      go_upto_region 3 with fail
      go_cut [32] (fun s wd => s = .bool c2 ∧ wd = w1)
      case first =>
        cases hl : l'.red with
        | false =>
          go_wp2_with (go_at_call 120; (with_reducible refine HL.out.mono ?_); rintro e w' ⟨rfl, rfl⟩)
          go_meet
          case rel => exact ⟨by rw [HC2.out]; simp only [Tr.c2, hl]; rfl, rfl⟩
        | true =>
          cases l' with
          | nil => cases hl
          | node q ll y lr c =>
            obtain ⟨⟨_, q1, _, _⟩, _⟩ := node_cells HT1.out.2.1.1
            have HLL := Lib.hid (isRed_any it ll w1 HT1.out.2.1.2.1)
            have q0 : w1.cell? ⟨p1', 1, none⟩ = some (.pointer (some ⟨q, 0, none⟩)) := p1
            have HL' : Hid (Calls Tryd.prog 120 #[.pointer (some ⟨q, 0, none⟩)] w1 fun e w' => e = .returned (.bool true) ∧ w' = w1) := Lib.hid (by have := HL.out; rw [hl] at this; exact this)
            have HHL := Lib.hid hl
            clear p1 hl HL
            cases hll : ll.red
            all_goals
              go_wp2_with (go_at_call 120; (first | (with_reducible refine HL'.out.mono ?_) | (with_reducible refine HLL.out.mono ?_)); rintro e w' ⟨rfl, rfl⟩)
              go_meet
              case rel => exact ⟨by rw [HC2.out]; simp only [Tr.c2, Tr.left, HHL.out, hll]; rfl, rfl⟩
      case rest =>
        obtain ⟨rfl, hwc⟩ := hcut
        subst hwc
        obtain ⟨w1, rfl⟩ : ∃ w1 : World, w1 = wc := ⟨wc, rfl⟩
        go_upto_if 32 with fail
        go_cut [0] (fun s0 wd => s0 = .pointer (Tr.node p1' l' x' r' b').up2.addr ∧ UpAt it (Tr.node p1' l' x' r' b') (Tr.node p1' l' x' r' b').up2 w1 wd)
        case first =>
          cases c2 with
          | true =>
            cases l' with
            | nil => cases HC2.out
            | node q ll y lr c =>
              obtain ⟨hcc, he⟩ := Tr.up2_yes HC2.out.symm
              have e2 := Lib.hid he
              subst hcc
              have HC := Lib.hid (rotateRight_any it p1' q r' ll lr x' y b' w1 HT1.out HN1.out)
              clear he
              go_wp2_with (go_at_call 122; (with_reducible refine HC.out.mono ?_); rintro e w' ⟨rfl, h1, h2⟩)
              go_meet
              case rel => exact ⟨by rw [e2.out], by rw [e2.out]; exact h1, h2.mono fun k _ h => by rcases h with rfl | rfl <;> simp [Tr.blocks]⟩
          | false =>
            have e2 := Lib.hid (Tr.up2_no HC2.out.symm)
            go_wp2_with fail
            go_meet
            case rel => exact ⟨by rw [e2.out]; rfl, by rw [e2.out]; exact HT1.out, Keep.refl _ _⟩
        case rest =>
          obtain ⟨rfl, hu2⟩ := hcut
          obtain ⟨w2, rfl⟩ : ∃ w2 : World, w2 = wc := ⟨wc, rfl⟩
          obtain ⟨p2', l2, x2, r2, b2, he⟩ := Tr.up2_node p1' l' x' r' b'
          have hB2 : Hid (∀ k, k ∈ (Tr.node p2' l2 x2 r2 b2).blocks → k ∈ (Tr.node p l x r b).blocks) := Lib.hid fun k h => by rw [← he] at h; exact hB1.out k ((Tr.blocks_up2 _).mem_iff.1 h)
          have HN2 : Hid (Tr.node p2' l2 x2 r2 b2).blocks.Nodup := Lib.hid (by rw [← he]; exact Tr.up2_nodup HN1.out)
          have HT2 : Hid ((Tr.node p2' l2 x2 r2 b2).At it w2) := Lib.hid (by rw [← he]; exact hu2.at_)
          have HK2 : Hid (Keep (fun k => k ∈ (Tr.node p l x r b).blocks) w0 w2) := Lib.hid (HK1.out.trans (hu2.keep.mono fun k _ h => hB1.out k h))
          have HU2 : Hid ((Tr.node p l x r b).up = (Tr.node p2' l2 x2 r2 b2).up3) := Lib.hid (by rw [HU.out, he])
          rw [show (Tr.node p1' l' x' r' b').up2.addr = some ⟨p2', 0, none⟩ by rw [he]; rfl]
          clear he hu2 HT1 HN1 HL HC2 p1 p2 HU HK1 hB1
          obtain ⟨⟨p0, p1, p2, p3⟩, _⟩ := node_cells HT2.out.1
          have HL := Lib.hid (isRed_any it l2 w2 HT2.out.2.1)
          have HR := Lib.hid (isRed_any it r2 w2 HT2.out.2.2)
          obtain ⟨c3, hc3⟩ : ∃ c, c = (Tr.node p2' l2 x2 r2 b2).c3 := ⟨_, rfl⟩
          have HC3 := Lib.hid hc3
          clear p0 p3 hc3
          go_upto_region 5 with fail
          go_cut [46] (fun s wd => s = .bool c3 ∧ wd = w2)
          case first =>
            cases hl : l2.red <;> cases hr : r2.red
            all_goals
              go_wp2_with (go_at_call 120; (first | (with_reducible refine HL.out.mono ?_) | (with_reducible refine HR.out.mono ?_)); rintro e w' ⟨rfl, rfl⟩)
              go_meet
              case rel => exact ⟨by rw [HC3.out]; simp only [Tr.c3, hl, hr]; rfl, rfl⟩
          case rest =>
            obtain ⟨rfl, hwc⟩ := hcut
            subst hwc
            obtain ⟨w2, rfl⟩ : ∃ w2 : World, w2 = wc := ⟨wc, rfl⟩
            cases c3 with
            | true =>
              cases l2 with
              | nil => cases HC3.out
              | node q ll y lr c =>
                cases r2 with
                | nil => have := HC3.out; simp [Tr.c3, Tr.red] at this
                | node s rl z rr d =>
                  have e2 := Lib.hid (Tr.up3_yes HC3.out.symm)
                  have HC := Lib.hid (flip_any it p2' q s ll lr rl rr x2 y z b2 c d w2 HT2.out HN2.out)
                  go_wp2_with (go_at_call 123; (with_reducible refine HC.out.mono ?_); rintro e w' ⟨rfl, h1, h2⟩)
                  go_ret
                  exact ⟨by rw [HU2.out, e2.out]; rfl, by rw [HU2.out, e2.out]; exact h1, HK2.out.trans (h2.mono fun k _ h => hB2.out k (by rcases h with rfl | rfl | rfl <;> simp [Tr.blocks]))⟩
            | false =>
              have e2 := Lib.hid (Tr.up3_no HC3.out.symm)
              go_wp2_with fail
              go_ret
              exact ⟨by rw [HU2.out, e2.out]; rfl, by rw [HU2.out, e2.out]; exact HT2.out, HK2.out⟩
end
end Go.Proofs.YthfgnhgijgjggaaDoor
