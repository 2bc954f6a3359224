/- Contracts, joined (IiB IiC IiD UvPlain UvA UvB UvC MhPlain). -/
import Derived.Test.YthehmnpbepmnpaaGreatDoorRJIo1
import Derived.Deep.DeepCutAuto
import Derived.Lib.BytesEntry
import Derived.Stop.Asserts
import Derived.Lib.VarintBits
import Derived.Lib.Varint
import Derived.IntWalk
import Derived.Lib.BitFns
import Derived.Test.YthehmnpbepmnpaaGreatDoorRProg
import Derived.WalkKit
import Derived.Deep.QuietTactic
import Derived.BigQuiet
import Derived.Lib.Hide
import Derived.Deep.Draws
import Derived.Outline
import Derived.Test.YthehmnpbepmnpaaGreatDoorRShelf
/- Contract: walkUpRot23. -/
namespace Go.Proofs.YthehmnpbepmnpaaGreatDoorR
open Go.RowKit

section
variable {α : Type}
theorem Tr.up1_node (p : Nat) (l : Tr α) (x : α) (r : Tr α) (b : Bool) : ∃ p' l' x' r' b', (Tr.node p l x r b).up1 = .node p' l' x' r' b' := by
  unfold Tr.up1
  split
  · rename_i h
    cases r with
    | nil => simp [Tr.right, Tr.red] at h
    | node => exact ⟨_, _, _, _, _, rfl⟩
  · exact ⟨_, _, _, _, _, rfl⟩
theorem Tr.up2_node (p : Nat) (l : Tr α) (x : α) (r : Tr α) (b : Bool) : ∃ p' l' x' r' b', (Tr.node p l x r b).up2 = .node p' l' x' r' b' := by
  unfold Tr.up2
  split
  · rename_i h
    cases l with
    | nil => simp [Tr.left, Tr.red] at h
    | node => exact ⟨_, _, _, _, _, rfl⟩
  · exact ⟨_, _, _, _, _, rfl⟩
theorem Tr.up1_nodup {t : Tr α} (h : t.blocks.Nodup) : t.up1.blocks.Nodup := (Tr.blocks_up1 t).nodup_iff.2 h
theorem Tr.up2_nodup {t : Tr α} (h : t.blocks.Nodup) : t.up2.blocks.Nodup := (Tr.blocks_up2 t).nodup_iff.2 h
def Tr.c1 : Tr α → Bool
  | .nil => false
  | .node _ l _ r _ => r.red && !l.red
def Tr.c2 : Tr α → Bool
  | .nil => false
  | .node _ l _ _ _ => l.red && l.left.red
def Tr.c3 : Tr α → Bool
  | .nil => false
  | .node _ l _ r _ => l.red && r.red
theorem Tr.up1_yes {p q : Nat} {l rl rr : Tr α} {x y : α} {b c : Bool} (h : (Tr.node p l x (.node q rl y rr c) b).c1 = true) : c = false ∧ (Tr.node p l x (.node q rl y rr c) b).up1 = (Tr.node p l x (.node q rl y rr c) b).rotL := by
  simp [Tr.c1, Tr.red] at h
  exact ⟨h.1, by unfold Tr.up1; exact if_pos (by simp [Tr.right, Tr.left, Tr.red, h])⟩
theorem Tr.up1_no {p : Nat} {l r : Tr α} {x : α} {b : Bool} (h : (Tr.node p l x r b).c1 = false) : (Tr.node p l x r b).up1 = .node p l x r b := by
  unfold Tr.up1
  exact if_neg (fun ⟨h1, h2⟩ => by simp only [Tr.right, Tr.left] at h1 h2; simp [Tr.c1, h1, h2] at h)
theorem Tr.up2_yes {p q : Nat} {r ll lr : Tr α} {x y : α} {b c : Bool} (h : (Tr.node p (.node q ll y lr c) x r b).c2 = true) : c = false ∧ (Tr.node p (.node q ll y lr c) x r b).up2 = (Tr.node p (.node q ll y lr c) x r b).rotR := by
  simp [Tr.c2, Tr.red, Tr.left] at h
  exact ⟨h.1, by unfold Tr.up2; exact if_pos (by simp [Tr.left, Tr.red, h])⟩
theorem Tr.up2_no {p : Nat} {l r : Tr α} {x : α} {b : Bool} (h : (Tr.node p l x r b).c2 = false) : (Tr.node p l x r b).up2 = .node p l x r b := by
  unfold Tr.up2
  exact if_neg (fun ⟨h1, h2⟩ => by have h3 : l.red = true := h1; have h4 : l.left.red = true := h2; simp [Tr.c2, h3, h4] at h)
theorem Tr.up3_yes {p q s : Nat} {ll lr rl rr : Tr α} {x y z : α} {b c d : Bool} (h : (Tr.node p (.node q ll y lr c) x (.node s rl z rr d) b).c3 = true) : (Tr.node p (.node q ll y lr c) x (.node s rl z rr d) b).up3 = (Tr.node p (.node q ll y lr c) x (.node s rl z rr d) b).flip := by
  simp [Tr.c3, Tr.red] at h
  unfold Tr.up3; exact if_pos (by simp [Tr.left, Tr.right, Tr.red, h])
theorem Tr.up3_no {p : Nat} {l r : Tr α} {x : α} {b : Bool} (h : (Tr.node p l x r b).c3 = false) : (Tr.node p l x r b).up3 = .node p l x r b := by
  unfold Tr.up3
  exact if_neg (fun ⟨h1, h2⟩ => by simp only [Tr.right, Tr.left] at h1 h2; simp [Tr.c3, h1, h2] at h)

variable (it : α → Value)
/-- Where the walk up stands: the tree t1 lies in memory, the rest is kept. -/
structure UpAt (t t1 : Tr α) (w wc : World) : Prop where
  at_ : t1.At it wc
  keep : Keep (fun k => k ∈ t.blocks) w wc

set_option maxRecDepth 100000 in
set_option maxHeartbeats 4000000 in
theorem walkUp_any (p : Nat) (l : Tr α) (x : α) (r : Tr α) (b : Bool) (w : World) (h : (Tr.node p l x r b).At it w) (hn : (Tr.node p l x r b).blocks.Nodup) :
    Calls Tryz.prog 154 #[.pointer (some ⟨p, 0, none⟩)] w fun e w' => e = .returned (.pointer (Tr.node p l x r b).up.addr) ∧ UpAt it (Tr.node p l x r b) (Tr.node p l x r b).up w w' := by
  obtain ⟨⟨p0, p1, p2, p3⟩, _⟩ := node_cells h.1
  have HR := Lib.hid (isRed_any it r w h.2.2)
  have HL := Lib.hid (isRed_any it l w h.2.1)
  have HT := Lib.hid h
  have HN := Lib.hid hn
  obtain ⟨c1, hc1⟩ : ∃ c, c = (Tr.node p l x r b).c1 := ⟨_, rfl⟩
  have HC1 := Lib.hid hc1
  clear h hn p0 p3
  go_enter Tryz.func154, Tryz.ntmps154
  go_upto_region 1 with fail
  go_cut [15] (fun s15 wc => s15 = .bool c1 ∧ wc = w)
  case first =>
    cases hr : r.red <;> cases hl : l.red
    all_goals
      clear hc1
      go_wp2_with (go_at_call 172; (first | (with_reducible refine HR.out.mono ?_) | (with_reducible refine HL.out.mono ?_)); rintro e w' ⟨rfl, rfl⟩)
      go_meet
      case rel => exact ⟨by rw [HC1.out]; simp only [Tr.c1, hr, hl]; rfl, rfl⟩
  case rest =>
    obtain ⟨rfl, hwc⟩ := hcut
    subst hwc
    obtain ⟨w0, rfl⟩ : ∃ w0 : World, w0 = wc := ⟨wc, rfl⟩
    clear hc1
    go_upto_if 15 with fail
    go_cut [0] (fun s0 wd => s0 = .pointer (Tr.node p l x r b).up1.addr ∧ UpAt it (Tr.node p l x r b) (Tr.node p l x r b).up1 w0 wd)
    case first =>
      cases c1 with
      | true =>
        cases r with
        | nil => cases HC1.out
        | node q rl y rr c =>
          obtain ⟨hcc, he⟩ := Tr.up1_yes HC1.out.symm
          have e2 := Lib.hid he
          subst hcc
          have HC := Lib.hid (rotateLeft_any it p q l rl rr x y b w0 HT.out HN.out)
          clear he
          go_wp2_with (go_at_call 173; (with_reducible refine HC.out.mono ?_); rintro e w' ⟨rfl, h1, h2⟩)
          go_meet
          case rel => exact ⟨by rw [e2.out], by rw [e2.out]; exact h1, h2.mono fun k _ h => by rcases h with rfl | rfl <;> simp [Tr.blocks]⟩
      | false =>
        have e2 := Lib.hid (Tr.up1_no HC1.out.symm)
        go_wp2_with fail
        go_meet
        case rel => exact ⟨by rw [e2.out]; rfl, by rw [e2.out]; exact HT.out, Keep.refl _ _⟩
    case rest =>
      obtain ⟨rfl, hu1⟩ := hcut
      obtain ⟨w1, rfl⟩ : ∃ w1 : World, w1 = wc := ⟨wc, rfl⟩
      obtain ⟨p1', l', x', r', b', he⟩ := Tr.up1_node p l x r b
      have hB1 : Hid (∀ k, k ∈ (Tr.node p1' l' x' r' b').blocks → k ∈ (Tr.node p l x r b).blocks) := Lib.hid fun k h => by rw [← he] at h; exact (Tr.blocks_up1 _).mem_iff.1 h
      have HN1 : Hid (Tr.node p1' l' x' r' b').blocks.Nodup := Lib.hid (by rw [← he]; exact Tr.up1_nodup HN.out)
      have HT1 : Hid ((Tr.node p1' l' x' r' b').At it w1) := Lib.hid (by rw [← he]; exact hu1.at_)
      have HK1 := Lib.hid hu1.keep
      have HU : Hid ((Tr.node p l x r b).up = (Tr.node p1' l' x' r' b').up2.up3) := Lib.hid (by unfold Tr.up; rw [he])
      rw [show (Tr.node p l x r b).up1.addr = some ⟨p1', 0, none⟩ by rw [he]; rfl]
      clear he hu1 HT HN HR HL HC1 p1 p2
      obtain ⟨⟨p0, p1, p2, p3⟩, _⟩ := node_cells HT1.out.1
      have HL := Lib.hid (isRed_any it l' w1 HT1.out.2.1)
      obtain ⟨c2, hc2⟩ : ∃ c, c = (Tr.node p1' l' x' r' b').c2 := ⟨_, rfl⟩
      have HC2 := Lib.hid hc2
      clear p0 p3 hc2
      go_upto_region 3 with fail
      go_cut [32] (fun s wd => s = .bool c2 ∧ wd = w1)
      case first =>
        cases hl : l'.red with
        | false =>
          go_wp2_with (go_at_call 172; (with_reducible refine HL.out.mono ?_); rintro e w' ⟨rfl, rfl⟩)
          go_meet
          case rel => exact ⟨by rw [HC2.out]; simp only [Tr.c2, hl]; rfl, rfl⟩
        | true =>
          cases l' with
          | nil => cases hl
          | node q ll y lr c =>
            obtain ⟨⟨_, q1, _, _⟩, _⟩ := node_cells HT1.out.2.1.1
            have HLL := Lib.hid (isRed_any it ll w1 HT1.out.2.1.2.1)
            have q0 : w1.cell? ⟨p1', 1, none⟩ = some (.pointer (some ⟨q, 0, none⟩)) := p1
            have HL' : Hid (Calls Tryz.prog 172 #[.pointer (some ⟨q, 0, none⟩)] w1 fun e w' => e = .returned (.bool true) ∧ w' = w1) := Lib.hid (by have := HL.out; rw [hl] at this; exact this)
            have HHL := Lib.hid hl
            clear p1 hl HL
            cases hll : ll.red
            all_goals
              go_wp2_with (go_at_call 172; (first | (with_reducible refine HL'.out.mono ?_) | (with_reducible refine HLL.out.mono ?_)); rintro e w' ⟨rfl, rfl⟩)
              go_meet
              case rel => exact ⟨by rw [HC2.out]; simp only [Tr.c2, Tr.left, HHL.out, hll]; rfl, rfl⟩
      case rest =>
        obtain ⟨rfl, hwc⟩ := hcut
        subst hwc
        obtain ⟨w1, rfl⟩ : ∃ w1 : World, w1 = wc := ⟨wc, rfl⟩
        go_upto_if 32 with fail
        go_cut [0] (fun s0 wd => s0 = .pointer (Tr.node p1' l' x' r' b').up2.addr ∧ UpAt it (Tr.node p1' l' x' r' b') (Tr.node p1' l' x' r' b').up2 w1 wd)
        case first =>
          cases c2 with
          | true =>
            cases l' with
            | nil => cases HC2.out
            | node q ll y lr c =>
              obtain ⟨hcc, he⟩ := Tr.up2_yes HC2.out.symm
              have e2 := Lib.hid he
              subst hcc
              have HC := Lib.hid (rotateRight_any it p1' q r' ll lr x' y b' w1 HT1.out HN1.out)
              clear he
              go_wp2_with (go_at_call 174; (with_reducible refine HC.out.mono ?_); rintro e w' ⟨rfl, h1, h2⟩)
              go_meet
              case rel => exact ⟨by rw [e2.out], by rw [e2.out]; exact h1, h2.mono fun k _ h => by rcases h with rfl | rfl <;> simp [Tr.blocks]⟩
          | false =>
            have e2 := Lib.hid (Tr.up2_no HC2.out.symm)
            go_wp2_with fail
            go_meet
            case rel => exact ⟨by rw [e2.out]; rfl, by rw [e2.out]; exact HT1.out, Keep.refl _ _⟩
        case rest =>
          obtain ⟨rfl, hu2⟩ := hcut
          obtain ⟨w2, rfl⟩ : ∃ w2 : World, w2 = wc := ⟨wc, rfl⟩
          obtain ⟨p2', l2, x2, r2, b2, he⟩ := Tr.up2_node p1' l' x' r' b'
          have hB2 : Hid (∀ k, k ∈ (Tr.node p2' l2 x2 r2 b2).blocks → k ∈ (Tr.node p l x r b).blocks) := Lib.hid fun k h => by rw [← he] at h; exact hB1.out k ((Tr.blocks_up2 _).mem_iff.1 h)
          have HN2 : Hid (Tr.node p2' l2 x2 r2 b2).blocks.Nodup := Lib.hid (by rw [← he]; exact Tr.up2_nodup HN1.out)
          have HT2 : Hid ((Tr.node p2' l2 x2 r2 b2).At it w2) := Lib.hid (by rw [← he]; exact hu2.at_)
          have HK2 : Hid (Keep (fun k => k ∈ (Tr.node p l x r b).blocks) w0 w2) := Lib.hid (HK1.out.trans (hu2.keep.mono fun k _ h => hB1.out k h))
          have HU2 : Hid ((Tr.node p l x r b).up = (Tr.node p2' l2 x2 r2 b2).up3) := Lib.hid (by rw [HU.out, he])
          rw [show (Tr.node p1' l' x' r' b').up2.addr = some ⟨p2', 0, none⟩ by rw [he]; rfl]
          clear he hu2 HT1 HN1 HL HC2 p1 p2 HU HK1 hB1
          obtain ⟨⟨p0, p1, p2, p3⟩, _⟩ := node_cells HT2.out.1
          have HL := Lib.hid (isRed_any it l2 w2 HT2.out.2.1)
          have HR := Lib.hid (isRed_any it r2 w2 HT2.out.2.2)
          obtain ⟨c3, hc3⟩ : ∃ c, c = (Tr.node p2' l2 x2 r2 b2).c3 := ⟨_, rfl⟩
          have HC3 := Lib.hid hc3
          clear p0 p3 hc3
          go_upto_region 5 with fail
          go_cut [46] (fun s wd => s = .bool c3 ∧ wd = w2)
          case first =>
            cases hl : l2.red <;> cases hr : r2.red
            all_goals
              go_wp2_with (go_at_call 172; (first | (with_reducible refine HL.out.mono ?_) | (with_reducible refine HR.out.mono ?_)); rintro e w' ⟨rfl, rfl⟩)
              go_meet
              case rel => exact ⟨by rw [HC3.out]; simp only [Tr.c3, hl, hr]; rfl, rfl⟩
          case rest =>
            obtain ⟨rfl, hwc⟩ := hcut
            subst hwc
            obtain ⟨w2, rfl⟩ : ∃ w2 : World, w2 = wc := ⟨wc, rfl⟩
            cases c3 with
            | true =>
              cases l2 with
              | nil => cases HC3.out
              | node q ll y lr c =>
                cases r2 with
                | nil => have := HC3.out; simp [Tr.c3, Tr.red] at this
                | node s rl z rr d =>
                  have e2 := Lib.hid (Tr.up3_yes HC3.out.symm)
                  have HC := Lib.hid (flip_any it p2' q s ll lr rl rr x2 y z b2 c d w2 HT2.out HN2.out)
                  go_wp2_with (go_at_call 175; (with_reducible refine HC.out.mono ?_); rintro e w' ⟨rfl, h1, h2⟩)
                  go_ret
                  exact ⟨by rw [HU2.out, e2.out]; rfl, by rw [HU2.out, e2.out]; exact h1, HK2.out.trans (h2.mono fun k _ h => hB2.out k (by rcases h with rfl | rfl | rfl <;> simp [Tr.blocks]))⟩
            | false =>
              have e2 := Lib.hid (Tr.up3_no HC3.out.symm)
              go_wp2_with fail
              go_ret
              exact ⟨by rw [HU2.out, e2.out]; rfl, by rw [HU2.out, e2.out]; exact HT2.out, HK2.out⟩
end
end Go.Proofs.YthehmnpbepmnpaaGreatDoorR
/- Contracts: bytes.Compare, (index.recordDigest).Less, llrb.less. -/
namespace Go.Proofs.YthehmnpbepmnpaaGreatDoorR
open Go.RowKit

section
variable {P : Program}
theorem run_bytesOf {w : World} {A : Option Addr} {c : Nat} {l : List UInt8} (h : BS w (.slice A l.length c) l) : (Extern.Bytes.bytesOf (.slice A l.length c)).run P w = .ok ⟨l.toArray⟩ w := by
  cases A with
  | none =>
    rcases Nat.eq_zero_or_pos l.length with h0 | h0
    · obtain rfl : l = [] := List.eq_nil_of_length_eq_zero h0
      rfl
    · obtain ⟨b, o, he, _⟩ := h.at_ h0
      cases he
  | some a =>
    rcases Nat.eq_zero_or_pos l.length with h0 | h0
    · obtain rfl : l = [] := List.eq_nil_of_length_eq_zero h0
      rfl
    · obtain ⟨b, o, he, hc⟩ := h.at_ h0
      injection he with he
      subst he
      have := Lib.run_loadBytesX (P := P) w (l.map fun x => (x.toNat : Int)) ⟨b, o, none⟩ .empty (fun j x hj => by
        rw [List.getElem?_map] at hj
        obtain ⟨u, hu, rfl⟩ := Option.map_eq_some_iff.1 hj
        obtain ⟨hlt, rfl⟩ := List.getElem?_eq_some_iff.1 hu
        have e : (⟨b, o, none⟩ : Addr).add j = ⟨b, o + j, none⟩ := by unfold Addr.add; split <;> simp_all
        rw [e]
        exact hc j hlt)
      rw [List.length_map] at this
      show (Extern.Bytes.loadBytes ⟨b, o, none⟩ l.length .empty).run P w = _
      rw [this]
      congr 1
      apply ByteArray.ext
      show (#[] : Array UInt8) ++ (Lib.bytesOf (l.map fun x => (x.toNat : Int))).toArray = l.toArray
      have e : Lib.bytesOf (l.map fun x => (x.toNat : Int)) = l := by
        unfold Lib.bytesOf
        rw [List.map_map]
        conv => rhs; rw [← List.map_id l]
        exact List.map_congr_left fun x _ => by simp
      rw [e]
      simp

theorem run_compareSlices {w : World} {A B : Option Addr} {c d : Nat} {l m : List UInt8} (h : BS w (.slice A l.length c) l) (k : BS w (.slice B m.length d) m) :
    (Extern.BytealgCompare.compare #[.slice A l.length c, .slice B m.length d]).run P w = .ok (.int .i64 (Lib.compareBytes l m)) w := by
  have hs := Lib.run_compareString (P := P) ⟨l.toArray⟩ ⟨m.toArray⟩ w
  change Sem.run P (do pure (goInt (Extern.BytealgCompare.cmp (← Extern.Bytes.bytesOf (.string ⟨l.toArray⟩)) (← Extern.Bytes.bytesOf (.string ⟨m.toArray⟩))))) w = _ at hs
  change Sem.run P (do pure (goInt (Extern.BytealgCompare.cmp (← Extern.Bytes.bytesOf (.slice A l.length c)) (← Extern.Bytes.bytesOf (.slice B m.length d))))) w = _
  simp only [Sem.run_bind, run_bytesOf h, run_bytesOf k, Result.andThen] at hs ⊢
  simp only [Extern.Bytes.bytesOf, Sem.run_pure] at hs
  exact hs
end

theorem cmp_blt : ∀ a b : List UInt8, (decide (Lib.compareBytes a b < 0)) = blt a b
  | [], [] => rfl
  | [], _ :: _ => rfl
  | _ :: _, [] => rfl
  | a :: l, b :: m => by
    rw [Lib.compareBytes, blt]
    split
    · rfl
    · split
      · rfl
      · exact cmp_blt l m

/-- A record with its digest, as an item of the tree. -/
structure ItD where
  A : Option Addr
  c : Nat
  dig : List UInt8
  us : ByteArray
  off : Int
def ItD.val (x : ItD) : Value := .agg #[.slice x.A x.dig.length x.c, .string x.us, .int .u64 x.off]
abbrev ItD.item (x : ItD) : Value := .iface 154 x.val
/-- Its digest lies in memory. -/
def ItD.In (w : World) (x : ItD) : Prop := BS w (.slice x.A x.dig.length x.c) x.dig

set_option maxRecDepth 100000 in
theorem bytesCompare {w : World} {A B : Option Addr} {c d : Nat} {l m : List UInt8} (h : BS w (.slice A l.length c) l) (k : BS w (.slice B m.length d) m) :
    Calls Tryz.prog 227 #[.slice A l.length c, .slice B m.length d] w fun e w' => e = .returned (.int .i64 (Lib.compareBytes l m)) ∧ w' = w := by
  have hx := run_callFunc_extern (P := Tryz.prog) Tryz.func228 (by kernel_rfl) (by kernel_rfl) (by kernel_rfl) (e := Extern.BytealgCompare.compare) (by kernel_rfl) #[.slice A l.length c, .slice B m.length d] w
  rw [run_compareSlices h k] at hx
  simp only [Result.andThen] at hx
  clear h k
  generalize l.length = n at *
  generalize m.length = n2 at *
  generalize Lib.compareBytes l m = r at *
  go_enter Tryz.func227, Tryz.ntmps227
  go_wp2
  go_ret
  exact ⟨rfl, rfl⟩

theorem assert_ok (v : Value) (W : World) : (Instr.typeAssert (.iface 154 v) 149 154 true).run Tryz.prog W = .ok (.tuple #[v, .bool true]) W := by kernel_rfl
theorem assert_one (v : Value) (W : World) : (Instr.typeAssert (.iface 154 v) 149 154 false).run Tryz.prog W = .ok v W := by kernel_rfl

set_option maxRecDepth 100000 in
set_option maxHeartbeats 1000000 in
theorem rdLess (x y : ItD) (w : World) (hx : x.In w) (hy : y.In w) :
    Calls Tryz.prog 226 #[x.val, y.item] w fun e w' => e = .returned (.bool (blt x.dig y.dig)) ∧ Below w.heap.size w w' := by
  obtain ⟨A, c, l, us, off⟩ := x
  obtain ⟨B, d, m, vs, off2⟩ := y
  have HC := fun W (h : Below w.heap.size w W) => Lib.hid (bytesCompare (BS.below hx h) (BS.below hy h))
  have HB := Lib.hid (cmp_blt l m)
  clear hx hy
  unfold ItD.val ItD.item ItD.val at *
  dsimp only at *
  rw [← HB.out]
  generalize l.length = n at *
  generalize m.length = n2 at *
  generalize Lib.compareBytes l m = r at *
  obtain ⟨w1, hw1⟩ : ∃ w1, w1 = (w.alloc (.cells #[.slice A n c, .string us, .int .u64 off] 154)).alloc (.cells #[.slice B n2 d, .string vs, .int .u64 off2] 154) := ⟨_, rfl⟩
  have hb : Below w.heap.size w w1 := hw1 ▸ ((Below.refl _ w).alloc (Nat.le_refl _) _).alloc (by simp) _
  have HC1 := HC _ hb
  rw [hw1] at HC1 hb
  clear HC hw1
  have hta := fun v W => assert_ok v W
  go_enter Tryz.func226, Tryz.ntmps226
  go_wp2_with (go_at_call 227; (with_reducible refine HC1.out.mono ?_); rintro e w' ⟨rfl, rfl⟩)
  go_ret
  exact ⟨rfl, hb⟩

theorem nil_rdLess (v : Value) (w : World) : (nilAhead 469 154 v "Less").run Tryz.prog w = .ok (some false) w := by kernel_rfl
theorem method_rdLess (v : Value) (w : World) : (method 469 154 v "Less").run Tryz.prog w = .ok (226, v) w := by kernel_rfl

set_option maxRecDepth 100000 in
set_option maxHeartbeats 1000000 in
theorem less_any (x y : ItD) (w : World) (hx : x.In w) (hy : y.In w) :
    Calls Tryz.prog 139 #[x.item, y.item] w fun e w' => e = .returned (.bool (blt x.dig y.dig)) ∧ Below w.heap.size w w' := by
  have HC := Lib.hid (rdLess x y w hx hy)
  clear hx hy
  have q1 := fun (vx vy : Value) W => run_eql_iface_types (P := Tryz.prog) 154 270 vx vy Tryz.underlying149 (by decide) W
  have q2 := fun (vx vy : Value) W => run_eql_iface_types (P := Tryz.prog) 154 271 vx vy Tryz.underlying149 (by decide) W
  have hna := fun v w => nil_rdLess v w
  have hme := fun v w => method_rdLess v w
  unfold ItD.item at *
  generalize y.val = vy at *
  generalize x.val = vx at *
  generalize blt x.dig y.dig = r at *
  go_enter Tryz.func139, Tryz.ntmps139
  go_wp2_with (go_at_call 226; (with_reducible refine HC.out.mono ?_); rintro e w' ⟨rfl, hb⟩)
  go_ret
  exact ⟨rfl, hb⟩
end Go.Proofs.YthehmnpbepmnpaaGreatDoorR
/- Contracts: an item put into an LLRB tree. -/
namespace Go.Proofs.YthehmnpbepmnpaaGreatDoorR
open Go.RowKit

theorem Tr.At.row {α : Type} {it : α → Value} {w : World} : ∀ {t : Tr α}, t.At it w → ∀ p ∈ t.blocks, ∃ v l r b, w.heap[p]? = some (ndO v l r b)
  | .nil, _, _, hp => by simp [Tr.blocks] at hp
  | .node q l x r b, ⟨h, hl, hr⟩, p, hp => by
    simp only [Tr.blocks, List.mem_cons, List.mem_append] at hp
    rcases hp with rfl | hp | hp
    · exact ⟨_, _, _, _, h⟩
    · exact Tr.At.row hl p hp
    · exact Tr.At.row hr p hp

/-- No digest lies in a node. -/
theorem ItD.In.keep {x : ItD} {w w' : World} {t : Tr ItD} (h : x.In w) (ht : t.At ItD.val w) (hk : Keep (fun k => k ∈ t.blocks) w w') : x.In w' := by
  obtain ⟨A, c, h1, h2, h3⟩ := h
  refine ⟨A, c, h1, h2, fun h0 => ?_⟩
  obtain ⟨b, o, e, hc⟩ := h3 h0
  refine ⟨b, o, e, fun j hj => hk.cell (hc j hj) fun hb => ?_⟩
  obtain ⟨v, l, r, b', hrow⟩ := ht.row b hb
  have h4 := hc j hj
  rw [cell_of_row' (cur := [_, _, _, _]) hrow] at h4
  generalize o + j = i at h4
  rcases i with _ | _ | _ | _ | k <;> simp at h4
theorem ItD.In.below {x : ItD} {w w' : World} (h : x.In w) (hb : Below w.heap.size w w') : x.In w' := BS.below h hb

/-- The order of items. -/
abbrev ItD.lt (x y : ItD) : Bool := blt x.dig y.dig

/-- What an insertion leaves. -/
def InsAt (x : ItD) (t : Tr ItD) (w : World) (e : Ending) (w' : World) : Prop :=
  ∃ q, w.heap.size ≤ q ∧ e = .returned (.pointer (t.ins ItD.lt q x).addr) ∧ (t.ins ItD.lt q x).At ItD.val w' ∧ Keep (fun k => k ∈ t.blocks) w w'

set_option maxRecDepth 100000 in
theorem walkDown_any (a : Option Addr) (w : World) : Calls Tryz.prog 153 #[.pointer a] w fun e w' => e = .returned (.pointer a) ∧ w' = w := by
  go_enter Tryz.func153, Tryz.ntmps153
  go_wp2
  go_ret
  exact ⟨rfl, rfl⟩

/-- The tree with another left side. -/
theorem ins_left {x y : ItD} {p : Nat} {l r : Tr ItD} {b : Bool} {w w1 w2 : World} (h : (Tr.node p l y r b).At ItD.val w) (hn : (Tr.node p l y r b).blocks.Nodup) (hb : Below w.heap.size w w1) {q : Nat} (hq : w1.heap.size ≤ q)
    (h2 : (l.ins ItD.lt q x).At ItD.val w2) (hk : Keep (fun k => k ∈ l.blocks) w1 w2) :
    (Tr.node p (l.ins ItD.lt q x) y r b).At ItD.val (w2.setCell ⟨p, 1, none⟩ (.pointer (l.ins ItD.lt q x).addr)) ∧ (Tr.node p (l.ins ItD.lt q x) y r b).blocks.Nodup ∧
      Keep (fun k => k ∈ (Tr.node p l y r b).blocks) w (w2.setCell ⟨p, 1, none⟩ (.pointer (l.ins ItD.lt q x).addr)) ∧ (∀ k, k ∈ (Tr.node p (l.ins ItD.lt q x) y r b).blocks → k = q ∨ k ∈ (Tr.node p l y r b).blocks) ∧
      w2.heap[p]? = some (ndO y.val l.addr r.addr b) := by
  have hn0 := hn
  obtain ⟨hp, hl, hr⟩ := h
  simp only [Tr.blocks, List.nodup_cons, List.mem_append, List.nodup_append, not_or] at hn
  obtain ⟨⟨n1, n2⟩, n3, n4, n5⟩ := hn
  have hpl := block_of_row hp
  have hr1 := hb.keep.row (S := fun _ => False) hp (fun h => h)
  have hp2 := hk.row hr1 n1
  have hs1 := hb.size
  have hs2 := hk.size
  have hql : ∀ k ∈ (Tr.node p l y r b).blocks, k < q := fun k hm => by
    have := Tr.At.lt (it := ItD.val) (t := .node p l y r b) ⟨hp, hl, hr⟩ k hm
    omega
  have hbl : ∀ k, k ∈ (l.ins ItD.lt q x).blocks ↔ k = q ∨ k ∈ l.blocks := fun k => by rw [(Tr.blocks_ins ItD.lt q x l).mem_iff, List.mem_cons]
  have hk3 : Keep (fun k => k = p) w2 (w2.setCell ⟨p, 1, none⟩ (.pointer (l.ins ItD.lt q x).addr)) := Keep.setCell (S := fun k => k = p) (Keep.refl _ _) rfl _ _
  have hpq : p < q := hql p (by simp [Tr.blocks])
  refine ⟨⟨(node_set hp2).1 _, h2.keep hk3 fun k hm e => ?_, ?_⟩, ?_, ?_, fun k hm => ?_, hp2⟩
  · rcases (hbl k).1 hm with h | h
    · omega
    · exact n1 (e ▸ h)
  · exact ((hr.keep (hb.keep (S := fun _ => False)) (fun _ _ h => h)).keep hk (fun k hm h => n5 k h k hm rfl)).keep hk3 (fun k hm e => n2 (e ▸ hm))
  · simp only [Tr.blocks, List.nodup_cons, List.mem_append, List.nodup_append, not_or]
    refine ⟨⟨fun h => ?_, n2⟩, (Tr.blocks_ins ItD.lt q x l).nodup_iff.2 (List.nodup_cons.2 ⟨fun h => ?_, n3⟩), n4, fun k hm j hj e => ?_⟩
    · rcases (hbl p).1 h with h | h
      · omega
      · exact n1 h
    · exact absurd (hql q (by simp [Tr.blocks, h])) (Nat.lt_irrefl _)
    · rcases (hbl k).1 hm with h | h
      · have := hql j (by simp [Tr.blocks, hj]); omega
      · exact n5 k h j hj e
  · exact ((hb.keep (S := fun k => k ∈ (Tr.node p l y r b).blocks)).trans (hk.mono fun k _ h => by simp [Tr.blocks, h])).trans (hk3.mono fun k _ h => by simp [Tr.blocks, h])
  · simp only [Tr.blocks, List.mem_cons, List.mem_append] at hm ⊢
    rcases hm with h | h | h
    · exact .inr (.inl h)
    · rcases (hbl k).1 h with h | h
      · exact .inl h
      · exact .inr (.inr (.inl h))
    · exact .inr (.inr (.inr h))
/-- The tree with another right side. -/
theorem ins_right {x y : ItD} {p : Nat} {l r : Tr ItD} {b : Bool} {w w1 w2 : World} (h : (Tr.node p l y r b).At ItD.val w) (hn : (Tr.node p l y r b).blocks.Nodup) (hb : Below w.heap.size w w1) {q : Nat} (hq : w1.heap.size ≤ q)
    (h2 : (r.ins ItD.lt q x).At ItD.val w2) (hk : Keep (fun k => k ∈ r.blocks) w1 w2) :
    (Tr.node p l y (r.ins ItD.lt q x) b).At ItD.val (w2.setCell ⟨p, 2, none⟩ (.pointer (r.ins ItD.lt q x).addr)) ∧ (Tr.node p l y (r.ins ItD.lt q x) b).blocks.Nodup ∧
      Keep (fun k => k ∈ (Tr.node p l y r b).blocks) w (w2.setCell ⟨p, 2, none⟩ (.pointer (r.ins ItD.lt q x).addr)) ∧ (∀ k, k ∈ (Tr.node p l y (r.ins ItD.lt q x) b).blocks → k = q ∨ k ∈ (Tr.node p l y r b).blocks) ∧
      w2.heap[p]? = some (ndO y.val l.addr r.addr b) := by
  obtain ⟨hp, hl, hr⟩ := h
  simp only [Tr.blocks, List.nodup_cons, List.mem_append, List.nodup_append, not_or] at hn
  obtain ⟨⟨n1, n2⟩, n3, n4, n5⟩ := hn
  have hr1 := hb.keep.row (S := fun _ => False) hp (fun h => h)
  have hp2 := hk.row hr1 n2
  have hs1 := hb.size
  have hs2 := hk.size
  have hql : ∀ k ∈ (Tr.node p l y r b).blocks, k < q := fun k hm => by
    have := Tr.At.lt (it := ItD.val) (t := .node p l y r b) ⟨hp, hl, hr⟩ k hm
    omega
  have hbl : ∀ k, k ∈ (r.ins ItD.lt q x).blocks ↔ k = q ∨ k ∈ r.blocks := fun k => by rw [(Tr.blocks_ins ItD.lt q x r).mem_iff, List.mem_cons]
  have hk3 : Keep (fun k => k = p) w2 (w2.setCell ⟨p, 2, none⟩ (.pointer (r.ins ItD.lt q x).addr)) := Keep.setCell (S := fun k => k = p) (Keep.refl _ _) rfl _ _
  have hpq : p < q := hql p (by simp [Tr.blocks])
  refine ⟨⟨(node_set hp2).2.1 _, ?_, h2.keep hk3 fun k hm e => ?_⟩, ?_, ?_, fun k hm => ?_, hp2⟩
  · exact ((hl.keep (hb.keep (S := fun _ => False)) (fun _ _ h => h)).keep hk (fun k hm h => n5 k hm k h rfl)).keep hk3 (fun k hm e => n1 (e ▸ hm))
  · rcases (hbl k).1 hm with h | h
    · omega
    · exact n2 (e ▸ h)
  · simp only [Tr.blocks, List.nodup_cons, List.mem_append, List.nodup_append, not_or]
    refine ⟨⟨n1, fun h => ?_⟩, n3, (Tr.blocks_ins ItD.lt q x r).nodup_iff.2 (List.nodup_cons.2 ⟨fun h => ?_, n4⟩), fun k hm j hj e => ?_⟩
    · rcases (hbl p).1 h with h | h
      · omega
      · exact n2 h
    · exact absurd (hql q (by simp [Tr.blocks, h])) (Nat.lt_irrefl _)
    · rcases (hbl j).1 hj with h | h
      · have := hql k (by simp [Tr.blocks, hm]); omega
      · exact n5 k hm j h e
  · exact ((hb.keep (S := fun k => k ∈ (Tr.node p l y r b).blocks)).trans (hk.mono fun k _ h => by simp [Tr.blocks, h])).trans (hk3.mono fun k _ h => by simp [Tr.blocks, h])
  · simp only [Tr.blocks, List.mem_cons, List.mem_append] at hm ⊢
    rcases hm with h | h | h
    · exact .inr (.inl h)
    · exact .inr (.inr (.inl h))
    · rcases (hbl k).1 h with h | h
      · exact .inl h
      · exact .inr (.inr (.inr h))

set_option maxRecDepth 100000 in
set_option maxHeartbeats 4000000 in
theorem insert_any (x : ItD) : ∀ (t : Tr ItD) (w : World) (T : Option Addr), t.At ItD.val w → t.blocks.Nodup → x.In w → (∀ y ∈ t.toList, y.In w) →
    Calls Tryz.prog 138 #[.pointer T, .pointer t.addr, x.item] w (InsAt x t w)
  | .nil, w, T, _, _, _, _ => by
    have HC := fun W => Lib.hid (newNode_any x.val W)
    show Calls Tryz.prog 138 #[.pointer T, .pointer none, x.item] w (InsAt x .nil w)
    go_enter Tryz.func138, Tryz.ntmps138
    go_wp2_with (go_at_call 152; (with_reducible refine (HC _).out.mono ?_); rintro e w' ⟨rfl, rfl⟩)
    go_ret
    exact ⟨w.heap.size, Nat.le_refl _, rfl, ⟨heap_alloc_new w _, trivial, trivial⟩, (Keep.refl _ w).alloc _⟩
  | .node p l y r b, w, T, h, hn, hx, hy => by
    have hyy : y.In w := hy y (by simp [Tr.toList])
    have HL := Lib.hid (less_any x y w hx hyy)
    have HI : ∀ (u : Tr ItD), u = l ∨ u = r → ∀ w1, Below w.heap.size w w1 → Hid (Calls Tryz.prog 138 #[.pointer T, .pointer u.addr, x.item] w1 (InsAt x u w1)) := by
      rintro u (rfl | rfl) w1 hb
      · refine Lib.hid (insert_any x u w1 T (h.2.1.below hb) ?_ (hx.below hb) fun z hz => (hy z (by simp [Tr.toList, hz])).below hb)
        simp only [Tr.blocks, List.nodup_cons, List.nodup_append] at hn
        exact hn.2.1
      · refine Lib.hid (insert_any x u w1 T (h.2.2.below hb) ?_ (hx.below hb) fun z hz => (hy z (by simp [Tr.toList, hz])).below hb)
        simp only [Tr.blocks, List.nodup_cons, List.nodup_append] at hn
        exact hn.2.2.1
    have HT := Lib.hid h
    have HN := Lib.hid hn
    have HD := fun W => Lib.hid (walkDown_any (some ⟨p, 0, none⟩) W)
    obtain ⟨⟨p0, p1, p2, p3⟩, _⟩ := node_cells h.1
    clear h hn hx hy hyy p3
    show Calls Tryz.prog 138 #[.pointer T, .pointer (some ⟨p, 0, none⟩), x.item] w (InsAt x (.node p l y r b) w)
    cases hc : blt x.dig y.dig with
    | true =>
      rw [hc] at HL
      have HIL := HI l (.inl rfl)
      have HC := Lib.hid hc
      clear hc HI p2
      go_enter Tryz.func138, Tryz.ntmps138
      go_wp2_with fail
      refine (HD _).out.mono ?_
      rintro e w0 ⟨rfl, rfl⟩
      go_wp2_with fail
      refine HL.out.mono ?_
      rintro e w1 ⟨rfl, hb⟩
      have c1 := below_cell hb p1
      have HI1 := HIL w1 hb
      have HB := Lib.hid hb
      clear hb p0 p1 HIL HL
      go_wp2_with fail
      refine HI1.out.mono ?_
      rintro e w2 ⟨q, hq, rfl, h2, hk⟩
      obtain ⟨a1, a2, a3, a4, a5⟩ := ins_left HT.out HN.out HB.out hq h2 hk
      obtain ⟨⟨d0, d1, d2, d3⟩, f0, f1, f2, f3⟩ := node_cells a5
      have HW := Lib.hid (walkUp_any ItD.val p (l.ins ItD.lt q x) y r b _ a1 a2)
      have A3 := Lib.hid a3
      have A4 := Lib.hid a4
      have HQ := Lib.hid (Nat.le_trans HB.out.size hq)
      clear a1 a2 a3 a4 a5 h2 hk hq c1 HI1 d0 d2 d3
      go_wp2_with fail
      refine HW.out.mono ?_
      rintro e w3 ⟨rfl, hu⟩
      have HU := Lib.hid hu
      clear hu
      go_wp2
      go_ret
      have hi : (Tr.node p l y r b).ins ItD.lt q x = (Tr.node p (l.ins ItD.lt q x) y r b).up := by
        conv => lhs; unfold Tr.ins
        rw [if_pos HC.out]
      exact ⟨q, HQ.out, by rw [hi]; rfl, by rw [hi]; exact HU.out.at_, A3.out.trans2 (HU.out.keep) fun k hk h => (A4.out k h).resolve_left (by have := HQ.out; omega)⟩
    | false =>
      rw [hc] at HL
      have HIL := HI r (.inr rfl)
      have HC := Lib.hid hc
      clear hc HI p1
      go_enter Tryz.func138, Tryz.ntmps138
      go_wp2_with fail
      refine (HD _).out.mono ?_
      rintro e w0 ⟨rfl, rfl⟩
      go_wp2_with fail
      refine HL.out.mono ?_
      rintro e w1 ⟨rfl, hb⟩
      have c1 := below_cell hb p2
      have HI1 := HIL w1 hb
      have HB := Lib.hid hb
      clear hb p0 p2 HIL HL
      go_wp2_with fail
      refine HI1.out.mono ?_
      rintro e w2 ⟨q, hq, rfl, h2, hk⟩
      obtain ⟨a1, a2, a3, a4, a5⟩ := ins_right HT.out HN.out HB.out hq h2 hk
      obtain ⟨⟨d0, d1, d2, d3⟩, f0, f1, f2, f3⟩ := node_cells a5
      have HW := Lib.hid (walkUp_any ItD.val p l y (r.ins ItD.lt q x) b _ a1 a2)
      have A3 := Lib.hid a3
      have A4 := Lib.hid a4
      have HQ := Lib.hid (Nat.le_trans HB.out.size hq)
      clear a1 a2 a3 a4 a5 h2 hk hq c1 HI1 d0 d1 d3
      go_wp2_with fail
      refine HW.out.mono ?_
      rintro e w3 ⟨rfl, hu⟩
      have HU := Lib.hid hu
      clear hu
      go_wp2
      go_ret
      have hi : (Tr.node p l y r b).ins ItD.lt q x = (Tr.node p l y (r.ins ItD.lt q x) b).up := by
        conv => lhs; unfold Tr.ins
        rw [if_neg (by show ¬ blt x.dig y.dig = true; rw [HC.out]; simp)]
      exact ⟨q, HQ.out, by rw [hi]; rfl, by rw [hi]; exact HU.out.at_, A3.out.trans2 (HU.out.keep) fun k hk h => (A4.out k h).resolve_left (by have := HQ.out; omega)⟩
end Go.Proofs.YthehmnpbepmnpaaGreatDoorR
/- The plain law of reading a varint of a list of bytes: what it is, no program in sight. -/
namespace Go.Proofs.YthehmnpbepmnpaaGreatDoorR
open Go.RowKit

/-- What reading a varint comes to. -/
inductive UvR where
  | ok (x m : Nat)
  | over
  | notMin
  | under

/-- One byte more, at place k. -/
def uvGo : Nat → Nat → List UInt8 → UvR
  | _, _, [] => .under
  | k, X, b :: r =>
    if (k = 8 ∧ 128 ≤ b.toNat) ∨ 9 ≤ k then .over
    else if b.toNat < 128 then (if b.toNat = 0 ∧ 0 < k then .notMin else .ok (X + b.toNat * 2 ^ (7 * k)) (k + 1))
    else uvGo (k + 1) (X + (b.toNat % 128) * 2 ^ (7 * k)) r
def uvDec (l : List UInt8) : UvR := uvGo 0 0 l

theorem uv_or (k X B : Nat) (hk : k ≤ 8) (hX : X < 2 ^ (7 * k)) (hB : B < 128) :
    bits .or .u64 (X : Int) (IntKind.u64.wrap ((B : Int) * 2 ^ (7 * k))) = ((X + B * 2 ^ (7 * k) : Nat) : Int) := by
  have h : k = 0 ∨ k = 1 ∨ k = 2 ∨ k = 3 ∨ k = 4 ∨ k = 5 ∨ k = 6 ∨ k = 7 ∨ k = 8 := by omega
  rcases h with rfl | rfl | rfl | rfl | rfl | rfl | rfl | rfl | rfl <;>
    simp only [Nat.reduceMul, Nat.reducePow, Int.reducePow, Nat.mul_zero, Nat.pow_zero, Int.pow_zero] at hX ⊢ <;>
    rw [IntWalk.u64_in _ (by omega)]
  · rw [u64_orv0 _ _ (by omega) (by omega) (by omega) (by omega) (by omega)]; omega
  · rw [u64_orv7 _ _ (by omega) (by omega) (by omega) (by omega) (by omega)]; omega
  · rw [u64_orv14 _ _ (by omega) (by omega) (by omega) (by omega) (by omega)]; omega
  · rw [u64_orv21 _ _ (by omega) (by omega) (by omega) (by omega) (by omega)]; omega
  · rw [u64_orv28 _ _ (by omega) (by omega) (by omega) (by omega) (by omega)]; omega
  · rw [u64_orv35 _ _ (by omega) (by omega) (by omega) (by omega) (by omega)]; omega
  · rw [u64_orv42 _ _ (by omega) (by omega) (by omega) (by omega) (by omega)]; omega
  · rw [u64_orv49 _ _ (by omega) (by omega) (by omega) (by omega) (by omega)]; omega
  · rw [u64_orv56 _ _ (by omega) (by omega) (by omega) (by omega) (by omega)]; omega

/-- The round's own word: the low seven bits laid on top. -/
theorem uv_or_and (k X B : Nat) (hk : k ≤ 8) (hX : X < 2 ^ (7 * k)) (hB : B < 256) :
    bits .or .u64 (X : Int) (IntKind.u64.wrap (IntKind.u64.wrap (bits .and .u8 (B : Int) 127) * 2 ^ (7 * k))) = ((X + B % 128 * 2 ^ (7 * k) : Nat) : Int) := by
  rw [u8_and127 _ (by omega) (by omega), IntWalk.u64_in ((B : Int) % 128) (by omega)]
  have := uv_or k X (B % 128) hk hX (by omega)
  rw [← this]; rfl

theorem uv_step_lt (k X B : Nat) (hX : X < 2 ^ (7 * k)) (hB : B < 128) : X + B * 2 ^ (7 * k) < 2 ^ (7 * (k + 1)) := by
  have : 2 ^ (7 * (k + 1)) = 128 * 2 ^ (7 * k) := by rw [Nat.mul_add, Nat.pow_add]; omega
  rw [this]
  have : B * 2 ^ (7 * k) ≤ 127 * 2 ^ (7 * k) := Nat.mul_le_mul_right _ (by omega)
  omega

theorem bitLen_lt128 : ∀ n : Fin 128, (n.val = 0 ∧ Lib.bitLen n.val = 0) ∨ (1 ≤ Lib.bitLen n.val ∧ Lib.bitLen n.val ≤ 7) := by decide +kernel

/-- A number's varint has one byte for each seven bits, one for 0. -/
theorem uv_size (x : Nat) (h : x < 18446744073709551616) :
    (Lib.uvarint x).length = Lib.bitLen x / 7 + (if 0 < Lib.bitLen x % 7 ∨ Lib.bitLen x / 7 = 0 then 1 else 0) := by
  induction x using Nat.strongRecOn with
  | ind x ih =>
    by_cases hx : x < 128
    · rw [Lib.uvarint_small hx, List.length_singleton]; clear ih
      rcases bitLen_lt128 ⟨x, hx⟩ with ⟨_, h0⟩ | ⟨h1, h2⟩
      · simp only at h0; rw [h0]; decide
      · simp only at h1 h2
        generalize Lib.bitLen x = n at h1 h2 ⊢
        have : n = 1 ∨ n = 2 ∨ n = 3 ∨ n = 4 ∨ n = 5 ∨ n = 6 ∨ n = 7 := by omega
        rcases this with rfl | rfl | rfl | rfl | rfl | rfl | rfl <;> decide
    · have h1 := ih (x / 128) (by omega) (by omega)
      have h2 := Lib.bitLen_shift 7 x (by omega) (by omega)
      rw [Lib.uvarint_big (by omega), List.length_cons, h1, h2, show x / 2 ^ 7 = x / 128 from rfl]
      generalize hn : Lib.bitLen (x / 128) = n
      have hn1 : 1 ≤ n := by
        rcases Nat.eq_zero_or_pos n with h0 | h0
        · exfalso
          by_cases hs : x / 128 < 128
          · rcases bitLen_lt128 ⟨x / 128, hs⟩ with ⟨h3, _⟩ | ⟨h3, _⟩
            · simp only at h3; omega
            · simp only at h3; omega
          · have := Lib.bitLen_shift 7 (x / 128) (by omega) (by omega)
            omega
        · exact h0
      by_cases h7 : 0 < n % 7
      · rw [if_pos (Or.inl h7), if_pos (Or.inl (by omega))]; omega
      · rw [if_neg (by omega), if_neg (by omega)]; omega

/-- What is read is what is written: the bytes that were read are the number's varint. -/
theorem uvGo_ok : ∀ (l : List UInt8) (k X x m : Nat), X < 2 ^ (7 * k) → uvGo k X l = .ok x m →
    k + 1 ≤ m ∧ m ≤ k + l.length ∧ m ≤ 9 ∧ X ≤ x ∧ x % 2 ^ (7 * k) = X ∧ x < 2 ^ (7 * m) ∧ l.take (m - k) = Lib.uvarint (x / 2 ^ (7 * k)) ∧ (0 < k → 0 < x / 2 ^ (7 * k))
  | [], k, X, x, m, _, h => by simp [uvGo] at h
  | b :: r, k, X, x, m, hX, h => by
    have hb : b.toNat < 256 := UInt8.toNat_lt _
    have hP : 0 < 2 ^ (7 * k) := Nat.pos_of_ne_zero (by simp)
    unfold uvGo at h
    by_cases h1 : (k = 8 ∧ 128 ≤ b.toNat) ∨ 9 ≤ k
    · rw [if_pos h1] at h; cases h
    rw [if_neg h1] at h
    by_cases h2 : b.toNat < 128
    · rw [if_pos h2] at h
      by_cases h3 : b.toNat = 0 ∧ 0 < k
      · rw [if_pos h3] at h; cases h
      · rw [if_neg h3] at h
        injection h with e1 e2
        have hd : x / 2 ^ (7 * k) = b.toNat := by
          rw [← e1, Nat.mul_comm, Nat.add_mul_div_left _ _ hP, Nat.div_eq_of_lt hX, Nat.zero_add]
        have hlt := uv_step_lt k X b.toNat hX h2
        refine ⟨by omega, by simp only [List.length_cons]; omega, by omega, by omega, ?_, by rw [← e2, ← e1]; exact hlt, ?_, ?_⟩
        · rw [← e1, Nat.mul_comm, Nat.add_mul_mod_self_left, Nat.mod_eq_of_lt hX]
        · rw [hd, ← e2, show k + 1 - k = 1 by omega, Lib.uvarint_small h2]
          simp
        · intro hk; rw [hd]; omega
    · rw [if_neg h2] at h
      have hlt := uv_step_lt k X (b.toNat % 128) hX (by omega)
      have ih := uvGo_ok r (k + 1) _ x m hlt h
      obtain ⟨g1, g2, g3, g4, g5, g6, g7, g8⟩ := ih
      have hp : 2 ^ (7 * (k + 1)) = 2 ^ (7 * k) * 128 := by rw [Nat.mul_add, Nat.pow_add]
      have hd : x / 2 ^ (7 * (k + 1)) = x / 2 ^ (7 * k) / 128 := by rw [hp, Nat.div_div_eq_div_mul]
      have hpos : 0 < x / 2 ^ (7 * k) / 128 := by rw [← hd]; exact g8 (by omega)
      have hm : x / 2 ^ (7 * k) % 128 = b.toNat % 128 := by
        have e1 : x % (2 ^ (7 * k) * 128) = X + b.toNat % 128 * 2 ^ (7 * k) := by rw [← hp]; exact g5
        have e2 : x % (2 ^ (7 * k) * 128) / 2 ^ (7 * k) = x / 2 ^ (7 * k) % 128 := Nat.mod_mul_right_div_self _ _ _
        rw [← e2, e1, Nat.mul_comm (b.toNat % 128), Nat.add_mul_div_left _ _ hP, Nat.div_eq_of_lt hX, Nat.zero_add]
      refine ⟨by omega, by simp only [List.length_cons]; omega, g3, ?_, ?_, g6, ?_, ?_⟩
      · have : 0 ≤ b.toNat % 128 * 2 ^ (7 * k) := Nat.zero_le _
        omega
      · have e3 : x % (2 ^ (7 * k) * 128) % 2 ^ (7 * k) = x % 2 ^ (7 * k) := Nat.mod_mul_right_mod _ _ _
        rw [← e3, ← hp, g5, Nat.mul_comm, Nat.add_mul_mod_self_left, Nat.mod_eq_of_lt hX]
      · rw [show m - k = (m - (k + 1)) + 1 by omega, List.take_succ_cons, g7, hd, Lib.uvarint_big (x := x / 2 ^ (7 * k)) (by omega), hm]
        congr 1
        apply UInt8.toNat_inj.1
        rw [show b.toNat % 128 + 128 = b.toNat by omega]
        simp
      · intro _; omega

theorem uvDec_ok {l : List UInt8} {x m : Nat} (h : uvDec l = .ok x m) : 1 ≤ m ∧ m ≤ l.length ∧ m ≤ 9 ∧ x < 2 ^ (7 * m) ∧ l.take m = Lib.uvarint x := by
  obtain ⟨h1, h2, h3, _, _, h4, h5, _⟩ := uvGo_ok l 0 0 x m (by decide) h
  refine ⟨by omega, by omega, h3, h4, ?_⟩
  simpa using h5
theorem uvDec_lt63 {l : List UInt8} {x m : Nat} (h : uvDec l = .ok x m) : x < 9223372036854775808 := by
  obtain ⟨_, _, h3, h4, _⟩ := uvDec_ok h
  exact Nat.lt_of_lt_of_le h4 (Nat.pow_le_pow_right (by decide) (by omega : 7 * m ≤ 63))

def UvR.no : UvR → Prop
  | .ok _ _ => False
  | _ => True
/-- Bytes of which each says that one more follows: no varint. -/
theorem uvGo_high : ∀ (l : List UInt8) (k X : Nat), (∀ b ∈ l, 128 ≤ b.toNat) → (uvGo k X l).no
  | [], _, _, _ => trivial
  | b :: r, k, X, h => by
    have hb := h b (by simp)
    unfold uvGo
    by_cases h1 : (k = 8 ∧ 128 ≤ b.toNat) ∨ 9 ≤ k
    · rw [if_pos h1]; trivial
    · rw [if_neg h1, if_neg (by omega)]; exact uvGo_high r _ _ (fun c hc => h c (by simp [hc]))
/-- .. nor with a needless zero behind. -/
theorem uvGo_high0 : ∀ (l : List UInt8) (k X : Nat), (∀ b ∈ l, 128 ≤ b.toNat) → 0 < k + l.length → (uvGo k X (l ++ [0])).no
  | [], k, X, _, hk => by
    simp only [List.length_nil, Nat.add_zero] at hk
    rw [List.nil_append]
    unfold uvGo
    by_cases h1 : (k = 8 ∧ 128 ≤ (0 : UInt8).toNat) ∨ 9 ≤ k
    · rw [if_pos h1]; trivial
    · rw [if_neg h1, if_pos (by decide), if_pos ⟨rfl, hk⟩]; trivial
  | b :: r, k, X, h, _ => by
    have hb := h b (by simp)
    rw [List.cons_append]
    unfold uvGo
    by_cases h1 : (k = 8 ∧ 128 ≤ b.toNat) ∨ 9 ≤ k
    · rw [if_pos h1]; trivial
    · rw [if_neg h1, if_neg (by omega)]; exact uvGo_high0 r _ _ (fun c hc => h c (by simp [hc])) (by omega)

/-- Each byte of a varint but the last one says that one more follows; the last one does not. -/
theorem uvarint_split (x : Nat) : ∃ (pre : List UInt8) (c : UInt8), Lib.uvarint x = pre ++ [c] ∧ (∀ b ∈ pre, 128 ≤ b.toNat) ∧ c.toNat < 128 := by
  induction x using Nat.strongRecOn with
  | ind x ih =>
    by_cases hx : x < 128
    · refine ⟨[], x.toUInt8, by rw [Lib.uvarint_small hx]; rfl, fun b hb => by simp at hb, ?_⟩
      simp; omega
    · obtain ⟨pre, c, e, h1, h2⟩ := ih (x / 128) (by omega)
      refine ⟨(x % 128 + 128).toUInt8 :: pre, c, by rw [Lib.uvarint_big (by omega), e]; rfl, fun b hb => ?_, h2⟩
      simp only [List.mem_cons] at hb
      rcases hb with rfl | hb
      · simp; omega
      · exact h1 b hb

/-- What is cut off ahead of the last byte is no varint. -/
theorem uvDec_cut (x k : Nat) (hk : k < (Lib.uvarint x).length) : (uvDec ((Lib.uvarint x).take k)).no := by
  obtain ⟨pre, c, e, h1, _⟩ := uvarint_split x
  rw [e] at hk ⊢
  simp only [List.length_append, List.length_singleton] at hk
  rw [List.take_append_of_le_length (by omega)]
  exact uvGo_high _ _ _ fun b hb => h1 b (List.mem_of_mem_take hb)

end Go.Proofs.YthehmnpbepmnpaaGreatDoorR
namespace Go.Proofs.YthehmnpbepmnpaaGreatDoorR
open Go.RowKit

def UvR.val (E1 E2 E3 : Value) : UvR → Value
  | .ok x m => .tuple #[.int .u64 x, .int .i64 m, .nilIface]
  | .over => .tuple #[.int .u64 0, .int .i64 0, E1]
  | .notMin => .tuple #[.int .u64 0, .int .i64 0, E2]
  | .under => .tuple #[.int .u64 0, .int .i64 0, E3]

theorem UvR.ok_eq {E1 E2 E3 : Value} {Y M : Int} {x m : Nat} (h : Y = x) (h2 : M = m) : Ending.returned (.tuple #[.int .u64 Y, .int .i64 M, .nilIface]) = .returned ((UvR.ok x m).val E1 E2 E3) := by
  rw [h, h2]; rfl

set_option maxRecDepth 100000 in
set_option maxHeartbeats 1000000 in
theorem fromUv_any (b o n c : Nat) (l : List UInt8) (w : World) (hl : l.length = n) (hm : n ≤ 9223372036854775807)
    (hc : ∀ j (h : j < l.length), w.cell? ⟨b, o + j, none⟩ = some (.int .u8 (l[j].toNat)))
    (T : TypeId) (p1 p2 p3 : Value)
    (h1 : w.cell? ⟨4, 0, none⟩ = some (.iface T p1)) (h2 : w.cell? ⟨5, 0, none⟩ = some (.iface T p2)) (h3 : w.cell? ⟨6, 0, none⟩ = some (.iface T p3)) :
    Calls Tryz.prog 112 #[.slice (some ⟨b, o, none⟩) n c] w fun e w' =>
      e = .returned ((uvDec l).val (.iface T p1) (.iface T p2) (.iface T p3)) ∧ ∃ q, w' = w.drewN q := by
  go_enter Tryz.func112, Tryz.ntmps112
  go_wp2
  go_loop [5, 6, 11] (fun x sh i => ∃ (k X : Nat), k ≤ n ∧ k ≤ 9 ∧ X < 2 ^ (7 * k) ∧ i = .int .i64 k ∧ sh = .int .u64 (7 * k : Nat) ∧ x = .int .u64 X ∧ Hid (uvDec l = uvGo k X (l.drop k))) (fun _ _ i => n - (intOf i).toNat)
  case atStart => exact ⟨0, 0, by omega, by omega, by decide, rfl, rfl, rfl, Lib.hid rfl⟩
  case round =>
    obtain ⟨k, X, hk, hk10, hX, rfl, rfl, rfl, hd⟩ := hrel
    by_cases hlt : k < n
    · have hlt' : k < l.length := by omega
      have hcell := hc k hlt'
      have hb : l[k].toNat < 256 := UInt8.toNat_lt _
      obtain ⟨B, hB⟩ : ∃ B, B = l[k].toNat := ⟨_, rfl⟩
      rw [← hB] at hcell hb
      have HB := Lib.hid hB
      clear hB hc
      have hstep : uvGo k X (l.drop k) = (if (k = 8 ∧ 128 ≤ B) ∨ 9 ≤ k then .over
          else if B < 128 then (if B = 0 ∧ 0 < k then .notMin else .ok (X + B * 2 ^ (7 * k)) (k + 1))
          else uvGo (k + 1) (X + (B % 128) * 2 ^ (7 * k)) (l.drop (k + 1))) := by
        rw [List.drop_eq_getElem_cons hlt', uvGo, ← HB.out]
      by_cases h9 : k = 9
      · subst h9
        have hfin : Hid (uvDec l = .over) := Lib.hid (by rw [hd.out, hstep, if_pos (Or.inr (by omega))])
        clear hd hstep HB
        go_wp2
        go_quiet (fail)
        go_wp2
        go_ret3
        exact ⟨by rw [hfin.out]; rfl, _, rfl⟩
      by_cases hge : 128 ≤ B
      · by_cases h8 : k = 8
        · subst h8
          have hfin : Hid (uvDec l = .over) := Lib.hid (by rw [hd.out, hstep, if_pos (Or.inl ⟨rfl, hge⟩)])
          clear hd hstep HB
          go_wp2
          go_quiet (fail)
          go_wp2
          go_ret3
          exact ⟨by rw [hfin.out]; rfl, _, rfl⟩
        · have hfin : Hid (uvDec l = uvGo (k + 1) (X + (B % 128) * 2 ^ (7 * k)) (l.drop (k + 1))) := Lib.hid (by
            rw [hd.out, hstep, if_neg (by omega), if_neg (by omega)])
          clear hd hstep HB
          have hk8 : ((k : Int) == 8) = false := by simp; omega
          have hor := Lib.hid (uv_or_and k X B (by omega) hX hb)
          have hlt2 := uv_step_lt k X (B % 128) hX (by omega)
          go_wp2
          exact ⟨⟨k + 1, X + B % 128 * 2 ^ (7 * k), by omega, by omega, hlt2, by go_num, by go_num, by rw [hor.out], hfin⟩, by simp [intOf]; omega⟩
      · by_cases hz : B = 0 ∧ 0 < k
        · obtain ⟨rfl, hz⟩ := hz
          have hfin : Hid (uvDec l = .notMin) := Lib.hid (by rw [hd.out, hstep, if_neg (by omega), if_pos (by omega), if_pos ⟨rfl, hz⟩])
          clear hd hstep HB
          have hk9' : (k : Int) < 9 := by omega
          by_cases hk8 : k = 8
          · subst hk8
            go_wp2
            go_quiet (fail)
            go_wp2
            go_ret3
            exact ⟨by rw [hfin.out]; rfl, _, rfl⟩
          · have hk8' : ((k : Int) == 8) = false := by simp; omega
            go_wp2
            go_quiet (fail)
            go_wp2
            go_ret3
            exact ⟨by rw [hfin.out]; rfl, _, rfl⟩
        · have hfin : Hid (uvDec l = .ok (X + B * 2 ^ (7 * k)) (k + 1)) := Lib.hid (by rw [hd.out, hstep, if_neg (by omega), if_pos (by omega), if_neg hz])
          have hor := Lib.hid (uv_or k X B (by omega) hX (by omega))
          clear hd hstep HB
          have hk9' : (k : Int) < 9 := by omega
          by_cases hB0 : B = 0
          · subst hB0
            have hk0 : k = 0 := by omega
            subst hk0
            have hfin' : Hid (uvDec l = .ok X 1) := Lib.hid (by rw [hfin.out]; simp)
            simp only [Nat.add_zero, Int.natCast_zero] at hcell
            clear hor hfin
            have hor0 : Hid (bits .or .u64 (X : Int) 0 = (X : Nat)) := Lib.hid (by rw [u64_orv0 _ _ (by omega) (by omega) (by omega) (by omega) (by omega)]; omega)
            go_wp2
            go_ret3
            exact ⟨by rw [hfin'.out]; exact UvR.ok_eq hor0.out rfl, 0, rfl⟩
          · have hB0' : ((B : Int) == 0) = false := by simp; omega
            by_cases hk8 : k = 8
            · subst hk8
              have hor8 : Hid (bits .or .u64 (X : Int) ((B : Int) * 72057594037927936) = ((X + B * 2 ^ (7 * 8) : Nat) : Int)) := Lib.hid (by
                rw [← hor.out, IntWalk.u64_in _ (by omega)]; rfl)
              clear hor
              go_wp2
              go_ret3
              exact ⟨by rw [hfin.out]; exact UvR.ok_eq hor8.out rfl, 0, rfl⟩
            · have hk8' : ((k : Int) == 8) = false := by simp; omega
              go_wp2
              go_ret3
              exact ⟨by rw [hfin.out]; exact UvR.ok_eq hor.out (by omega), 0, rfl⟩
    · have hkn : k = l.length := by omega
      have hfin : Hid (uvDec l = .under) := Lib.hid (by rw [hd.out, hkn, List.drop_length]; rfl)
      clear hd hkn hc
      go_wp2
      go_quiet (fail)
      go_wp2
      go_ret3
      exact ⟨by rw [hfin.out]; rfl, _, rfl⟩
end Go.Proofs.YthehmnpbepmnpaaGreatDoorR
namespace Go.Proofs.YthehmnpbepmnpaaGreatDoorR
open Go.RowKit

set_option maxRecDepth 100000 in
set_option maxHeartbeats 1000000 in
theorem uvSize_any (x : Nat) (w : World) (hx : x < 18446744073709551616) :
    Calls Tryz.prog 113 #[.int .u64 x] w fun e w' => e = .returned (.int .i64 (Lib.uvarint x).length) ∧ w = w' := by
  have hs := uv_size x hx
  have hlen := Lib.uvarint_length64 hx
  have hb : Lib.bitLen x ≤ 80 := by omega
  obtain ⟨n, hn⟩ : ∃ n, n = Lib.bitLen x := ⟨_, rfl⟩
  rw [← hn] at hs hb
  have HS := Lib.hid hs
  clear hs hlen
  go_enter Tryz.func113, Tryz.ntmps113
  go_wp2_with fail
  refine (Tryz.bits_Len64 (x : Int) w (by omega) (by omega)).mono ?_
  rw [Int.toNat_natCast, ← hn]
  rintro e w' ⟨rfl, rfl⟩
  clear hn
  by_cases h7 : 0 < n % 7
  · have h7' : ((n : Int) % 7) > 0 := by omega
    go_wp2
    go_ret
    exact ⟨by rw [HS.out, if_pos (Or.inl h7)]; congr 2, rfl⟩
  · have h7' : ¬ ((n : Int) % 7) > 0 := by omega
    by_cases h0 : n / 7 = 0
    · have h0' : (((n : Int) / 7) == 0) = true := by simp; omega
      go_wp2
      go_ret
      exact ⟨by rw [HS.out, if_pos (Or.inr h0)]; congr 2, rfl⟩
    · have h0' : (((n : Int) / 7) == 0) = false := by simp; omega
      go_wp2
      go_ret
      exact ⟨by rw [HS.out, if_neg (by omega)]; congr 2, rfl⟩

theorem info_u8 : (Tryz.prog.info? 5).map (fun i => (i.zero, i.size, i.bytes)) = some (some (.int .u8 0), 1, 1) := by kernel_rfl

/-- binary.PutUvarint into a row that is known whole: the varint is laid over it. -/
theorem put_row (g o n c x : Nat) (cur : List Value) (t : TypeId) (w : World) (hx : x < 18446744073709551616) (hrow : w.heap[g]? = some (.cells cur.toArray t (0, 0)))
    (hfit : o + (Lib.uvarint x).length ≤ cur.length) (hn : (Lib.uvarint x).length ≤ n) :
    Calls Tryz.prog 143 #[.slice (some ⟨g, o, none⟩) n c, .int .u64 x] w fun e w' =>
      e = .returned (.int .i64 (Lib.uvarint x).length) ∧ Hid (w'.heap[g]? = some (.cells (splice cur o (Lib.byteCells (Lib.uvarint x))).toArray t (0, 0))) ∧ Turn g w w' := by
  refine (Tryz.binary_PutUvarint g o n c x hx w hn fun j hj => ⟨?_, frozen_of_row' hrow _⟩).mono ?_
  · rw [cell_of_row' hrow, List.getElem?_eq_getElem (by omega)]; rfl
  · rintro e w' ⟨rfl, rfl⟩
    exact ⟨rfl, Lib.hid (row_setCells _ _ _ _ hrow (by rw [Lib.byteCells_length]; exact hfit)), turn_setCells _ _ _ _⟩

/-- A byte list laid over a whole row. -/
theorem splice_all (n : Nat) (v : Value) (l : List Value) (h : l.length = n) : splice (List.replicate n v) 0 l = l := by
  subst h; simp [splice]


end Go.Proofs.YthehmnpbepmnpaaGreatDoorR
namespace Go.Proofs.YthehmnpbepmnpaaGreatDoorR
open Go.RowKit

set_option maxRecDepth 100000 in
set_option maxHeartbeats 1000000 in
theorem fromUv_none (A : Option Addr) (c : Nat) (w : World) (T : TypeId) (p3 : Value) (h3 : w.cell? ⟨6, 0, none⟩ = some (.iface T p3)) :
    Calls Tryz.prog 112 #[.slice A 0 c] w fun e w' =>
      e = .returned (.tuple #[.int .u64 0, .int .i64 0, .iface T p3]) ∧ ∃ q, w' = w.drewN q := by
  go_enter Tryz.func112, Tryz.ntmps112
  go_wp2
  refine wp_loop_rounds 1 ?_
  rw [rounds_succ]
  go_wp2
  go_quiet (fail)
  go_wp2
  go_ret3
  exact ⟨rfl, _, rfl⟩

/-- varint.FromUvarint at whatever slice: it reads as uvDec says; its errors are the three sentinels. -/
theorem fromUv (A : Option Addr) (n c : Nat) (l : List UInt8) (w : World) (hs : BS w (.slice A n c) l) (hm : l.length ≤ 9223372036854775807)
    (T : TypeId) (p1 p2 p3 : Value)
    (h1 : w.cell? ⟨4, 0, none⟩ = some (.iface T p1)) (h2 : w.cell? ⟨5, 0, none⟩ = some (.iface T p2)) (h3 : w.cell? ⟨6, 0, none⟩ = some (.iface T p3)) :
    Calls Tryz.prog 112 #[.slice A n c] w fun e w' =>
      e = .returned ((uvDec l).val (.iface T p1) (.iface T p2) (.iface T p3)) ∧ ∃ q, w' = w.drewN q := by
  obtain ⟨hn, _⟩ := hs.slice
  rcases Nat.eq_zero_or_pos n with h0 | h0
  · subst h0
    have hl : l = [] := List.eq_nil_of_length_eq_zero hn.symm
    subst hl
    exact fromUv_none A c w T p3 h3
  · obtain ⟨b, o, rfl, hc⟩ := hs.at_ h0
    exact fromUv_any b o n c l w hn.symm (by omega) hc T p1 p2 p3 h1 h2 h3



/-- What impl.UvRead answers. -/
def UvR.plain : UvR → Value
  | .ok x m => .tuple #[.int .u64 x, .int .i64 m, .bool true]
  | _ => .tuple #[.int .u64 0, .int .i64 0, .bool false]

end Go.Proofs.YthehmnpbepmnpaaGreatDoorR
/- The plain law of multihashes: how one is read of bytes, how it is written. No program in sight. -/
namespace Go.Proofs.YthehmnpbepmnpaaGreatDoorR
open Go.RowKit

/-- Reading a multihash of the beginning of bytes: how many bytes it has, its code, its digest. -/
def mhRd (l : List UInt8) : Option (Nat × Nat × List UInt8) :=
  if l.length < 2 then none else
  match uvDec l with
  | .ok code n =>
    match uvDec (l.drop n) with
    | .ok len m => if 2147483647 < len ∨ ((l.drop n).drop m).length < len then none else some (n + m + len, code, ((l.drop n).drop m).take len)
    | _ => none
  | _ => none

/-- How a multihash is written. -/
def mhEnc (code : Nat) (d : List UInt8) : List UInt8 := Lib.uvarint code ++ (Lib.uvarint d.length ++ d)

/-- A number below 2^63 that is written is read, whatever stands behind it. -/
theorem uvGo_back : ∀ (f k X y : Nat) (more : List UInt8), k + f = 9 → X < 2 ^ (7 * k) → y < 2 ^ (7 * f) → (0 < k → 0 < y) → 0 < f →
    uvGo k X (Lib.uvarint y ++ more) = .ok (X + y * 2 ^ (7 * k)) (k + (Lib.uvarint y).length)
  | 0, _, _, _, _, _, _, _, _, h => by omega
  | f + 1, k, X, y, more, hkf, hX, hy, hpos, _ => by
    by_cases h : y < 128
    · have hb : y.toUInt8.toNat = y := by simp; omega
      rw [Lib.uvarint_small h]
      show uvGo k X (y.toUInt8 :: more) = _
      unfold uvGo
      rw [hb, if_neg (by omega), if_pos h, if_neg (by intro ⟨h1, h2⟩; have := hpos h2; omega)]
      simp
    · have hb : (y % 128 + 128).toUInt8.toNat = y % 128 + 128 := by simp; omega
      rw [Lib.uvarint_big (by omega), List.cons_append]
      have hf : 0 < f := by
        rcases Nat.eq_zero_or_pos f with h0 | h0
        · subst h0; simp at hy; omega
        · exact h0
      unfold uvGo
      rw [hb, if_neg (by omega), if_neg (by omega)]
      have hlt := uv_step_lt k X ((y % 128 + 128) % 128) hX (by omega)
      have e1 : (y % 128 + 128) % 128 = y % 128 := by omega
      have hp : 2 ^ (7 * (f + 1)) = 2 ^ (7 * f) * 128 := by rw [Nat.mul_add, Nat.pow_add]
      have hpk : 2 ^ (7 * (k + 1)) = 2 ^ (7 * k) * 128 := by rw [Nat.mul_add, Nat.pow_add]
      rw [uvGo_back f (k + 1) _ (y / 128) more (by omega) hlt (by rw [hp] at hy; omega) (by omega) hf, e1, hpk]
      congr 1
      · have : y = y / 128 * 128 + y % 128 := by omega
        have e2 : y * 2 ^ (7 * k) = y / 128 * (2 ^ (7 * k) * 128) + y % 128 * 2 ^ (7 * k) := by
          conv => lhs; rw [this]
          rw [Nat.add_mul, Nat.mul_assoc, Nat.mul_comm 128]
        omega
      · simp; omega

theorem uvDec_back (x : Nat) (hx : x < 9223372036854775808) (more : List UInt8) : uvDec (Lib.uvarint x ++ more) = .ok x (Lib.uvarint x).length := by
  have := uvGo_back 9 0 0 x more rfl (by decide) (by simpa using hx) (by omega) (by decide)
  simpa [uvDec] using this

theorem mhRd_enc (code : Nat) (d more : List UInt8) (hc : code < 9223372036854775808) (hd : d.length ≤ 2147483647) :
    mhRd (mhEnc code d ++ more) = some ((mhEnc code d).length, code, d) := by
  have h1 := Lib.uvarint_pos code
  have h2 := Lib.uvarint_pos d.length
  unfold mhRd mhEnc
  have e0 : Lib.uvarint code ++ (Lib.uvarint d.length ++ d) ++ more = Lib.uvarint code ++ (Lib.uvarint d.length ++ (d ++ more)) := by simp
  rw [e0, uvDec_back code hc]
  simp only [List.drop_left]
  rw [uvDec_back d.length (by omega)]
  simp only [List.drop_left, List.take_left]
  rw [if_neg (by simp; omega), if_neg (by simp; omega)]
  simp [Nat.add_assoc]

theorem uvR_cases (r : UvR) : (∃ x m, r = .ok x m) ∨ r.no := by
  cases r with
  | ok x m => exact .inl ⟨x, m, rfl⟩
  | _ => exact .inr trivial

theorem mhRd_some {l : List UInt8} {r code : Nat} {d : List UInt8} (h : mhRd l = some (r, code, d)) :
    2 ≤ l.length ∧ ∃ m1 x2 m2, uvDec l = .ok code m1 ∧ uvDec (l.drop m1) = .ok x2 m2 ∧ x2 ≤ 2147483647 ∧ x2 ≤ ((l.drop m1).drop m2).length ∧ r = m1 + m2 + x2 ∧ d = ((l.drop m1).drop m2).take x2 := by
  unfold mhRd at h
  by_cases h2 : l.length < 2
  · rw [if_pos h2] at h; cases h
  rw [if_neg h2] at h
  refine ⟨by omega, ?_⟩
  rcases uvR_cases (uvDec l) with ⟨x1, m1, e1⟩ | hno
  · rw [e1] at h
    dsimp only at h
    rcases uvR_cases (uvDec (l.drop m1)) with ⟨x2, m2, e2⟩ | hno
    · rw [e2] at h
      dsimp only at h
      by_cases h3 : 2147483647 < x2 ∨ ((l.drop m1).drop m2).length < x2
      · rw [if_pos h3] at h; cases h
      rw [if_neg h3] at h
      simp only [Option.some.injEq, Prod.mk.injEq] at h
      obtain ⟨rfl, rfl, rfl⟩ := h
      exact ⟨m1, x2, m2, e1, e2, by omega, by omega, rfl, rfl⟩
    · cases hh : uvDec (l.drop m1) with
      | ok => rw [hh] at hno; exact False.elim hno
      | _ => rw [hh] at h; cases h
  · cases hh : uvDec l with
    | ok => rw [hh] at hno; exact False.elim hno
    | _ => rw [hh] at h; cases h

theorem mhRd_none {l : List UInt8} (h : mhRd l = none) : l.length < 2 ∨ (2 ≤ l.length ∧ ((uvDec l).no ∨ ∃ x1 m1, uvDec l = .ok x1 m1 ∧
    ((uvDec (l.drop m1)).no ∨ ∃ x2 m2, uvDec (l.drop m1) = .ok x2 m2 ∧ (2147483647 < x2 ∨ (x2 ≤ 2147483647 ∧ ((l.drop m1).drop m2).length < x2))))) := by
  by_cases h2 : l.length < 2
  · exact .inl h2
  refine .inr ⟨by omega, ?_⟩
  unfold mhRd at h
  rw [if_neg h2] at h
  rcases uvR_cases (uvDec l) with ⟨x1, m1, e1⟩ | hno
  · refine .inr ⟨x1, m1, e1, ?_⟩
    rw [e1] at h
    dsimp only at h
    rcases uvR_cases (uvDec (l.drop m1)) with ⟨x2, m2, e2⟩ | hno
    · refine .inr ⟨x2, m2, e2, ?_⟩
      rw [e2] at h
      dsimp only at h
      by_cases h3 : 2147483647 < x2 ∨ ((l.drop m1).drop m2).length < x2
      · omega
      · rw [if_neg h3] at h; cases h
    · exact .inl hno
  · exact .inl hno
end Go.Proofs.YthehmnpbepmnpaaGreatDoorR
