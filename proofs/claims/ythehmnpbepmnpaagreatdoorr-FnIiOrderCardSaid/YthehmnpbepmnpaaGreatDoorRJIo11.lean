/- Contracts, joined (SoB SoC SoD). -/
import Derived.Test.YthehmnpbepmnpaaGreatDoorRJIo10
/- Contract: sort.symMerge_func over any test and any exchange. -/
namespace Go.Proofs.YthehmnpbepmnpaaGreatDoorR
open Go.RowKit
variable {α : Type}

set_option maxRecDepth 100000 in
set_option maxHeartbeats 4000000 in
theorem so_mgL {K : SoK α} {n blk : Nat} {g : FuncId} {lb : Array Value} {sf : FuncId} {sb : Array Value} {H : (Nat → α) → World → Prop} (E : SoEnv K n blk g lb sf sb H) (hn : n ≤ 1000000) (d : Nat → α) (W : World) (hH : H d W) (a b : Nat) (hab : a + 1 < b) (hb : b ≤ n) (hm : SoMg K a (a + 1) b d) :
    Calls Tryz.prog 66 #[.agg (soFs g lb sf sb), .int .i64 a, .int .i64 (a + 1 : Nat), .int .i64 b] W (SoPost blk H (fun d' => Prm a b d d' ∧ K.srt a b d') W) := by
  have eg := E.eg
  have HE := Lib.hid E
  have HM := Lib.hid hm
  have HS := Lib.hid (E.size _ _ hH)
  have H0 := Lib.hid (SoAt.start E hH)
  clear hH E hm
  rw [show (((a + 1 : Nat) : Int)) = (a : Int) + 1 by omega]
  have e1 : ((a : Int) + 1 - a == 1) = true := by rw [beq_iff_eq]; omega
  go_enter Tryz.func66, Tryz.ntmps66
  go_wp2
  go_loopw [8, 9] (fun vi vj wr => ∃ (i j : Nat), vi = .int .i64 i ∧ vj = .int .i64 j ∧ a + 1 ≤ i ∧ i ≤ j ∧ j ≤ b ∧ SoAt blk H g lb sf sb W d wr ∧ SoFl K a b i j d) (fun vi vj _ => (intOf vj).toNat - (intOf vi).toNat)
  case atStart => exact ⟨a + 1, b, by go_num, rfl, by omega, by omega, by omega, H0.out, SoFl.start K a b d⟩
  case round =>
    obtain ⟨i, j, rfl, rfl, hi, hij, hj, hat, hF⟩ := hrel
    have HA := Lib.hid hat
    have HF := Lib.hid hF
    have c0 := cell_of_row' (cur := [_, _]) hat.box 0
    clear hat hF
    by_cases hlt : i < j
    · obtain ⟨h, hh⟩ : ∃ h, h = (i + j) / 2 := ⟨_, rfl⟩
      have hl := HE.out.less _ _ HA.out.row h a (by omega) (by omega)
      rw [show ((h : Nat) : Int) = ((i : Int) + j) / 2 by omega] at hl
      have HL := Lib.hid hl
      have HHH := Lib.hid hh
      clear hl
      cases hlv : K.lt (d h) (d a) with
      | true =>
        rw [hlv] at HL
        have HN := Lib.hid (HF.out.yes HM.out (show h < j by omega) hj hlv)
        clear hlv hh
        go_wp2_with fail
        refine HL.out.mono ?_
        rintro e w' ⟨rfl, hb'⟩
        have HB := Lib.hid (HA.out.less HE.out hb')
        clear hb' c0 HL HA HF
        go_wp2
        go_roundw
        case rel =>
          have hh := HHH.out
          exact ⟨h + 1, j, by go_num, rfl, by omega, by omega, hj, HB.out, HN.out⟩
        case measure => simp [intOf]; omega
      | false =>
        rw [hlv] at HL
        have HN := Lib.hid (HF.out.no HM.out (show i ≤ h by omega) (show h < j by omega) hi hj hlv)
        clear hlv hh
        go_wp2_with fail
        refine HL.out.mono ?_
        rintro e w' ⟨rfl, hb'⟩
        have HB := Lib.hid (HA.out.less HE.out hb')
        clear hb' c0 HL HA HF
        go_wp2
        go_roundw
        case rel =>
          have hh := HHH.out
          exact ⟨i, h, rfl, by go_num, by omega, by omega, by omega, HB.out, HN.out⟩
        case measure => simp [intOf]; omega
    · obtain rfl : i = j := by omega
      have HD := Lib.hid (HF.out.done HM.out hi hj)
      clear c0 HF
      go_wp2
      go_loopw [11] (fun vk wr2 => ∃ (k : Nat), vk = .int .i64 k ∧ a ≤ k ∧ k + 1 ≤ i ∧ SoAt blk H g lb sf sb W (rot a (a + 1) (k + 1) d) wr2) (fun vk _ => i - (intOf vk).toNat)
      case atStart => exact ⟨a, rfl, Nat.le_refl _, by omega, by rw [rot_same]; exact HA.out⟩
      case round =>
        obtain ⟨k, rfl, hak, hki, hat⟩ := hrel
        have HB := Lib.hid hat
        have c1 := cell_of_row' (cur := [_, _]) hat.box 1
        clear hat
        by_cases hlt2 : k + 1 < i
        · obtain ⟨W', hs, hr, hk⟩ := HE.out.swap _ _ HB.out.row k (k + 1) (by omega) (by omega) (by omega)
          rw [show (((k + 1 : Nat) : Int)) = (k : Int) + 1 by omega] at hs
          rw [rot_step d hak] at hr
          have HC := Lib.hid (HB.out.turn HS.out hk hr)
          have HR := Lib.hid hs
          clear hr hk hs
          go_wp2_with fail
          rw [HR.out, Oper.upon_value]
          go_wp2
          go_roundw
          case rel => exact ⟨k + 1, by go_num, by omega, by omega, HC.out⟩
          case measure => simp [intOf]; omega
        · obtain rfl : i = k + 1 := by omega
          go_wp2
          go_end0
          exact ⟨rfl, _, HB.out.row, HD.out, HB.out.keep⟩

set_option maxRecDepth 100000 in
set_option maxHeartbeats 4000000 in
theorem so_mgR {K : SoK α} {n blk : Nat} {g : FuncId} {lb : Array Value} {sf : FuncId} {sb : Array Value} {H : (Nat → α) → World → Prop} (E : SoEnv K n blk g lb sf sb H) (hn : n ≤ 1000000) (d : Nat → α) (W : World) (hH : H d W) (a m : Nat) (hab : a + 1 < m) (hb : m + 1 ≤ n) (hm : SoMg K a m (m + 1) d) :
    Calls Tryz.prog 66 #[.agg (soFs g lb sf sb), .int .i64 a, .int .i64 m, .int .i64 (m + 1 : Nat)] W (SoPost blk H (fun d' => Prm a (m + 1) d d' ∧ K.srt a (m + 1) d') W) := by
  have eg := E.eg
  have HE := Lib.hid E
  have HM := Lib.hid hm
  have HS := Lib.hid (E.size _ _ hH)
  have H0 := Lib.hid (SoAt.start E hH)
  clear hH E hm
  rw [show (((m + 1 : Nat) : Int)) = (m : Int) + 1 by omega]
  have e1 : ((m : Int) + 1 - m == 1) = true := by rw [beq_iff_eq]; omega
  have hne : ((m : Int) - a == 1) = false := by rw [beq_eq_false_iff_ne]; omega
  go_enter Tryz.func66, Tryz.ntmps66
  go_wp2
  go_loopw [12, 13] (fun vi vj wr => ∃ (i j : Nat), vi = .int .i64 i ∧ vj = .int .i64 j ∧ a ≤ i ∧ i ≤ j ∧ j ≤ m ∧ SoAt blk H g lb sf sb W d wr ∧ SoFr K a m i j d) (fun vi vj _ => (intOf vj).toNat - (intOf vi).toNat)
  case atStart => exact ⟨a, m, rfl, rfl, by omega, by omega, by omega, H0.out, SoFr.start K a m d⟩
  case round =>
    obtain ⟨i, j, rfl, rfl, hi, hij, hj, hat, hF⟩ := hrel
    have HA := Lib.hid hat
    have HF := Lib.hid hF
    have c0 := cell_of_row' (cur := [_, _]) hat.box 0
    clear hat hF
    by_cases hlt : i < j
    · obtain ⟨h, hh⟩ : ∃ h, h = (i + j) / 2 := ⟨_, rfl⟩
      have hl := HE.out.less _ _ HA.out.row m h (by omega) (by omega)
      rw [show ((h : Nat) : Int) = ((i : Int) + j) / 2 by omega] at hl
      have HL := Lib.hid hl
      have HHH := Lib.hid hh
      clear hl
      cases hlv : K.lt (d m) (d h) with
      | true =>
        rw [hlv] at HL
        have HN := Lib.hid (HF.out.yes HM.out (show i ≤ h by omega) hi hlv)
        clear hlv hh
        go_wp2_with fail
        refine HL.out.mono ?_
        rintro e w' ⟨rfl, hb'⟩
        have HB := Lib.hid (HA.out.less HE.out hb')
        clear hb' c0 HL HA HF
        go_wp2
        go_roundw
        case rel =>
          have hh := HHH.out
          exact ⟨i, h, rfl, by go_num, by omega, by omega, by omega, HB.out, HN.out⟩
        case measure => simp [intOf]; omega
      | false =>
        rw [hlv] at HL
        have HN := Lib.hid (HF.out.no HM.out (show i ≤ h by omega) (show h < j by omega) hi hj hlv)
        clear hlv hh
        go_wp2_with fail
        refine HL.out.mono ?_
        rintro e w' ⟨rfl, hb'⟩
        have HB := Lib.hid (HA.out.less HE.out hb')
        clear hb' c0 HL HA HF
        go_wp2
        go_roundw
        case rel =>
          have hh := HHH.out
          exact ⟨h + 1, j, by go_num, rfl, by omega, by omega, hj, HB.out, HN.out⟩
        case measure => simp [intOf]; omega
    · obtain rfl : i = j := by omega
      have HD := Lib.hid (HF.out.done HM.out hi hj)
      clear c0 HF
      go_wp2
      go_loopw [15] (fun vk wr2 => ∃ (k : Nat), vk = .int .i64 k ∧ i ≤ k ∧ k ≤ m ∧ SoAt blk H g lb sf sb W (rot k m (m + 1) d) wr2) (fun vk _ => (intOf vk).toNat)
      case atStart => exact ⟨m, rfl, hj, Nat.le_refl _, by rw [rot_none]; exact HA.out⟩
      case round =>
        obtain ⟨k, rfl, hik, hkm, hat⟩ := hrel
        have HB := Lib.hid hat
        have c1 := cell_of_row' (cur := [_, _]) hat.box 1
        clear hat
        by_cases hlt2 : i < k
        · obtain ⟨q, rfl⟩ : ∃ q, k = q + 1 := ⟨k - 1, by omega⟩
          obtain ⟨W', hs, hr, hk⟩ := HE.out.swap _ _ HB.out.row (q + 1) q (by omega) (by omega) (by omega)
          rw [show (((q + 1 : Nat) : Int)) = (q : Int) + 1 by omega] at hs
          rw [rot_back d hkm] at hr
          have HC := Lib.hid (HB.out.turn HS.out hk hr)
          have HR := Lib.hid hs
          clear hr hk hs
          go_wp2_with fail
          rw [HR.out, Oper.upon_value]
          go_wp2
          go_roundw
          case rel => exact ⟨q, by go_num, by omega, by omega, HC.out⟩
          case measure => simp [intOf]
        · obtain rfl : i = k := by omega
          go_wp2
          go_end0
          exact ⟨rfl, _, HB.out.row, HD.out, HB.out.keep⟩
end Go.Proofs.YthehmnpbepmnpaaGreatDoorR
/- Contracts: sort.symMerge_func, stable_func over any test and any exchange. -/
namespace Go.Proofs.YthehmnpbepmnpaaGreatDoorR
open Go.RowKit
variable {α : Type}

set_option maxRecDepth 100000 in
set_option maxHeartbeats 16000000 in
theorem so_mgN {K : SoK α} {n blk : Nat} {g : FuncId} {lb : Array Value} {sf : FuncId} {sb : Array Value} {H : (Nat → α) → World → Prop} (E : SoEnv K n blk g lb sf sb H) (hn : n ≤ 1000000) (d : Nat → α) (W : World) (hH : H d W) (a m b : Nat) (h1 : a + 1 < m) (h2 : m + 1 < b) (hb : b ≤ n) (hm : SoMg K a m b d)
    (IH : ∀ (d : Nat → α) (W : World), H d W → ∀ a' m' b' : Nat, a' < m' → m' < b' → b' ≤ n → b' - a' < b - a → SoMg K a' m' b' d → Calls Tryz.prog 66 #[.agg (soFs g lb sf sb), .int .i64 a', .int .i64 m', .int .i64 b'] W (SoPost blk H (fun d' => Prm a' b' d d' ∧ K.srt a' b' d') W)) :
    Calls Tryz.prog 66 #[.agg (soFs g lb sf sb), .int .i64 a, .int .i64 m, .int .i64 b] W (SoPost blk H (fun d' => Prm a b d d' ∧ K.srt a b d') W) := by
  have eg := E.eg
  have HE := Lib.hid E
  have HM := Lib.hid hm
  have HI := Lib.hid IH
  have HS := Lib.hid (E.size _ _ hH)
  have H0 := Lib.hid (SoAt.start E hH)
  clear hH E hm IH
  have e1 : ((m : Int) - a == 1) = false := by rw [beq_eq_false_iff_ne]; omega
  have e2 : ((b : Int) - m == 1) = false := by rw [beq_eq_false_iff_ne]; omega
  obtain ⟨mid, hmid⟩ : ∃ mid, mid = (a + b) / 2 := ⟨_, rfl⟩
  have e3 : ((a : Int) + b) / 2 = mid := by omega
  have m1 : a < mid := by omega
  have m2 : mid < b := by omega
  have HMID := Lib.hid hmid
  have key : (mid < m ∧ ∃ s0 : Nat, (mid : Int) + m - b = s0 ∧ SoRg a m b (mid + m) s0 mid) ∨ (¬ mid < m ∧ SoRg a m b (mid + m) a m) := by
    by_cases h : mid < m
    · exact Or.inl ⟨h, mid + m - b, by omega, by unfold SoRg; omega⟩
    · exact Or.inr ⟨h, by unfold SoRg; omega⟩
  clear hmid

  rcases key with ⟨hlt0, s0, e5, hq⟩ | ⟨hlt0, hq⟩
  · skip
    have HQ := Lib.hid hq
    clear hq
    go_enter Tryz.func66, Tryz.ntmps66
    go_wp2
    go_loopw [18, 19] (fun vi vj wr => ∃ (s r : Nat), vi = .int .i64 s ∧ vj = .int .i64 r ∧ s0 ≤ s ∧ s ≤ r ∧ r ≤ mid ∧ SoAt blk H g lb sf sb W d wr ∧ SoFm K s0 mid (mid + m) s r d) (fun vi vj _ => (intOf vj).toNat - (intOf vi).toNat)
    case atStart => exact ⟨s0, mid, by first | rfl | go_num, by first | rfl | go_num, Nat.le_refl _, HQ.out.2.1, Nat.le_refl _, H0.out, SoFm.start K s0 mid (mid + m) d⟩
    case round =>
      obtain ⟨s, r, rfl, rfl, hs0, hsr, hr0, hat, hF⟩ := hrel
      have HA := Lib.hid hat
      have HF := Lib.hid hF
      have c0 := cell_of_row' (cur := [_, _]) hat.box 0
      have c1 := cell_of_row' (cur := [_, _]) hat.box 1
      have q1 : a ≤ s0 := HQ.out.1
      have q3 : mid ≤ m := HQ.out.2.2.1
      have q4 : mid + m ≤ mid + m := HQ.out.2.2.2.1
      have q5 : mid + m ≤ b + s0 := HQ.out.2.2.2.2.1
      clear hat hF
      by_cases hlt : s < r
      · obtain ⟨c, hc⟩ : ∃ c, c = (s + r) / 2 := ⟨_, rfl⟩
        have e4 : ((s : Int) + r) / 2 = c := by omega
        have g1 : s ≤ c := by omega
        have g2 : c < r := by omega
        clear hc
        have hl := HE.out.less _ _ HA.out.row (mid + m - 1 - c) c (by omega) (by omega)
        rw [show (((mid + m - 1 - c : Nat) : Nat) : Int) = (mid : Int) + m - 1 - c by omega] at hl
        have HL := Lib.hid hl
        clear hl
        cases hlv : K.lt (d (mid + m - 1 - c)) (d c) with
        | true =>
          rw [hlv] at HL
          have HN := Lib.hid (HF.out.yes HM.out HQ.out g1 g2 hs0 hr0 hlv)
          clear hlv
          go_wp2_with fail
          refine HL.out.mono ?_
          rintro e w' ⟨rfl, hb'⟩
          have HB := Lib.hid (HA.out.less HE.out hb')
          clear hb' c0 c1 HL HA HF
          go_wp2
          go_roundw
          case rel => exact ⟨s, c, by first | rfl | go_num, by first | rfl | go_num, by omega, by omega, by omega, HB.out, HN.out⟩
          case measure => simp [intOf] <;> omega
        | false =>
          rw [hlv] at HL
          have HN := Lib.hid (HF.out.no HM.out HQ.out g1 g2 hs0 hr0 hlv)
          clear hlv
          go_wp2_with fail
          refine HL.out.mono ?_
          rintro e w' ⟨rfl, hb'⟩
          have HB := Lib.hid (HA.out.less HE.out hb')
          clear hb' c0 c1 HL HA HF
          go_wp2
          go_roundw
          case rel => exact ⟨c + 1, r, by first | rfl | go_num, by first | rfl | go_num, by omega, by omega, by omega, HB.out, HN.out⟩
          case measure => simp [intOf] <;> omega
      · obtain rfl : s = r := by omega
        obtain ⟨e, he⟩ : ∃ e, e = mid + m - s := ⟨_, rfl⟩
        have e4 : (mid : Int) + m - s = e := by omega
        have hv := HF.out.done HM.out HQ.out hs0 hr0
        rw [← HMID.out, ← he] at hv
        have v1 := hv.h1
        have v2 := hv.h2
        have v3 := hv.h3
        have v4 := hv.h4
        have HV := Lib.hid hv
        have HP := Lib.hid ((rot_prm s m e d (by omega) (by omega)).mono (show a ≤ s by omega) (show e ≤ b by omega))
        clear hv HF
        by_cases X : s < m <;> by_cases Y : s < mid <;> by_cases Z : a < s <;> by_cases V : e < b
        · have t1 : m < e := by omega
          have t2 : mid < e := by omega
          clear he
          have HC := Lib.hid (so_rot HE.out hn d wr HA.out.row s m e X t1 (by omega))
          go_wp2_with fail
          refine HC.out.mono ?_
          rintro e' w1 ⟨rfl, d1, hr, hd1, hk⟩
          rw [← hd1] at HV HP
          have hB1 := HA.out.turn HS.out hk hr
          have c0 := cell_of_row' (cur := [_, _]) hB1.box 0
          have c1 := cell_of_row' (cur := [_, _]) hB1.box 1
          have HB1 := Lib.hid hB1
          clear hr hk hd1 hB1 HC HA
          have HC := Lib.hid (HI.out d1 w1 HB1.out.row a s mid Z Y (by omega) (by omega) HV.out.l)
          go_wp2_with fail
          refine HC.out.mono ?_
          rintro e' w2 ⟨rfl, d2, hr, ⟨hp, hs⟩, hk⟩
          have HP2 := Lib.hid hp
          have HS2 := Lib.hid hs
          have hB2 := HB1.out.turn HS.out hk hr
          have c0 := cell_of_row' (cur := [_, _]) hB2.box 0
          have c1 := cell_of_row' (cur := [_, _]) hB2.box 1
          have HB2 := Lib.hid hB2
          clear hr hk hp hs hB2 HC HB1
          have HR2 := Lib.hid (HV.out.r.prm HP2.out (Or.inl (Nat.le_refl _)) v3 v4)
          have HC := Lib.hid (HI.out d2 w2 HB2.out.row mid e b t2 V hb (by omega) HR2.out)
          go_wp2_with fail
          refine HC.out.mono ?_
          rintro e' w3 ⟨rfl, d3, hr, ⟨hp, hs⟩, hk⟩
          have HF3 := Lib.hid (HV.out.done HP2.out HS2.out hp hs)
          have HB3 := Lib.hid (HB2.out.turn HS.out hk hr)
          clear hr hk hp hs HC HB2
          go_wp2
          go_end0
          exact ⟨rfl, _, HB3.out.row, ⟨HP.out.trans HF3.out.1, HF3.out.2⟩, HB3.out.keep⟩
        · have t1 : m < e := by omega
          have t2 : mid < e := by omega
          clear he
          have HC := Lib.hid (so_rot HE.out hn d wr HA.out.row s m e X t1 (by omega))
          go_wp2_with fail
          refine HC.out.mono ?_
          rintro e' w1 ⟨rfl, d1, hr, hd1, hk⟩
          rw [← hd1] at HV HP
          have hB1 := HA.out.turn HS.out hk hr
          have c0 := cell_of_row' (cur := [_, _]) hB1.box 0
          have c1 := cell_of_row' (cur := [_, _]) hB1.box 1
          have HB1 := Lib.hid hB1
          clear hr hk hd1 hB1 HC HA
          have HC := Lib.hid (HI.out d1 w1 HB1.out.row a s mid Z Y (by omega) (by omega) HV.out.l)
          go_wp2_with fail
          refine HC.out.mono ?_
          rintro e' w2 ⟨rfl, d2, hr, ⟨hp, hs⟩, hk⟩
          have HP2 := Lib.hid hp
          have HS2 := Lib.hid hs
          have hB2 := HB1.out.turn HS.out hk hr
          have c0 := cell_of_row' (cur := [_, _]) hB2.box 0
          have c1 := cell_of_row' (cur := [_, _]) hB2.box 1
          have HB2 := Lib.hid hB2
          clear hr hk hp hs hB2 HC HB1
          have HR2 := Lib.hid (HV.out.r.prm HP2.out (Or.inl (Nat.le_refl _)) v3 v4)
          have HF3 := Lib.hid (HV.out.done HP2.out HS2.out (Prm.refl mid b d2) (HR2.out.whole (by omega) v3 v4))
          go_wp2
          go_end0
          exact ⟨rfl, _, HB2.out.row, ⟨HP.out.trans HF3.out.1, HF3.out.2⟩, HB2.out.keep⟩
        · have t1 : m < e := by omega
          have t2 : mid < e := by omega
          clear he
          have HC := Lib.hid (so_rot HE.out hn d wr HA.out.row s m e X t1 (by omega))
          go_wp2_with fail
          refine HC.out.mono ?_
          rintro e' w1 ⟨rfl, d1, hr, hd1, hk⟩
          rw [← hd1] at HV HP
          have hB1 := HA.out.turn HS.out hk hr
          have c0 := cell_of_row' (cur := [_, _]) hB1.box 0
          have c1 := cell_of_row' (cur := [_, _]) hB1.box 1
          have HB1 := Lib.hid hB1
          clear hr hk hd1 hB1 HC HA
          have HP2 := Lib.hid (Prm.refl a mid d1)
          have HS2 := Lib.hid (HV.out.l.whole (by omega) v1 v2)
          have HB2 := HB1
          clear HB1
          have HR2 := Lib.hid (HV.out.r.prm HP2.out (Or.inl (Nat.le_refl _)) v3 v4)
          have HC := Lib.hid (HI.out d1 w1 HB2.out.row mid e b t2 V hb (by omega) HR2.out)
          go_wp2_with fail
          refine HC.out.mono ?_
          rintro e' w3 ⟨rfl, d3, hr, ⟨hp, hs⟩, hk⟩
          have HF3 := Lib.hid (HV.out.done HP2.out HS2.out hp hs)
          have HB3 := Lib.hid (HB2.out.turn HS.out hk hr)
          clear hr hk hp hs HC HB2
          go_wp2
          go_end0
          exact ⟨rfl, _, HB3.out.row, ⟨HP.out.trans HF3.out.1, HF3.out.2⟩, HB3.out.keep⟩
        · have t1 : m < e := by omega
          have t2 : mid < e := by omega
          clear he
          have HC := Lib.hid (so_rot HE.out hn d wr HA.out.row s m e X t1 (by omega))
          go_wp2_with fail
          refine HC.out.mono ?_
          rintro e' w1 ⟨rfl, d1, hr, hd1, hk⟩
          rw [← hd1] at HV HP
          have hB1 := HA.out.turn HS.out hk hr
          have c0 := cell_of_row' (cur := [_, _]) hB1.box 0
          have c1 := cell_of_row' (cur := [_, _]) hB1.box 1
          have HB1 := Lib.hid hB1
          clear hr hk hd1 hB1 HC HA
          have HP2 := Lib.hid (Prm.refl a mid d1)
          have HS2 := Lib.hid (HV.out.l.whole (by omega) v1 v2)
          have HB2 := HB1
          clear HB1
          have HR2 := Lib.hid (HV.out.r.prm HP2.out (Or.inl (Nat.le_refl _)) v3 v4)
          have HF3 := Lib.hid (HV.out.done HP2.out HS2.out (Prm.refl mid b d1) (HR2.out.whole (by omega) v3 v4))
          go_wp2
          go_end0
          exact ⟨rfl, _, HB2.out.row, ⟨HP.out.trans HF3.out.1, HF3.out.2⟩, HB2.out.keep⟩
        · have t1 : ¬ m < e := by omega
          have t2 : mid < e := by omega
          clear he
          have hd1 : rot s m e d = d := by
            rw [show m = e by omega]; exact rot_same _ _ _
          rw [hd1] at HV HP
          have HB1 := HA
          clear hd1 HA
          have HP2 := Lib.hid (Prm.refl a mid d)
          have HS2 := Lib.hid (HV.out.l.whole (by omega) v1 v2)
          have HB2 := HB1
          clear HB1
          have HR2 := Lib.hid (HV.out.r.prm HP2.out (Or.inl (Nat.le_refl _)) v3 v4)
          have HC := Lib.hid (HI.out d wr HB2.out.row mid e b t2 V hb (by omega) HR2.out)
          go_wp2_with fail
          refine HC.out.mono ?_
          rintro e' w3 ⟨rfl, d3, hr, ⟨hp, hs⟩, hk⟩
          have HF3 := Lib.hid (HV.out.done HP2.out HS2.out hp hs)
          have HB3 := Lib.hid (HB2.out.turn HS.out hk hr)
          clear hr hk hp hs HC HB2
          go_wp2
          go_end0
          exact ⟨rfl, _, HB3.out.row, ⟨HP.out.trans HF3.out.1, HF3.out.2⟩, HB3.out.keep⟩
        · have t1 : ¬ m < e := by omega
          have t2 : mid < e := by omega
          clear he
          have hd1 : rot s m e d = d := by
            rw [show m = e by omega]; exact rot_same _ _ _
          rw [hd1] at HV HP
          have HB1 := HA
          clear hd1 HA
          have HP2 := Lib.hid (Prm.refl a mid d)
          have HS2 := Lib.hid (HV.out.l.whole (by omega) v1 v2)
          have HB2 := HB1
          clear HB1
          have HR2 := Lib.hid (HV.out.r.prm HP2.out (Or.inl (Nat.le_refl _)) v3 v4)
          have HF3 := Lib.hid (HV.out.done HP2.out HS2.out (Prm.refl mid b d) (HR2.out.whole (by omega) v3 v4))
          go_wp2
          go_end0
          exact ⟨rfl, _, HB2.out.row, ⟨HP.out.trans HF3.out.1, HF3.out.2⟩, HB2.out.keep⟩
        · have t1 : ¬ m < e := by omega
          have t2 : mid < e := by omega
          clear he
          have hd1 : rot s m e d = d := by
            rw [show m = e by omega]; exact rot_same _ _ _
          rw [hd1] at HV HP
          have HB1 := HA
          clear hd1 HA
          have HP2 := Lib.hid (Prm.refl a mid d)
          have HS2 := Lib.hid (HV.out.l.whole (by omega) v1 v2)
          have HB2 := HB1
          clear HB1
          have HR2 := Lib.hid (HV.out.r.prm HP2.out (Or.inl (Nat.le_refl _)) v3 v4)
          have HC := Lib.hid (HI.out d wr HB2.out.row mid e b t2 V hb (by omega) HR2.out)
          go_wp2_with fail
          refine HC.out.mono ?_
          rintro e' w3 ⟨rfl, d3, hr, ⟨hp, hs⟩, hk⟩
          have HF3 := Lib.hid (HV.out.done HP2.out HS2.out hp hs)
          have HB3 := Lib.hid (HB2.out.turn HS.out hk hr)
          clear hr hk hp hs HC HB2
          go_wp2
          go_end0
          exact ⟨rfl, _, HB3.out.row, ⟨HP.out.trans HF3.out.1, HF3.out.2⟩, HB3.out.keep⟩
        · have t1 : ¬ m < e := by omega
          have t2 : mid < e := by omega
          clear he
          have hd1 : rot s m e d = d := by
            rw [show m = e by omega]; exact rot_same _ _ _
          rw [hd1] at HV HP
          have HB1 := HA
          clear hd1 HA
          have HP2 := Lib.hid (Prm.refl a mid d)
          have HS2 := Lib.hid (HV.out.l.whole (by omega) v1 v2)
          have HB2 := HB1
          clear HB1
          have HR2 := Lib.hid (HV.out.r.prm HP2.out (Or.inl (Nat.le_refl _)) v3 v4)
          have HF3 := Lib.hid (HV.out.done HP2.out HS2.out (Prm.refl mid b d) (HR2.out.whole (by omega) v3 v4))
          go_wp2
          go_end0
          exact ⟨rfl, _, HB2.out.row, ⟨HP.out.trans HF3.out.1, HF3.out.2⟩, HB2.out.keep⟩
        · have t1 : m < e := by omega
          have t2 : ¬ mid < e := by omega
          clear he
          have hd1 : rot s m e d = d := by
            rw [show s = m by omega]; exact rot_none _ _ _
          rw [hd1] at HV HP
          have HB1 := HA
          clear hd1 HA
          have HC := Lib.hid (HI.out d wr HB1.out.row a s mid Z Y (by omega) (by omega) HV.out.l)
          go_wp2_with fail
          refine HC.out.mono ?_
          rintro e' w2 ⟨rfl, d2, hr, ⟨hp, hs⟩, hk⟩
          have HP2 := Lib.hid hp
          have HS2 := Lib.hid hs
          have hB2 := HB1.out.turn HS.out hk hr
          have c0 := cell_of_row' (cur := [_, _]) hB2.box 0
          have c1 := cell_of_row' (cur := [_, _]) hB2.box 1
          have HB2 := Lib.hid hB2
          clear hr hk hp hs hB2 HC HB1
          have HR2 := Lib.hid (HV.out.r.prm HP2.out (Or.inl (Nat.le_refl _)) v3 v4)
          have HF3 := Lib.hid (HV.out.done HP2.out HS2.out (Prm.refl mid b d2) (HR2.out.whole (by omega) v3 v4))
          go_wp2
          go_end0
          exact ⟨rfl, _, HB2.out.row, ⟨HP.out.trans HF3.out.1, HF3.out.2⟩, HB2.out.keep⟩
        · have t1 : m < e := by omega
          have t2 : ¬ mid < e := by omega
          clear he
          have hd1 : rot s m e d = d := by
            rw [show s = m by omega]; exact rot_none _ _ _
          rw [hd1] at HV HP
          have HB1 := HA
          clear hd1 HA
          have HC := Lib.hid (HI.out d wr HB1.out.row a s mid Z Y (by omega) (by omega) HV.out.l)
          go_wp2_with fail
          refine HC.out.mono ?_
          rintro e' w2 ⟨rfl, d2, hr, ⟨hp, hs⟩, hk⟩
          have HP2 := Lib.hid hp
          have HS2 := Lib.hid hs
          have hB2 := HB1.out.turn HS.out hk hr
          have c0 := cell_of_row' (cur := [_, _]) hB2.box 0
          have c1 := cell_of_row' (cur := [_, _]) hB2.box 1
          have HB2 := Lib.hid hB2
          clear hr hk hp hs hB2 HC HB1
          have HR2 := Lib.hid (HV.out.r.prm HP2.out (Or.inl (Nat.le_refl _)) v3 v4)
          have HF3 := Lib.hid (HV.out.done HP2.out HS2.out (Prm.refl mid b d2) (HR2.out.whole (by omega) v3 v4))
          go_wp2
          go_end0
          exact ⟨rfl, _, HB2.out.row, ⟨HP.out.trans HF3.out.1, HF3.out.2⟩, HB2.out.keep⟩
        · have t1 : m < e := by omega
          have t2 : ¬ mid < e := by omega
          clear he
          have hd1 : rot s m e d = d := by
            rw [show s = m by omega]; exact rot_none _ _ _
          rw [hd1] at HV HP
          have HB1 := HA
          clear hd1 HA
          have HP2 := Lib.hid (Prm.refl a mid d)
          have HS2 := Lib.hid (HV.out.l.whole (by omega) v1 v2)
          have HB2 := HB1
          clear HB1
          have HR2 := Lib.hid (HV.out.r.prm HP2.out (Or.inl (Nat.le_refl _)) v3 v4)
          have HF3 := Lib.hid (HV.out.done HP2.out HS2.out (Prm.refl mid b d) (HR2.out.whole (by omega) v3 v4))
          go_wp2
          go_end0
          exact ⟨rfl, _, HB2.out.row, ⟨HP.out.trans HF3.out.1, HF3.out.2⟩, HB2.out.keep⟩
        · have t1 : m < e := by omega
          have t2 : ¬ mid < e := by omega
          clear he
          have hd1 : rot s m e d = d := by
            rw [show s = m by omega]; exact rot_none _ _ _
          rw [hd1] at HV HP
          have HB1 := HA
          clear hd1 HA
          have HP2 := Lib.hid (Prm.refl a mid d)
          have HS2 := Lib.hid (HV.out.l.whole (by omega) v1 v2)
          have HB2 := HB1
          clear HB1
          have HR2 := Lib.hid (HV.out.r.prm HP2.out (Or.inl (Nat.le_refl _)) v3 v4)
          have HF3 := Lib.hid (HV.out.done HP2.out HS2.out (Prm.refl mid b d) (HR2.out.whole (by omega) v3 v4))
          go_wp2
          go_end0
          exact ⟨rfl, _, HB2.out.row, ⟨HP.out.trans HF3.out.1, HF3.out.2⟩, HB2.out.keep⟩
        · have t1 : ¬ m < e := by omega
          have t2 : ¬ mid < e := by omega
          clear he
          have hd1 : rot s m e d = d := by
            rw [show s = m by omega]; exact rot_none _ _ _
          rw [hd1] at HV HP
          have HB1 := HA
          clear hd1 HA
          have HP2 := Lib.hid (Prm.refl a mid d)
          have HS2 := Lib.hid (HV.out.l.whole (by omega) v1 v2)
          have HB2 := HB1
          clear HB1
          have HR2 := Lib.hid (HV.out.r.prm HP2.out (Or.inl (Nat.le_refl _)) v3 v4)
          have HF3 := Lib.hid (HV.out.done HP2.out HS2.out (Prm.refl mid b d) (HR2.out.whole (by omega) v3 v4))
          go_wp2
          go_end0
          exact ⟨rfl, _, HB2.out.row, ⟨HP.out.trans HF3.out.1, HF3.out.2⟩, HB2.out.keep⟩
        · have t1 : ¬ m < e := by omega
          have t2 : ¬ mid < e := by omega
          clear he
          have hd1 : rot s m e d = d := by
            rw [show s = m by omega]; exact rot_none _ _ _
          rw [hd1] at HV HP
          have HB1 := HA
          clear hd1 HA
          have HP2 := Lib.hid (Prm.refl a mid d)
          have HS2 := Lib.hid (HV.out.l.whole (by omega) v1 v2)
          have HB2 := HB1
          clear HB1
          have HR2 := Lib.hid (HV.out.r.prm HP2.out (Or.inl (Nat.le_refl _)) v3 v4)
          have HF3 := Lib.hid (HV.out.done HP2.out HS2.out (Prm.refl mid b d) (HR2.out.whole (by omega) v3 v4))
          go_wp2
          go_end0
          exact ⟨rfl, _, HB2.out.row, ⟨HP.out.trans HF3.out.1, HF3.out.2⟩, HB2.out.keep⟩
        · have t1 : ¬ m < e := by omega
          have t2 : ¬ mid < e := by omega
          clear he
          have hd1 : rot s m e d = d := by
            rw [show s = m by omega]; exact rot_none _ _ _
          rw [hd1] at HV HP
          have HB1 := HA
          clear hd1 HA
          have HP2 := Lib.hid (Prm.refl a mid d)
          have HS2 := Lib.hid (HV.out.l.whole (by omega) v1 v2)
          have HB2 := HB1
          clear HB1
          have HR2 := Lib.hid (HV.out.r.prm HP2.out (Or.inl (Nat.le_refl _)) v3 v4)
          have HF3 := Lib.hid (HV.out.done HP2.out HS2.out (Prm.refl mid b d) (HR2.out.whole (by omega) v3 v4))
          go_wp2
          go_end0
          exact ⟨rfl, _, HB2.out.row, ⟨HP.out.trans HF3.out.1, HF3.out.2⟩, HB2.out.keep⟩
        · have t1 : ¬ m < e := by omega
          have t2 : ¬ mid < e := by omega
          clear he
          have hd1 : rot s m e d = d := by
            rw [show s = m by omega]; exact rot_none _ _ _
          rw [hd1] at HV HP
          have HB1 := HA
          clear hd1 HA
          have HP2 := Lib.hid (Prm.refl a mid d)
          have HS2 := Lib.hid (HV.out.l.whole (by omega) v1 v2)
          have HB2 := HB1
          clear HB1
          have HR2 := Lib.hid (HV.out.r.prm HP2.out (Or.inl (Nat.le_refl _)) v3 v4)
          have HF3 := Lib.hid (HV.out.done HP2.out HS2.out (Prm.refl mid b d) (HR2.out.whole (by omega) v3 v4))
          go_wp2
          go_end0
          exact ⟨rfl, _, HB2.out.row, ⟨HP.out.trans HF3.out.1, HF3.out.2⟩, HB2.out.keep⟩
  · skip
    have HQ := Lib.hid hq
    clear hq
    go_enter Tryz.func66, Tryz.ntmps66
    go_wp2
    go_loopw [18, 19] (fun vi vj wr => ∃ (s r : Nat), vi = .int .i64 s ∧ vj = .int .i64 r ∧ a ≤ s ∧ s ≤ r ∧ r ≤ m ∧ SoAt blk H g lb sf sb W d wr ∧ SoFm K a m (mid + m) s r d) (fun vi vj _ => (intOf vj).toNat - (intOf vi).toNat)
    case atStart => exact ⟨a, m, by first | rfl | go_num, by first | rfl | go_num, Nat.le_refl _, HQ.out.2.1, Nat.le_refl _, H0.out, SoFm.start K a m (mid + m) d⟩
    case round =>
      obtain ⟨s, r, rfl, rfl, hs0, hsr, hr0, hat, hF⟩ := hrel
      have HA := Lib.hid hat
      have HF := Lib.hid hF
      have c0 := cell_of_row' (cur := [_, _]) hat.box 0
      have c1 := cell_of_row' (cur := [_, _]) hat.box 1
      have q1 : a ≤ a := HQ.out.1
      have q3 : m ≤ m := HQ.out.2.2.1
      have q4 : m + m ≤ mid + m := HQ.out.2.2.2.1
      have q5 : mid + m ≤ b + a := HQ.out.2.2.2.2.1
      clear hat hF
      by_cases hlt : s < r
      · obtain ⟨c, hc⟩ : ∃ c, c = (s + r) / 2 := ⟨_, rfl⟩
        have e4 : ((s : Int) + r) / 2 = c := by omega
        have g1 : s ≤ c := by omega
        have g2 : c < r := by omega
        clear hc
        have hl := HE.out.less _ _ HA.out.row (mid + m - 1 - c) c (by omega) (by omega)
        rw [show (((mid + m - 1 - c : Nat) : Nat) : Int) = (mid : Int) + m - 1 - c by omega] at hl
        have HL := Lib.hid hl
        clear hl
        cases hlv : K.lt (d (mid + m - 1 - c)) (d c) with
        | true =>
          rw [hlv] at HL
          have HN := Lib.hid (HF.out.yes HM.out HQ.out g1 g2 hs0 hr0 hlv)
          clear hlv
          go_wp2_with fail
          refine HL.out.mono ?_
          rintro e w' ⟨rfl, hb'⟩
          have HB := Lib.hid (HA.out.less HE.out hb')
          clear hb' c0 c1 HL HA HF
          go_wp2
          go_roundw
          case rel => exact ⟨s, c, by first | rfl | go_num, by first | rfl | go_num, by omega, by omega, by omega, HB.out, HN.out⟩
          case measure => simp [intOf] <;> omega
        | false =>
          rw [hlv] at HL
          have HN := Lib.hid (HF.out.no HM.out HQ.out g1 g2 hs0 hr0 hlv)
          clear hlv
          go_wp2_with fail
          refine HL.out.mono ?_
          rintro e w' ⟨rfl, hb'⟩
          have HB := Lib.hid (HA.out.less HE.out hb')
          clear hb' c0 c1 HL HA HF
          go_wp2
          go_roundw
          case rel => exact ⟨c + 1, r, by first | rfl | go_num, by first | rfl | go_num, by omega, by omega, by omega, HB.out, HN.out⟩
          case measure => simp [intOf] <;> omega
      · obtain rfl : s = r := by omega
        obtain ⟨e, he⟩ : ∃ e, e = mid + m - s := ⟨_, rfl⟩
        have e4 : (mid : Int) + m - s = e := by omega
        have hv := HF.out.done HM.out HQ.out hs0 hr0
        rw [← HMID.out, ← he] at hv
        have v1 := hv.h1
        have v2 := hv.h2
        have v3 := hv.h3
        have v4 := hv.h4
        have HV := Lib.hid hv
        have HP := Lib.hid ((rot_prm s m e d (by omega) (by omega)).mono (show a ≤ s by omega) (show e ≤ b by omega))
        clear hv HF
        by_cases X : s < m <;> by_cases Y : s < mid <;> by_cases Z : a < s <;> by_cases V : e < b
        · have t1 : m < e := by omega
          have t2 : mid < e := by omega
          clear he
          have HC := Lib.hid (so_rot HE.out hn d wr HA.out.row s m e X t1 (by omega))
          go_wp2_with fail
          refine HC.out.mono ?_
          rintro e' w1 ⟨rfl, d1, hr, hd1, hk⟩
          rw [← hd1] at HV HP
          have hB1 := HA.out.turn HS.out hk hr
          have c0 := cell_of_row' (cur := [_, _]) hB1.box 0
          have c1 := cell_of_row' (cur := [_, _]) hB1.box 1
          have HB1 := Lib.hid hB1
          clear hr hk hd1 hB1 HC HA
          have HC := Lib.hid (HI.out d1 w1 HB1.out.row a s mid Z Y (by omega) (by omega) HV.out.l)
          go_wp2_with fail
          refine HC.out.mono ?_
          rintro e' w2 ⟨rfl, d2, hr, ⟨hp, hs⟩, hk⟩
          have HP2 := Lib.hid hp
          have HS2 := Lib.hid hs
          have hB2 := HB1.out.turn HS.out hk hr
          have c0 := cell_of_row' (cur := [_, _]) hB2.box 0
          have c1 := cell_of_row' (cur := [_, _]) hB2.box 1
          have HB2 := Lib.hid hB2
          clear hr hk hp hs hB2 HC HB1
          have HR2 := Lib.hid (HV.out.r.prm HP2.out (Or.inl (Nat.le_refl _)) v3 v4)
          have HC := Lib.hid (HI.out d2 w2 HB2.out.row mid e b t2 V hb (by omega) HR2.out)
          go_wp2_with fail
          refine HC.out.mono ?_
          rintro e' w3 ⟨rfl, d3, hr, ⟨hp, hs⟩, hk⟩
          have HF3 := Lib.hid (HV.out.done HP2.out HS2.out hp hs)
          have HB3 := Lib.hid (HB2.out.turn HS.out hk hr)
          clear hr hk hp hs HC HB2
          go_wp2
          go_end0
          exact ⟨rfl, _, HB3.out.row, ⟨HP.out.trans HF3.out.1, HF3.out.2⟩, HB3.out.keep⟩
        · have t1 : m < e := by omega
          have t2 : mid < e := by omega
          clear he
          have HC := Lib.hid (so_rot HE.out hn d wr HA.out.row s m e X t1 (by omega))
          go_wp2_with fail
          refine HC.out.mono ?_
          rintro e' w1 ⟨rfl, d1, hr, hd1, hk⟩
          rw [← hd1] at HV HP
          have hB1 := HA.out.turn HS.out hk hr
          have c0 := cell_of_row' (cur := [_, _]) hB1.box 0
          have c1 := cell_of_row' (cur := [_, _]) hB1.box 1
          have HB1 := Lib.hid hB1
          clear hr hk hd1 hB1 HC HA
          have HC := Lib.hid (HI.out d1 w1 HB1.out.row a s mid Z Y (by omega) (by omega) HV.out.l)
          go_wp2_with fail
          refine HC.out.mono ?_
          rintro e' w2 ⟨rfl, d2, hr, ⟨hp, hs⟩, hk⟩
          have HP2 := Lib.hid hp
          have HS2 := Lib.hid hs
          have hB2 := HB1.out.turn HS.out hk hr
          have c0 := cell_of_row' (cur := [_, _]) hB2.box 0
          have c1 := cell_of_row' (cur := [_, _]) hB2.box 1
          have HB2 := Lib.hid hB2
          clear hr hk hp hs hB2 HC HB1
          have HR2 := Lib.hid (HV.out.r.prm HP2.out (Or.inl (Nat.le_refl _)) v3 v4)
          have HF3 := Lib.hid (HV.out.done HP2.out HS2.out (Prm.refl mid b d2) (HR2.out.whole (by omega) v3 v4))
          go_wp2
          go_end0
          exact ⟨rfl, _, HB2.out.row, ⟨HP.out.trans HF3.out.1, HF3.out.2⟩, HB2.out.keep⟩
        · have t1 : m < e := by omega
          have t2 : mid < e := by omega
          clear he
          have HC := Lib.hid (so_rot HE.out hn d wr HA.out.row s m e X t1 (by omega))
          go_wp2_with fail
          refine HC.out.mono ?_
          rintro e' w1 ⟨rfl, d1, hr, hd1, hk⟩
          rw [← hd1] at HV HP
          have hB1 := HA.out.turn HS.out hk hr
          have c0 := cell_of_row' (cur := [_, _]) hB1.box 0
          have c1 := cell_of_row' (cur := [_, _]) hB1.box 1
          have HB1 := Lib.hid hB1
          clear hr hk hd1 hB1 HC HA
          have HP2 := Lib.hid (Prm.refl a mid d1)
          have HS2 := Lib.hid (HV.out.l.whole (by omega) v1 v2)
          have HB2 := HB1
          clear HB1
          have HR2 := Lib.hid (HV.out.r.prm HP2.out (Or.inl (Nat.le_refl _)) v3 v4)
          have HC := Lib.hid (HI.out d1 w1 HB2.out.row mid e b t2 V hb (by omega) HR2.out)
          go_wp2_with fail
          refine HC.out.mono ?_
          rintro e' w3 ⟨rfl, d3, hr, ⟨hp, hs⟩, hk⟩
          have HF3 := Lib.hid (HV.out.done HP2.out HS2.out hp hs)
          have HB3 := Lib.hid (HB2.out.turn HS.out hk hr)
          clear hr hk hp hs HC HB2
          go_wp2
          go_end0
          exact ⟨rfl, _, HB3.out.row, ⟨HP.out.trans HF3.out.1, HF3.out.2⟩, HB3.out.keep⟩
        · have t1 : m < e := by omega
          have t2 : mid < e := by omega
          clear he
          have HC := Lib.hid (so_rot HE.out hn d wr HA.out.row s m e X t1 (by omega))
          go_wp2_with fail
          refine HC.out.mono ?_
          rintro e' w1 ⟨rfl, d1, hr, hd1, hk⟩
          rw [← hd1] at HV HP
          have hB1 := HA.out.turn HS.out hk hr
          have c0 := cell_of_row' (cur := [_, _]) hB1.box 0
          have c1 := cell_of_row' (cur := [_, _]) hB1.box 1
          have HB1 := Lib.hid hB1
          clear hr hk hd1 hB1 HC HA
          have HP2 := Lib.hid (Prm.refl a mid d1)
          have HS2 := Lib.hid (HV.out.l.whole (by omega) v1 v2)
          have HB2 := HB1
          clear HB1
          have HR2 := Lib.hid (HV.out.r.prm HP2.out (Or.inl (Nat.le_refl _)) v3 v4)
          have HF3 := Lib.hid (HV.out.done HP2.out HS2.out (Prm.refl mid b d1) (HR2.out.whole (by omega) v3 v4))
          go_wp2
          go_end0
          exact ⟨rfl, _, HB2.out.row, ⟨HP.out.trans HF3.out.1, HF3.out.2⟩, HB2.out.keep⟩
        · have t1 : ¬ m < e := by omega
          have t2 : mid < e := by omega
          clear he
          have hd1 : rot s m e d = d := by
            rw [show m = e by omega]; exact rot_same _ _ _
          rw [hd1] at HV HP
          have HB1 := HA
          clear hd1 HA
          have HP2 := Lib.hid (Prm.refl a mid d)
          have HS2 := Lib.hid (HV.out.l.whole (by omega) v1 v2)
          have HB2 := HB1
          clear HB1
          have HR2 := Lib.hid (HV.out.r.prm HP2.out (Or.inl (Nat.le_refl _)) v3 v4)
          have HC := Lib.hid (HI.out d wr HB2.out.row mid e b t2 V hb (by omega) HR2.out)
          go_wp2_with fail
          refine HC.out.mono ?_
          rintro e' w3 ⟨rfl, d3, hr, ⟨hp, hs⟩, hk⟩
          have HF3 := Lib.hid (HV.out.done HP2.out HS2.out hp hs)
          have HB3 := Lib.hid (HB2.out.turn HS.out hk hr)
          clear hr hk hp hs HC HB2
          go_wp2
          go_end0
          exact ⟨rfl, _, HB3.out.row, ⟨HP.out.trans HF3.out.1, HF3.out.2⟩, HB3.out.keep⟩
        · have t1 : ¬ m < e := by omega
          have t2 : mid < e := by omega
          clear he
          have hd1 : rot s m e d = d := by
            rw [show m = e by omega]; exact rot_same _ _ _
          rw [hd1] at HV HP
          have HB1 := HA
          clear hd1 HA
          have HP2 := Lib.hid (Prm.refl a mid d)
          have HS2 := Lib.hid (HV.out.l.whole (by omega) v1 v2)
          have HB2 := HB1
          clear HB1
          have HR2 := Lib.hid (HV.out.r.prm HP2.out (Or.inl (Nat.le_refl _)) v3 v4)
          have HF3 := Lib.hid (HV.out.done HP2.out HS2.out (Prm.refl mid b d) (HR2.out.whole (by omega) v3 v4))
          go_wp2
          go_end0
          exact ⟨rfl, _, HB2.out.row, ⟨HP.out.trans HF3.out.1, HF3.out.2⟩, HB2.out.keep⟩
        · have t1 : ¬ m < e := by omega
          have t2 : mid < e := by omega
          clear he
          have hd1 : rot s m e d = d := by
            rw [show m = e by omega]; exact rot_same _ _ _
          rw [hd1] at HV HP
          have HB1 := HA
          clear hd1 HA
          have HP2 := Lib.hid (Prm.refl a mid d)
          have HS2 := Lib.hid (HV.out.l.whole (by omega) v1 v2)
          have HB2 := HB1
          clear HB1
          have HR2 := Lib.hid (HV.out.r.prm HP2.out (Or.inl (Nat.le_refl _)) v3 v4)
          have HC := Lib.hid (HI.out d wr HB2.out.row mid e b t2 V hb (by omega) HR2.out)
          go_wp2_with fail
          refine HC.out.mono ?_
          rintro e' w3 ⟨rfl, d3, hr, ⟨hp, hs⟩, hk⟩
          have HF3 := Lib.hid (HV.out.done HP2.out HS2.out hp hs)
          have HB3 := Lib.hid (HB2.out.turn HS.out hk hr)
          clear hr hk hp hs HC HB2
          go_wp2
          go_end0
          exact ⟨rfl, _, HB3.out.row, ⟨HP.out.trans HF3.out.1, HF3.out.2⟩, HB3.out.keep⟩
        · have t1 : ¬ m < e := by omega
          have t2 : mid < e := by omega
          clear he
          have hd1 : rot s m e d = d := by
            rw [show m = e by omega]; exact rot_same _ _ _
          rw [hd1] at HV HP
          have HB1 := HA
          clear hd1 HA
          have HP2 := Lib.hid (Prm.refl a mid d)
          have HS2 := Lib.hid (HV.out.l.whole (by omega) v1 v2)
          have HB2 := HB1
          clear HB1
          have HR2 := Lib.hid (HV.out.r.prm HP2.out (Or.inl (Nat.le_refl _)) v3 v4)
          have HF3 := Lib.hid (HV.out.done HP2.out HS2.out (Prm.refl mid b d) (HR2.out.whole (by omega) v3 v4))
          go_wp2
          go_end0
          exact ⟨rfl, _, HB2.out.row, ⟨HP.out.trans HF3.out.1, HF3.out.2⟩, HB2.out.keep⟩
        · have t1 : m < e := by omega
          have t2 : ¬ mid < e := by omega
          clear he
          have hd1 : rot s m e d = d := by
            rw [show s = m by omega]; exact rot_none _ _ _
          rw [hd1] at HV HP
          have HB1 := HA
          clear hd1 HA
          have HC := Lib.hid (HI.out d wr HB1.out.row a s mid Z Y (by omega) (by omega) HV.out.l)
          go_wp2_with fail
          refine HC.out.mono ?_
          rintro e' w2 ⟨rfl, d2, hr, ⟨hp, hs⟩, hk⟩
          have HP2 := Lib.hid hp
          have HS2 := Lib.hid hs
          have hB2 := HB1.out.turn HS.out hk hr
          have c0 := cell_of_row' (cur := [_, _]) hB2.box 0
          have c1 := cell_of_row' (cur := [_, _]) hB2.box 1
          have HB2 := Lib.hid hB2
          clear hr hk hp hs hB2 HC HB1
          have HR2 := Lib.hid (HV.out.r.prm HP2.out (Or.inl (Nat.le_refl _)) v3 v4)
          have HF3 := Lib.hid (HV.out.done HP2.out HS2.out (Prm.refl mid b d2) (HR2.out.whole (by omega) v3 v4))
          go_wp2
          go_end0
          exact ⟨rfl, _, HB2.out.row, ⟨HP.out.trans HF3.out.1, HF3.out.2⟩, HB2.out.keep⟩
        · have t1 : m < e := by omega
          have t2 : ¬ mid < e := by omega
          clear he
          have hd1 : rot s m e d = d := by
            rw [show s = m by omega]; exact rot_none _ _ _
          rw [hd1] at HV HP
          have HB1 := HA
          clear hd1 HA
          have HC := Lib.hid (HI.out d wr HB1.out.row a s mid Z Y (by omega) (by omega) HV.out.l)
          go_wp2_with fail
          refine HC.out.mono ?_
          rintro e' w2 ⟨rfl, d2, hr, ⟨hp, hs⟩, hk⟩
          have HP2 := Lib.hid hp
          have HS2 := Lib.hid hs
          have hB2 := HB1.out.turn HS.out hk hr
          have c0 := cell_of_row' (cur := [_, _]) hB2.box 0
          have c1 := cell_of_row' (cur := [_, _]) hB2.box 1
          have HB2 := Lib.hid hB2
          clear hr hk hp hs hB2 HC HB1
          have HR2 := Lib.hid (HV.out.r.prm HP2.out (Or.inl (Nat.le_refl _)) v3 v4)
          have HF3 := Lib.hid (HV.out.done HP2.out HS2.out (Prm.refl mid b d2) (HR2.out.whole (by omega) v3 v4))
          go_wp2
          go_end0
          exact ⟨rfl, _, HB2.out.row, ⟨HP.out.trans HF3.out.1, HF3.out.2⟩, HB2.out.keep⟩
        · have t1 : m < e := by omega
          have t2 : ¬ mid < e := by omega
          clear he
          have hd1 : rot s m e d = d := by
            rw [show s = m by omega]; exact rot_none _ _ _
          rw [hd1] at HV HP
          have HB1 := HA
          clear hd1 HA
          have HP2 := Lib.hid (Prm.refl a mid d)
          have HS2 := Lib.hid (HV.out.l.whole (by omega) v1 v2)
          have HB2 := HB1
          clear HB1
          have HR2 := Lib.hid (HV.out.r.prm HP2.out (Or.inl (Nat.le_refl _)) v3 v4)
          have HF3 := Lib.hid (HV.out.done HP2.out HS2.out (Prm.refl mid b d) (HR2.out.whole (by omega) v3 v4))
          go_wp2
          go_end0
          exact ⟨rfl, _, HB2.out.row, ⟨HP.out.trans HF3.out.1, HF3.out.2⟩, HB2.out.keep⟩
        · have t1 : m < e := by omega
          have t2 : ¬ mid < e := by omega
          clear he
          have hd1 : rot s m e d = d := by
            rw [show s = m by omega]; exact rot_none _ _ _
          rw [hd1] at HV HP
          have HB1 := HA
          clear hd1 HA
          have HP2 := Lib.hid (Prm.refl a mid d)
          have HS2 := Lib.hid (HV.out.l.whole (by omega) v1 v2)
          have HB2 := HB1
          clear HB1
          have HR2 := Lib.hid (HV.out.r.prm HP2.out (Or.inl (Nat.le_refl _)) v3 v4)
          have HF3 := Lib.hid (HV.out.done HP2.out HS2.out (Prm.refl mid b d) (HR2.out.whole (by omega) v3 v4))
          go_wp2
          go_end0
          exact ⟨rfl, _, HB2.out.row, ⟨HP.out.trans HF3.out.1, HF3.out.2⟩, HB2.out.keep⟩
        · have t1 : ¬ m < e := by omega
          have t2 : ¬ mid < e := by omega
          clear he
          have hd1 : rot s m e d = d := by
            rw [show s = m by omega]; exact rot_none _ _ _
          rw [hd1] at HV HP
          have HB1 := HA
          clear hd1 HA
          have HP2 := Lib.hid (Prm.refl a mid d)
          have HS2 := Lib.hid (HV.out.l.whole (by omega) v1 v2)
          have HB2 := HB1
          clear HB1
          have HR2 := Lib.hid (HV.out.r.prm HP2.out (Or.inl (Nat.le_refl _)) v3 v4)
          have HF3 := Lib.hid (HV.out.done HP2.out HS2.out (Prm.refl mid b d) (HR2.out.whole (by omega) v3 v4))
          go_wp2
          go_end0
          exact ⟨rfl, _, HB2.out.row, ⟨HP.out.trans HF3.out.1, HF3.out.2⟩, HB2.out.keep⟩
        · have t1 : ¬ m < e := by omega
          have t2 : ¬ mid < e := by omega
          clear he
          have hd1 : rot s m e d = d := by
            rw [show s = m by omega]; exact rot_none _ _ _
          rw [hd1] at HV HP
          have HB1 := HA
          clear hd1 HA
          have HP2 := Lib.hid (Prm.refl a mid d)
          have HS2 := Lib.hid (HV.out.l.whole (by omega) v1 v2)
          have HB2 := HB1
          clear HB1
          have HR2 := Lib.hid (HV.out.r.prm HP2.out (Or.inl (Nat.le_refl _)) v3 v4)
          have HF3 := Lib.hid (HV.out.done HP2.out HS2.out (Prm.refl mid b d) (HR2.out.whole (by omega) v3 v4))
          go_wp2
          go_end0
          exact ⟨rfl, _, HB2.out.row, ⟨HP.out.trans HF3.out.1, HF3.out.2⟩, HB2.out.keep⟩
        · have t1 : ¬ m < e := by omega
          have t2 : ¬ mid < e := by omega
          clear he
          have hd1 : rot s m e d = d := by
            rw [show s = m by omega]; exact rot_none _ _ _
          rw [hd1] at HV HP
          have HB1 := HA
          clear hd1 HA
          have HP2 := Lib.hid (Prm.refl a mid d)
          have HS2 := Lib.hid (HV.out.l.whole (by omega) v1 v2)
          have HB2 := HB1
          clear HB1
          have HR2 := Lib.hid (HV.out.r.prm HP2.out (Or.inl (Nat.le_refl _)) v3 v4)
          have HF3 := Lib.hid (HV.out.done HP2.out HS2.out (Prm.refl mid b d) (HR2.out.whole (by omega) v3 v4))
          go_wp2
          go_end0
          exact ⟨rfl, _, HB2.out.row, ⟨HP.out.trans HF3.out.1, HF3.out.2⟩, HB2.out.keep⟩
        · have t1 : ¬ m < e := by omega
          have t2 : ¬ mid < e := by omega
          clear he
          have hd1 : rot s m e d = d := by
            rw [show s = m by omega]; exact rot_none _ _ _
          rw [hd1] at HV HP
          have HB1 := HA
          clear hd1 HA
          have HP2 := Lib.hid (Prm.refl a mid d)
          have HS2 := Lib.hid (HV.out.l.whole (by omega) v1 v2)
          have HB2 := HB1
          clear HB1
          have HR2 := Lib.hid (HV.out.r.prm HP2.out (Or.inl (Nat.le_refl _)) v3 v4)
          have HF3 := Lib.hid (HV.out.done HP2.out HS2.out (Prm.refl mid b d) (HR2.out.whole (by omega) v3 v4))
          go_wp2
          go_end0
          exact ⟨rfl, _, HB2.out.row, ⟨HP.out.trans HF3.out.1, HF3.out.2⟩, HB2.out.keep⟩

theorem so_mg {K : SoK α} {n blk : Nat} {g : FuncId} {lb : Array Value} {sf : FuncId} {sb : Array Value} {H : (Nat → α) → World → Prop} (E : SoEnv K n blk g lb sf sb H) (hn : n ≤ 1000000) : ∀ (N : Nat) (d : Nat → α) (W : World), H d W → ∀ a m b : Nat, b - a ≤ N → a < m → m < b → b ≤ n → SoMg K a m b d →
    Calls Tryz.prog 66 #[.agg (soFs g lb sf sb), .int .i64 a, .int .i64 m, .int .i64 b] W (SoPost blk H (fun d' => Prm a b d d' ∧ K.srt a b d') W)
  | 0, _, _, _, a, m, b, h, h1, h2, _, _ => by omega
  | N + 1, d, W, hH, a, m, b, h, h1, h2, hb, hm => by
    by_cases h3 : m = a + 1
    · subst h3
      exact so_mgL E hn d W hH a b h2 hb hm
    · by_cases h4 : b = m + 1
      · subst h4
        exact so_mgR E hn d W hH a m (by omega) hb hm
      · exact so_mgN E hn d W hH a m b (by omega) (by omega) hb hm (fun d' W' hH' a' m' b' g1 g2 g3 g4 g5 => so_mg E hn N d' W' hH' a' m' b' (by omega) g1 g2 g3 g5)
end Go.Proofs.YthehmnpbepmnpaaGreatDoorR
/- Contract: sort.stable_func over any test and any exchange, up to 79 elements. -/
namespace Go.Proofs.YthehmnpbepmnpaaGreatDoorR
open Go.RowKit
variable {α : Type}

/-- Where the doubling of the blocks stands. -/
def SoSz (K : SoK α) (n : Nat) (v : Value) (d : Nat → α) : Prop := (v = .int .i64 20 ∧ SoB20 K n n d) ∨ (v = .int .i64 40 ∧ SoB40 K n n d) ∨ (v = .int .i64 80 ∧ K.srt 0 n d)

set_option maxRecDepth 100000 in
set_option maxHeartbeats 16000000 in
theorem so_stable {K : SoK α} {n blk : Nat} {g : FuncId} {lb : Array Value} {sf : FuncId} {sb : Array Value} {H : (Nat → α) → World → Prop} (E : SoEnv K n blk g lb sf sb H) (hn : n < 80) (d : Nat → α) (W : World) (hH : H d W) (ht : ∀ i, i < n → K.tg (d i) = i) :
    Calls Tryz.prog 31 #[.agg (soFs g lb sf sb), .int .i64 n] W (SoPost blk H (fun d' => Prm 0 n d d' ∧ K.srt 0 n d') W) := by
  have HE := Lib.hid E
  have HT := Lib.hid ht
  have HS := Lib.hid (E.size _ _ hH)
  have H0 := Lib.hid (SoAt.start E hH)
  have hn1 : n ≤ 1000000 := by omega
  clear hH E ht
  go_enter Tryz.func31, Tryz.ntmps31
  go_wp2
  go_loopw [5, 6] (fun va vb wr => ∃ (a : Nat) (dk : Nat → α), va = .int .i64 a ∧ vb = .int .i64 (a + 20 : Nat) ∧ a % 20 = 0 ∧ a ≤ n ∧ SoAt blk H g lb sf sb W dk wr ∧ Prm 0 n d dk ∧ SoB20 K n a dk) (fun va _ _ => n - (intOf va).toNat)
  case atStart => exact ⟨0, d, rfl, rfl, rfl, Nat.zero_le _, H0.out, Prm.refl _ _ _, SoB20.start HT.out⟩
  case round =>
    obtain ⟨a, dk, rfl, rfl, ha, han, hat, hP, hB⟩ := hrel
    have HA := Lib.hid hat
    have HP := Lib.hid hP
    have HB := Lib.hid hB
    have c0 := cell_of_row' (cur := [_, _]) hat.box 0
    have c1 := cell_of_row' (cur := [_, _]) hat.box 1
    clear hat hP hB
    by_cases hlt : a + 20 ≤ n
    · have HC := Lib.hid (so_ins HE.out hn1 dk wr HA.out.row a (a + 20) (by omega) hlt (HB.out.ups hlt))
      go_wp2_with fail
      refine HC.out.mono ?_
      rintro e w1 ⟨rfl, d1, hr, hq, hk⟩
      have HB1 := Lib.hid (HB.out.next ha (by omega) (Nat.le_refl _) hlt hq)
      have HP1 := Lib.hid (HP.out.trans (hq.prm.mono (Nat.zero_le _) hlt))
      have HA1 := Lib.hid (HA.out.turn HS.out hk hr)
      clear hr hq hk HC c0 c1 HA HP HB
      go_wp2
      go_roundw
      case rel => exact ⟨a + 20, d1, by first | rfl | go_num, by go_num, by omega, hlt, HA1.out, HP1.out, HB1.out⟩
      case measure => simp [intOf] <;> omega
    · have HC := Lib.hid (so_ins HE.out hn1 dk wr HA.out.row a n han (Nat.le_refl _) (HB.out.ups (Nat.le_refl _)))
      go_wp2_with fail
      refine HC.out.mono ?_
      rintro e w1 ⟨rfl, d1, hr, hq, hk⟩
      have HB1 := Lib.hid (HB.out.next ha han (by omega) (Nat.le_refl _) hq)
      have HP1 := Lib.hid (HP.out.trans (hq.prm.mono (Nat.zero_le _) (Nat.le_refl _)))
      have HA1 := Lib.hid (HA.out.turn HS.out hk hr)
      clear hr hq hk HC c0 c1 HA HP HB
      go_wp2
      go_loopw [4] (fun vs wr => ∃ (dk : Nat → α), SoAt blk H g lb sf sb W dk wr ∧ Prm 0 n d dk ∧ SoSz K n vs dk) (fun vs _ => 100 - (intOf vs).toNat)
      case atStart => exact ⟨d1, HA1.out, HP1.out, Or.inl ⟨rfl, HB1.out⟩⟩
      case round =>
        clear HB1 HP1 HA1 hlt ha han
        obtain ⟨dk, hat, hP, hS⟩ := hrel
        have HA := Lib.hid hat
        have HP := Lib.hid hP
        clear hat hP
        rcases hS with ⟨rfl, hB⟩ | ⟨rfl, hB⟩ | ⟨rfl, hB⟩
        · have HB := Lib.hid hB
          clear hB
          by_cases hlt : 20 < n
          · have hlt' : (20 : Int) < n := by omega
            go_wp2
            go_loopw [5, 6] (fun va vb wr => ∃ (a : Nat) (dk : Nat → α), va = .int .i64 a ∧ vb = .int .i64 (a + 40 : Nat) ∧ a % 40 = 0 ∧ a ≤ n ∧ SoAt blk H g lb sf sb W dk wr ∧ Prm 0 n d dk ∧ SoB40 K n a dk) (fun va _ _ => n - (intOf va).toNat)
            case atStart => exact ⟨0, dk, rfl, rfl, rfl, Nat.zero_le _, HA.out, HP.out, HB.out.merge⟩
            case round =>
              clear HB HP HA
              obtain ⟨a, dk, rfl, rfl, ha, han, hat, hP, hB⟩ := hrel
              have HA := Lib.hid hat
              have HP := Lib.hid hP
              have HB := Lib.hid hB
              have c0 := cell_of_row' (cur := [_, _]) hat.box 0
              have c1 := cell_of_row' (cur := [_, _]) hat.box 1
              clear hat hP hB
              by_cases hl2 : a + 40 ≤ n
              · have HC := Lib.hid (so_mg HE.out hn1 _ dk wr HA.out.row a (a + 20) (a + 40) (Nat.le_refl _) (by omega) (by omega) hl2 (HB.out.mg ha (Nat.le_refl _) hl2 (by omega)))
                go_wp2_with fail
                refine HC.out.mono ?_
                rintro e w1 ⟨rfl, d1, hr, ⟨hp, hs⟩, hk⟩
                have HB1 := Lib.hid (HB.out.next ha (by omega) (Nat.le_refl _) hl2 hp hs)
                have HP1 := Lib.hid (HP.out.trans (hp.mono (Nat.zero_le _) hl2))
                have HA1 := Lib.hid (HA.out.turn HS.out hk hr)
                clear hr hp hs hk HC c0 c1 HA HP HB
                go_wp2
                go_roundw
                case rel => exact ⟨a + 40, d1, by first | rfl | go_num, by go_num, by omega, hl2, HA1.out, HP1.out, HB1.out⟩
                case measure => simp [intOf] <;> omega
              · by_cases hl3 : a + 20 < n
                · have HC := Lib.hid (so_mg HE.out hn1 _ dk wr HA.out.row a (a + 20) n (Nat.le_refl _) (by omega) hl3 (Nat.le_refl _) (HB.out.mg ha (by omega) (Nat.le_refl _) (by omega)))
                  go_wp2_with fail
                  refine HC.out.mono ?_
                  rintro e w1 ⟨rfl, d1, hr, ⟨hp, hs⟩, hk⟩
                  have HB1 := Lib.hid (HB.out.next ha han (by omega) (Nat.le_refl _) hp hs)
                  have HP1 := Lib.hid (HP.out.trans (hp.mono (Nat.zero_le _) (Nat.le_refl _)))
                  have HA1 := Lib.hid (HA.out.turn HS.out hk hr)
                  clear hr hp hs hk HC c0 c1 HA HP HB
                  go_wp2
                  go_roundw
                  case rel => exact ⟨d1, HA1.out, HP1.out, Or.inr (Or.inl ⟨rfl, HB1.out⟩)⟩
                  case measure => simp [intOf]
                · have HB1 := Lib.hid (HB.out.rest ha (by omega) han)
                  go_wp2
                  go_roundw
                  case rel => exact ⟨dk, HA.out, HP.out, Or.inr (Or.inl ⟨rfl, HB1.out⟩)⟩
                  case measure => simp [intOf]
          · go_wp2
            go_end0
            exact ⟨rfl, dk, HA.out.row, ⟨HP.out, HB.out.whole (by omega)⟩, HA.out.keep⟩
        · have HB := Lib.hid hB
          clear hB
          by_cases hlt : 40 < n
          · go_wp2
            go_loopw [5, 6] (fun va vb wr => va = .int .i64 (0 : Nat) ∧ vb = .int .i64 (80 : Nat) ∧ SoAt blk H g lb sf sb W dk wr) (fun va _ _ => 0)
            case atStart => exact ⟨rfl, rfl, HA.out⟩
            case round =>
              clear HA
              obtain ⟨rfl, rfl, hat⟩ := hrel
              have HA := Lib.hid hat
              have c0 := cell_of_row' (cur := [_, _]) hat.box 0
              have c1 := cell_of_row' (cur := [_, _]) hat.box 1
              clear hat
              have HC := Lib.hid (so_mg HE.out hn1 _ dk wr HA.out.row 0 40 n (Nat.le_refl _) (by omega) hlt (Nat.le_refl _) (HB.out.last hlt (by omega)))
              go_wp2_with fail
              refine HC.out.mono ?_
              rintro e w1 ⟨rfl, d1, hr, ⟨hp, hs⟩, hk⟩
              have HB1 := Lib.hid hs
              have HP1 := Lib.hid (HP.out.trans (hp.mono (Nat.zero_le _) (Nat.le_refl _)))
              have HA1 := Lib.hid (HA.out.turn HS.out hk hr)
              clear hr hp hs hk HC c0 c1 HA HP HB
              go_wp2
              go_roundw
              case rel => exact ⟨d1, HA1.out, HP1.out, Or.inr (Or.inr ⟨rfl, HB1.out⟩)⟩
              case measure => simp [intOf]
          · go_wp2
            go_end0
            exact ⟨rfl, dk, HA.out.row, ⟨HP.out, HB.out.whole (by omega)⟩, HA.out.keep⟩
        · have HB := Lib.hid hB
          clear hB
          go_wp2
          go_end0
          exact ⟨rfl, dk, HA.out.row, ⟨HP.out, HB.out⟩, HA.out.keep⟩
end Go.Proofs.YthehmnpbepmnpaaGreatDoorR
