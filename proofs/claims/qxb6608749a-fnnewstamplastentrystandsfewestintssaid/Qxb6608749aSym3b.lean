/-
  slices.symMergeCmpFunc at [2]int, the third way: both parts of two elements or more; the middle lies at m or right of it.
-/
import Derived.Test.Qxb6608749aSymTo
import Derived.Deep.DeepCutAuto
namespace Go.Proofs.Qxb6608749a.Stable
open Go.Shelf Go.RowKit Go.Lib Go.Sort

set_option maxHeartbeats 4000000 in
set_option maxRecDepth 100000 in
theorem sym3_right (blk off cap a m b mid lo hi : Nat) (d0 d : Array (Int × Int)) (w0 w : World)
    (R : Row w0 blk off d0) (hs : d0.size = d.size) (S : SW w0 blk off d w) (ham : a < m) (hmb : m < b) (hma : m ≠ a + 1) (hb : b ≤ d.size) (hsz : d.size < 4611686018427387904) (hA : Srt d a m) (hB : Srt d m b)
    (hmid : mid = (a + b) / 2) (hcv : m ≤ mid ∧ lo = a ∧ hi = m) (IH : SymTo blk off cap d.size (b - a) w0) :
    Calls Try.prog 33 #[.slice (some ⟨blk, off, none⟩) d.size cap, .int .i64 a, .int .i64 m, .int .i64 b, .func (.func 25) #[] #[]] w fun e w' => e = .returned (.tuple #[]) ∧ ∃ d', Keep a b d d' ∧ Srt d' a b ∧ SW w0 blk off d' w' := by
  have S0 : Aside (SW w0 blk off d w) := S
  have HA : Aside (Srt d a m) := hA
  have HB : Aside (Srt d m b) := hB
  have HC : Aside ((mid < m ∧ lo + b = mid + m ∧ hi = mid) ∨ (m ≤ mid ∧ lo = a ∧ hi = m)) := .inr hcv
  have HI : Aside (SymTo blk off cap d.size (b - a) w0) := IH
  have e0 : ((m : Int) - (a : Int) == 1) = false := beq_eq_false_iff_ne.2 (by omega)
  have e1 : ((b : Int) - (m : Int) == 1) = false := beq_eq_false_iff_ne.2 (by omega)
  have em : ((a : Int) + (b : Int)) / 2 = (mid : Int) := by omega
  have hm1 : Hid (2 * mid ≤ a + b) := show 2 * mid ≤ a + b by omega
  have hm2 : Hid (a + b ≤ 2 * mid + 1) := show a + b ≤ 2 * mid + 1 by omega
  have bmid : a < mid ∧ mid < b := by omega
  clear S hA hB hma hmid IH
  have mixed : Try.prog.follows Departure.mixedOrders = true := by kernel_rfl
  have q1 : a ≤ lo := by omega
  have q2 : hi ≤ m := by omega
  have q3 : hi ≤ mid := by omega
  have q4 : mid + m ≤ lo + b := by omega
  have q5 : lo ≤ hi := by omega
  obtain ⟨c1, c2, c3⟩ := hcv
  have c1z : ¬ (mid : Int) < (m : Int) := by omega
  have Hc2 : Hid _ := c2
  have Hc3 : Hid _ := c3
  clear c2 c3
  go_enter Try.func33, Try.ntmps33
  go_wp2
  go_loopg [20, 21] (hi - lo) (fun kx ss sr wr => ∃ (st r : Nat), ss = .int .i64 st ∧ sr = .int .i64 r ∧ lo ≤ st ∧ st ≤ r ∧ r ≤ hi ∧ r - st ≤ kx ∧ Aside (SW w0 blk off d wr) ∧ Aside (∀ c, lo ≤ c → c < st → d[c]!.1 ≤ d[mid + m - 1 - c]!.1) ∧ Aside (∀ c, r ≤ c → c < hi → d[mid + m - 1 - c]!.1 < d[c]!.1))
  case atStart => exact ⟨lo, hi, by first | rfl | rw [Hc2.out], by rw [Hc3.out], Nat.le_refl _, q5, Nat.le_refl _, Nat.le_refl _, S0, fun t h1 h2 => by omega, fun t h1 h2 => by omega⟩
  case round =>
    clear S0 Hc2 Hc3
    obtain ⟨st, r, rfl, rfl, hls, hsr, hrh, hkx, S1, H1, H2⟩ := hrel
    by_cases hlt : st < r
    · have hltz : (st : Int) < (r : Int) := by omega
      obtain ⟨c, hcc⟩ : ∃ c, c = (st + r) / 2 := ⟨_, rfl⟩
      have ec : ((st : Int) + (r : Int)) / 2 = (c : Int) := by omega
      have hsc : st ≤ c := by omega
      have hcr : c < r := by omega
      clear hcc
      obtain ⟨pc, hpc⟩ : ∃ pc, pc = mid + m - 1 - c := ⟨_, rfl⟩
      have epc : (mid : Int) + (m : Int) - 1 - (c : Int) = (pc : Int) := by omega
      have Hpc : Hid (pc = mid + m - 1 - c) := hpc
      have rpc : IntKind.i64.wrap (pc : Int) = (pc : Int) := by rw [IntKind.wrap_i64]; omega
      have bc : (c : Int) < (d.size : Int) := by omega
      have bpc : (pc : Int) < (d.size : Int) := by omega
      clear hpc
      obtain ⟨lh0, lh1⟩ := sw_cls S1.out R hs.symm c (by omega)
      obtain ⟨la0, la1⟩ := sw_cls S1.out R hs.symm pc (by omega)
      have hcg := cmpE_cls d[pc]! d[c]! wr
      have hsg : Aside (∀ n os, SW w0 blk off d (grow (wr.drewN n) os)) := fun n os => sw_grown S1.out n os
      by_cases hlv : d[pc]!.1 < d[c]!.1
      · have hlv' : cfE d[pc]! d[c]! < 0 := cmpI_lt.2 hlv
        go_wp2_with fail
        go_quiet_grown (first | (go_at_call 25; refine Calls.grown_of (hcg _ _)))
        go_wp2
        go_roundg (c - st)
        case measure => omega
        case rel => exact ⟨st, c, rfl, rfl, hls, hsc, by omega, Nat.le_refl _, hsg.out nq osq, H1, find_down HA.out HB.out ham hmb hm1.out hm2.out HC.out hls hsc (by rw [← Hpc.out]; exact hlv)⟩
      · have hlv' : (!decide (cfE d[pc]! d[c]! < 0)) = true := not_cf hlv
        go_wp2_with fail
        go_quiet_grown (first | (go_at_call 25; refine Calls.grown_of (hcg _ _)))
        go_wp2
        go_roundg (r - (c + 1))
        case measure => omega
        case rel => exact ⟨c + 1, r, by go_num, rfl, by omega, by omega, hrh, Nat.le_refl _, hsg.out nq osq, find_up HA.out HB.out ham hmb hm1.out hm2.out HC.out hcr hrh (by rw [← Hpc.out]; omega), H2⟩
    · obtain rfl : st = r := by omega
      have hF := found_of HA.out HB.out ham hmb hm1.out hm2.out HC.out hls hrh H1.out H2.out
      obtain ⟨en, hen⟩ : ∃ en, en = mid + m - st := ⟨_, rfl⟩
      have een : (mid : Int) + (m : Int) - (st : Int) = (en : Int) := by omega
      have Hen : Hid (mid + m = st + en) := show mid + m = st + en by omega
      rw [← hen] at hF
      have HF : Aside (Found d a m b st en) := hF
      have f1 := hF.h1
      have f2 := hF.h2
      have f3 := hF.h3
      have f4 := hF.h4
      clear hF hen H1 H2 HC
      go_upto_region 39 with (fail)
      go_cut [185] (fun s wc => Aside (SW w0 blk off d wc) ∧ ((s = .bool true ∧ st < m ∧ m < en) ∨ (s = .bool false ∧ (st = m ∨ en = m))))
      case first =>
        as_aux_lemma =>
          by_cases h1 : st < m
          · have h1z : (st : Int) < (m : Int) := by omega
            by_cases h2 : m < en
            · have h2z : (m : Int) < (en : Int) := by omega
              go_wp2_with fail
              go_meet
              case rel => exact ⟨S1, .inl ⟨rfl, h1, h2⟩⟩
            · have h2z : ¬ (m : Int) < (en : Int) := by omega
              go_wp2_with fail
              go_meet
              case rel => exact ⟨S1, .inr ⟨rfl, .inr (by omega)⟩⟩
          · have h1z : ¬ (st : Int) < (m : Int) := by omega
            go_wp2_with fail
            go_meet
            case rel => exact ⟨S1, .inr ⟨rfl, .inl (by omega)⟩⟩
      case rest =>
        as_aux_lemma =>
          clear S1
          obtain ⟨S1, hcase⟩ := hcut
          have HCase : Aside _ := hcase
          clear hcase
          go_upto_if 185 with (fail)
          go_cut [] (fun wc => ∃ d1 : Array (Int × Int), Aside (Rot d d1 st m en) ∧ Aside (SW w0 blk off d1 wc))
          case first =>
            as_aux_lemma =>
              rcases HCase.out with ⟨rfl, h1, h2⟩ | ⟨rfl, h1⟩
              · have hC := rotate_any (.func (.func 25) #[] #[]) blk off cap st m en d0 d w0 wc R hs S1.out h1 h2 (by omega) hsz
                clear HCase S1
                go_wp2_with (go_at_call 34; refine hC.mono ?_; rintro e w' ⟨rfl, d1, hR, hw⟩)
                go_meet
                case rel => exact ⟨d1, hR, hw⟩
              · clear HCase
                go_wp2_with fail
                go_meet
                case rel => exact ⟨d, by rcases h1 with h1 | h1 <;> rw [h1] <;> first | exact rot_refl d m en | exact rot_none d st m, S1⟩
          case rest =>
            as_aux_lemma =>
              clear S1 HCase
              obtain ⟨d1, HR, S1⟩ := hcut
              have HH : Aside (Halves d1 a st mid en b) := halves_of HA.out HB.out HF.out hb Hen.out HR.out
              have HK : Aside (Keep a b d d1) := (HR.out.keep f2 f3 (by omega) HF.out.up).mono f1 f4
              have hd1 : Hid (d1.size = d.size) := HR.out.1
              clear HR HA HB HF
              have g1 : st ≤ mid := by have := Hen.out; omega
              have g2 : mid ≤ en := by have := Hen.out; omega
              go_upto_region 41 with (fail)
              go_cut [199] (fun s wc => Aside (SW w0 blk off d1 wc) ∧ ((s = .bool true ∧ a < st ∧ st < mid) ∨ (s = .bool false ∧ (st ≤ a ∨ mid ≤ st))))
              case first =>
                as_aux_lemma =>
                  by_cases h1 : a < st
                  · have h1z : (a : Int) < (st : Int) := by omega
                    by_cases h2 : st < mid
                    · have h2z : (st : Int) < (mid : Int) := by omega
                      go_wp2_with fail
                      go_meet
                      case rel => exact ⟨S1, .inl ⟨rfl, h1, h2⟩⟩
                    · have h2z : ¬ (st : Int) < (mid : Int) := by omega
                      go_wp2_with fail
                      go_meet
                      case rel => exact ⟨S1, .inr ⟨rfl, .inr (by omega)⟩⟩
                  · have h1z : ¬ (a : Int) < (st : Int) := by omega
                    go_wp2_with fail
                    go_meet
                    case rel => exact ⟨S1, .inr ⟨rfl, .inl (by omega)⟩⟩
              case rest =>
                as_aux_lemma =>
                  clear S1
                  obtain ⟨S1, hcase⟩ := hcut
                  have HCase : Aside _ := hcase
                  clear hcase
                  go_upto_if 199 with (fail)
                  go_cut [] (fun wc => ∃ d2 : Array (Int × Int), Aside (Keep a mid d1 d2) ∧ Aside (Srt d2 a mid) ∧ Aside (SW w0 blk off d2 wc))
                  case first =>
                    as_aux_lemma =>
                      rcases HCase.out with ⟨rfl, h1, h2⟩ | ⟨rfl, h1⟩
                      · have hC := HI.out a st mid d1 wc h1 h2 (by omega) (by omega) hd1.out S1.out HH.out.s1 HH.out.s2
                        clear HCase S1
                        go_wp2_with (go_at_call 33; refine hC.mono ?_; rintro e w' ⟨rfl, d2, hk, hsr2, hw⟩)
                        go_meet
                        case rel => exact ⟨d2, hk, hsr2, hw⟩
                      · clear HCase
                        go_wp2_with fail
                        go_meet
                        case rel => exact ⟨d1, Keep.refl _ _ _, srt_one HH.out.s1 HH.out.s2 h1, S1⟩
                  case rest =>
                    as_aux_lemma =>
                      clear S1 HCase
                      obtain ⟨d2, HK2, HS2, S1⟩ := hcut
                      have hd2 : Hid (d2.size = d.size) := show d2.size = d.size by rw [HK2.out.size]; exact hd1.out
                      by_cases h1 : mid < en
                      · have h1z : (mid : Int) < (en : Int) := by omega
                        by_cases h2 : en < b
                        · have h2z : (en : Int) < (b : Int) := by omega
                          have hC := HI.out mid en b d2 wc h1 h2 hb (by omega) hd2.out S1.out (HH.out.s3.kept HK2.out (.inr (Nat.le_refl _))) (HH.out.s4.kept HK2.out (.inr (by omega)))
                          clear S1
                          go_wp2_with (go_at_call 33; refine hC.mono ?_; rintro e w' ⟨rfl, d3, hk, hsr2, hw⟩)
                          go_end0
                          exact ⟨rfl, d3, (HK.out.trans (HK2.out.mono (Nat.le_refl _) (by omega))).trans (hk.mono (by omega) (Nat.le_refl _)), merged HH.out HK2.out HS2.out hk hsr2, hw⟩
                        · have h2z : ¬ (en : Int) < (b : Int) := by omega
                          go_wp2_with fail
                          go_end0
                          exact ⟨rfl, d2, HK.out.trans (HK2.out.mono (Nat.le_refl _) (by omega)), merged HH.out HK2.out HS2.out (Keep.refl _ _ _) (srt_one (HH.out.s3.kept HK2.out (.inr (Nat.le_refl _))) (HH.out.s4.kept HK2.out (.inr (by omega))) (.inr (by omega))), S1.out⟩
                      · have h1z : ¬ (mid : Int) < (en : Int) := by omega
                        go_wp2_with fail
                        go_end0
                        exact ⟨rfl, d2, HK.out.trans (HK2.out.mono (Nat.le_refl _) (by omega)), merged HH.out HK2.out HS2.out (Keep.refl _ _ _) (srt_one (HH.out.s3.kept HK2.out (.inr (Nat.le_refl _))) (HH.out.s4.kept HK2.out (.inr (by omega))) (.inl (by omega))), S1.out⟩
#print axioms sym3_right
end Go.Proofs.Qxb6608749a.Stable
