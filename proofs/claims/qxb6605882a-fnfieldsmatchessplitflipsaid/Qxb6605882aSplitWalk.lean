/-
  The walk of 'FnFieldsMatchesSplitFlip' (5).
-/
import Derived.Test.Qxb6605882aSplitParts
import Derived.Deep.RegionWith
import Derived.Deep.CutRange
import Derived.Deep.DeepCutAuto
import Derived.Deep.RegionHeld3
namespace Go.Proofs.Qxb6605882a.Split
open Go.ChangeShapes Go.WideShapes Go.ChangeAt Go.RowKit Go.Maps

/-- six cells of two old blocks, in whatever world behind -/
theorem keep6 {w13 W : World} {f g : Nat} {v1 v2 v3 v4 v5 v6 : Value} (hB : Below w13.heap.size w13 W) (hf : f < w13.heap.size) (hg : g < w13.heap.size)
    (x1 : w13.cell? ⟨f, 0, none⟩ = some v1) (x2 : w13.cell? ⟨f, 1, none⟩ = some v2) (x3 : w13.cell? ⟨f, 2, none⟩ = some v3) (x4 : w13.cell? ⟨g, 0, none⟩ = some v4) (x5 : w13.cell? ⟨g, 1, none⟩ = some v5) (x6 : w13.cell? ⟨g, 2, none⟩ = some v6) :
    W.cell? ⟨f, 0, none⟩ = some v1 ∧ W.cell? ⟨f, 1, none⟩ = some v2 ∧ W.cell? ⟨f, 2, none⟩ = some v3 ∧ W.cell? ⟨g, 0, none⟩ = some v4 ∧ W.cell? ⟨g, 1, none⟩ = some v5 ∧ W.cell? ⟨g, 2, none⟩ = some v6 :=
  ⟨(hB.cell (p := ⟨f, 0, none⟩) hf).trans x1, (hB.cell (p := ⟨f, 1, none⟩) hf).trans x2, (hB.cell (p := ⟨f, 2, none⟩) hf).trans x3, (hB.cell (p := ⟨g, 0, none⟩) hg).trans x4, (hB.cell (p := ⟨g, 1, none⟩) hg).trans x5, (hB.cell (p := ⟨g, 2, none⟩) hg).trans x6⟩

set_option maxRecDepth 100000 in
theorem big (ar ak av : Option Addr) (nr nk nv cr ck cv : Nat) (q : Int) (P : Nat → ByteArray) (N : Nat → Bool) (V K L : Nat → ByteArray) (w : World) (h1 : nr ≤ maxLen) (h2 : nk ≤ maxLen) (h3 : nv ≤ maxLen)
    (hr : ReqsAt w ar nr P N V) (hk : StrsAt w ak nk K) (hv : StrsAt w av nv L) (hg : ¬ (nr ≤ 65536 ∧ nk ≤ 65536 ∧ nv ≤ 65536)) :
    Calls Try.prog 5 #[.slice ar nr cr, .int .i64 q, .slice ak nk ck, .slice av nv cv] w fun e w' => e = .returned (.bool true) ∧ Below w.heap.size w w' := by
  have H7 := bytes13 ar ak av nr nk nv cr ck cv q P N V K L w h1 h2 h3 hr hk hv
  have H : Hid (Calls Try.prog 13 #[.slice ar nr cr, .int .i64 q, .slice ak nk ck, .slice av nv cv] w fun e w' => IsBool e ∧ w' = w) := H7
  unfold maxLen at h1 h2 h3
  clear H7 hr hk hv
  go_enter Try.func5, Try.ntmps5
  go_wp2_with fail
  refine H.out.mono ?_
  rintro e w' ⟨⟨b, rfl⟩, rfl⟩
  cases b
  · go_wp2_with fail
    go_ret
    exact ⟨rfl, Below.refl _ _⟩
  · by_cases g1 : nr ≤ 65536
    · by_cases g2 : nk ≤ 65536
      · have g3 : ¬ nv ≤ 65536 := fun h => hg ⟨g1, g2, h⟩
        clear hg
        go_wp2_with fail
        go_ret
        exact ⟨rfl, Below.refl _ _⟩
      · clear hg
        go_wp2_with fail
        go_ret
        exact ⟨rfl, Below.refl _ _⟩
    · clear hg
      go_wp2_with fail
      go_ret
      exact ⟨rfl, Below.refl _ _⟩

/-- the row of the requirements in reverse, its first k filled -/
def revRow (P : Nat → ByteArray) (N : Nat → Bool) (V : Nat → ByteArray) (n k : Nat) : Nat → Value :=
  half3 (fun i => .string (P (n - 1 - i))) (fun i => .bool (N (n - 1 - i))) (fun i => .string (V (n - 1 - i))) (.string ⟨#[]⟩) (.bool false) (.string ⟨#[]⟩) k

set_option maxRecDepth 100000 in
set_option maxHeartbeats 16000000 in
theorem main (ar ak av : Option Addr) (nr nk nv cr ck cv : Nat) (q : Int) (P : Nat → ByteArray) (N : Nat → Bool) (V K L : Nat → ByteArray) (w : World)
    (hr : ReqsAt w ar nr P N V) (hk : StrsAt w ak nk K) (hv : StrsAt w av nv L) (g1 : nr ≤ 65536) (g2 : nk ≤ 65536) (g3 : nv ≤ 65536)
    (sp : ∀ i, i < nr → (P i).size ≤ maxLen) (sk : ∀ i, i < nk → (K i).size ≤ maxLen) (sl : ∀ i, i < nv → (L i).size ≤ maxLen) :
    Calls Try.prog 5 #[.slice ar nr cr, .int .i64 q, .slice ak nk ck, .slice av nv cv] w fun e w' => e = .returned (.bool true) ∧ Below w.heap.size w w' := by
  have H7 := bytes13 ar ak av nr nk nv cr ck cv q P N V K L w (by unfold maxLen; omega) (by unfold maxLen; omega) (by unfold maxLen; omega) hr hk hv
  have H : Hid (Calls Try.prog 13 #[.slice ar nr cr, .int .i64 q, .slice ak nk ck, .slice av nv cv] w fun e w' => IsBool e ∧ w' = w) := H7
  have HR : Hid (ReqsAt w ar nr P N V) := hr
  have HK : Hid (StrsAt w ak nk K) := hk
  have HL : Hid (StrsAt w av nv L) := hv
  have SP : Hid (∀ i, i < nr → (P i).size ≤ maxLen) := sp
  have SK : Hid (∀ i, i < nk → (K i).size ≤ maxLen) := sk
  have SL : Hid (∀ i, i < nv → (L i).size ≤ maxLen) := sl
  clear H7 hr hk hv sp sk sl
  go_enter Try.func5, Try.ntmps5
  go_wp2_with fail
  refine H.out.mono ?_
  rintro e w0 ⟨⟨b, rfl⟩, rfl⟩
  clear H
  cases b
  · go_wp2_with fail
    go_ret
    exact ⟨rfl, Below.refl _ _⟩
  · go_wp2_with fail
    go_loopw [9, 10] (fun z i wr => ∃ k : Nat, k ≤ nr ∧ i = .int .i64 k ∧ Below w0.heap.size w0 wr ∧ ∃ y : Int, z = .int .i64 y) (fun _ i _ => nr - (intOf i).toNat)
    case atStart => exact ⟨0, Nat.zero_le _, rfl, Below.refl _ _, _, rfl⟩
    case round =>
      obtain ⟨k, hk, rfl, hb, y, rfl⟩ := hrel
      by_cases hlt : k < nr
      · obtain ⟨b, off, e1, hbl, hc⟩ := HR.out (by omega)
        subst e1
        have c1 := (hb.cell (p := ⟨b, off + k * 3, none⟩) hbl).trans (hc k hlt).1
        have c2 := (hb.cell (p := ⟨b, off + k * 3 + 1, none⟩) hbl).trans (hc k hlt).2.1
        have c3 := (hb.cell (p := ⟨b, off + k * 3 + 2, none⟩) hbl).trans (hc k hlt).2.2
        have HB : Hid (Below w0.heap.size w0 wr) := hb
        have hi : (k : Int) < (nr : Int) := by omega
        clear hc hbl hb
        go_wp2_with fail
        go_quiet (fail)
        go_wp2_with fail
        · go_ret
          exact ⟨rfl, below_drewN HB.out _⟩
        · go_roundw
          case rel => exact ⟨k + 1, by omega, by go_num, below_drewN HB.out _, _, rfl⟩
          case measure => simp [intOf]; omega
      · have HB1 : Hid (Below w0.heap.size w0 wr) := hb
        clear hb
        go_wp2_with fail
        go_loop [9, 11] (fun z i => ∃ k : Nat, k ≤ nk ∧ i = .int .i64 k ∧ ∃ y : Int, z = .int .i64 y) (fun _ i => nk - (intOf i).toNat)
        case atStart => exact ⟨0, Nat.zero_le _, rfl, _, rfl⟩
        case round =>
          obtain ⟨j, hj, rfl, y2, rfl⟩ := hrel
          by_cases hlt2 : j < nk
          · obtain ⟨b, off, e1, hbl, hc⟩ := HK.out (by omega)
            subst e1
            have c1 := (HB1.out.cell (p := ⟨b, off + j, none⟩) hbl).trans (hc j hlt2)
            clear hc hbl
            go_wp2_with fail
            · go_ret
              exact ⟨rfl, HB1.out⟩
            · go_round
              case rel => exact ⟨j + 1, by omega, by go_num, _, rfl⟩
              case measure => simp [intOf]; omega
          · go_wp2_with fail
            go_loop [9, 12] (fun z i => ∃ k : Nat, k ≤ nv ∧ i = .int .i64 k ∧ ∃ y : Int, z = .int .i64 y) (fun _ i => nv - (intOf i).toNat)
            case atStart => exact ⟨0, Nat.zero_le _, rfl, _, rfl⟩
            case round =>
              obtain ⟨l, hl, rfl, y3, rfl⟩ := hrel
              by_cases hlt3 : l < nv
              · obtain ⟨b, off, e1, hbl, hc⟩ := HL.out (by omega)
                subst e1
                have c1 := (HB1.out.cell (p := ⟨b, off + l, none⟩) hbl).trans (hc l hlt3)
                clear hc hbl
                go_wp2_with fail
                · go_ret
                  exact ⟨rfl, HB1.out⟩
                · go_round
                  case rel => exact ⟨l + 1, by omega, by go_num, _, rfl⟩
                  case measure => simp [intOf]; omega
              · by_cases hkv : nk = nv
                · subst hkv
                  by_cases hq0 : q < 0
                  · go_wp2_with fail
                    go_ret
                    exact ⟨rfl, HB1.out⟩
                  by_cases hq1 : (nr : Int) < q
                  · go_wp2_with fail
                    go_ret
                    exact ⟨rfl, HB1.out⟩
                  obtain ⟨m, rfl⟩ := Int.eq_ofNat_of_zero_le (show 0 ≤ q by omega)
                  have hm : m ≤ nr := by omega
                  have H1 : Hid (ReqsAt wr ar nr P N V) := reqs_below HR.out HB1.out (Nat.le_refl _)
                  have H2 : Hid (StrsAt wr ak nk K) := strs_below HK.out HB1.out (Nat.le_refl _)
                  have H3 : Hid (StrsAt wr av nk L) := strs_below HL.out HB1.out (Nat.le_refl _)
                  have hsz : w0.heap.size ≤ wr.heap.size := HB1.out.size
                  clear HR HK HL hq0 hq1
                  go_wp2_with fail
                  refine (clone_reqs2 ar nr cr P N V _ (by omega) H1.out).mono ?_
                  rintro e w4 ⟨a1, c1, rfl, hsh, hr4, hb4⟩
                  have HR4 : Hid (ReqsAt w4 a1 nr P N V) := hr4
                  have HSh : Hid (Shape a1 nr c1) := hsh
                  have HB4 : Hid (Below w0.heap.size w0 w4) := HB1.out.trans (hb4.mono hsz)
                  have H2' : Hid (StrsAt w4 ak nk K) := strs_below H2.out hb4 (Nat.le_refl _)
                  have H3' : Hid (StrsAt w4 av nk L) := strs_below H3.out hb4 (Nat.le_refl _)
                  have hsz4 : w0.heap.size ≤ w4.heap.size := HB4.out.size
                  clear H1 H2 H3 hr4 hb4 hsh
                  go_wp2_with fail
                  refine (clone_strs ak nk ck K _ (by omega) H2'.out).mono ?_
                  rintro e w5 ⟨a2, c2, rfl, hk5, hb5⟩
                  have HK5 : Hid (StrsAt w5 a2 nk K) := hk5
                  have HB5 : Hid (Below w0.heap.size w0 w5) := HB4.out.trans (hb5.mono hsz4)
                  have HR5 : Hid (ReqsAt w5 a1 nr P N V) := reqs_below HR4.out hb5 (Nat.le_refl _)
                  have H3'' : Hid (StrsAt w5 av nk L) := strs_below H3'.out hb5 (Nat.le_refl _)
                  have hsz5 : w0.heap.size ≤ w5.heap.size := HB5.out.size
                  clear H2' H3' HR4 HB4 hk5 hb5
                  go_wp2_with fail
                  refine (clone_strs av nk cv L _ (by omega) H3''.out).mono ?_
                  rintro e w6 ⟨a3, c3, rfl, hl6, hb6⟩
                  have HL6 : Hid (StrsAt w6 a3 nk L) := hl6
                  have HB6 : Hid (Below w0.heap.size w0 w6) := HB5.out.trans (hb6.mono hsz5)
                  have HR6 : Hid (ReqsAt w6 a1 nr P N V) := reqs_below HR5.out hb6 (Nat.le_refl _)
                  have HK6 : Hid (StrsAt w6 a2 nk K) := strs_below HK5.out hb6 (Nat.le_refl _)
                  have hsz6 : w0.heap.size ≤ w6.heap.size := HB6.out.size
                  clear H3'' HK5 HR5 HB5 hl6 hb6 HB1 hsz hsz4 hsz5
                  go_wp2_with fail
                  refine (object_any a2 a3 nk _ _ K L _ (by omega) HK6.out HL6.out SK.out SL.out).mono ?_
                  rintro e w7 ⟨B, rfl, hm7, hb7⟩
                  have S7 : St w0 w7 a1 nr P N V a2 a3 nk K L B := ⟨reqs_below HR6.out hb7 (Nat.le_refl _), strs_below HK6.out hb7 (Nat.le_refl _), strs_below HL6.out hb7 (Nat.le_refl _), hm7, HB6.out.trans (hb7.mono hsz6)⟩
                  have hc1 : nr ≤ c1 := HSh.out.le
                  have sl0 := slice_head a1 nr c1 0 (by omega)
                  have slh := slice_head a1 nr c1 m (by omega)
                  have slt := slice_tail a1 nr c1 m hm
                  clear hm7 hb7 HL6 HB6 HR6 HK6 hsz6 SK SL
                  go_wp2_with fail
                  refine (fm_any a1 0 _ B P N V (fun p => look K L p nk) _ (by omega) (reqs_head S7.reqs (Nat.zero_le _)) S7.map (fun i h => absurd h (by omega))).mono ?_
                  rintro e w8 ⟨rfl, hb8⟩
                  have S8 := S7.next hb8
                  clear S7 hb8
                  rw [allMet_zero]
                  go_wp2_with fail
                  refine (fm_any a1 nr _ B P N V (fun p => look K L p nk) _ g1 S8.reqs S8.map SP.out).mono ?_
                  rintro e w9 ⟨rfl, hb9⟩
                  have S9 := S8.next hb9
                  clear S8 hb9
                  go_upto_region 35 with fail
                  go_cut [138] (fun d wx => d = .bool false ∧ St w0 wx a1 nr P N V a2 a3 nk K L B)
                  case first =>
                    have hsp := allMet_split (f := fun p => look K L p nk) (P := P) (N := N) (V := V) hm
                    by_cases hA : allMet (fun p => look K L p nk) P N V m = true
                    · rw [hA, Bool.true_and] at hsp
                      have HW : Hid (allMet (fun p => look K L p nk) P N V nr = allMet (fun p => look K L p nk) (fun i => P (m + i)) (fun i => N (m + i)) (fun i => V (m + i)) (nr - m)) := hsp
                      have HA : Hid (allMet (fun p => look K L p nk) P N V m = true) := hA
                      clear hsp hA
                      go_wp2_with fail
                      refine (fm_any a1 m _ B P N V (fun p => look K L p nk) _ (by omega) (reqs_head S9.reqs hm) S9.map (fun i hi => SP.out i (by omega))).mono ?_
                      rintro e w10 ⟨rfl, hb10⟩
                      have S10 := S9.next hb10
                      clear S9 hb10
                      rw [HA.out]
                      go_wp2_with fail
                      refine (fm_any (tailA a1 c1 m) (nr - m) _ B (fun i => P (m + i)) (fun i => N (m + i)) (fun i => V (m + i)) (fun p => look K L p nk) _ (by omega) (reqs_tail S10.reqs hm hc1) S10.map (fun i hi => SP.out (m + i) (by omega))).mono ?_
                      rintro e w11 ⟨rfl, hb11⟩
                      have S11 := S10.next hb11
                      clear S10 hb11
                      rw [← HW.out]
                      go_wp2_with fail
                      go_meet
                      case rel => exact ⟨by simp, S11⟩
                    · have hA : allMet (fun p => look K L p nk) P N V m = false := by simpa using hA
                      rw [hA, Bool.false_and] at hsp
                      have HW : Hid (allMet (fun p => look K L p nk) P N V nr = false) := hsp
                      have HA : Hid (allMet (fun p => look K L p nk) P N V m = false) := hA
                      clear hsp hA
                      go_wp2_with fail
                      refine (fm_any a1 m _ B P N V (fun p => look K L p nk) _ (by omega) (reqs_head S9.reqs hm) S9.map (fun i hi => SP.out i (by omega))).mono ?_
                      rintro e w10 ⟨rfl, hb10⟩
                      have S10 := S9.next hb10
                      clear S9 hb10
                      rw [HA.out]
                      go_wp2_with fail
                      go_meet
                      case rel => exact ⟨by simp [HW.out], S10⟩
                  case rest =>
                    obtain ⟨e138, S10⟩ := hcut
                    subst e138
                    clear S9 sl0 slh slt
                    have hmk := run_make3 23 27 (.string ⟨#[]⟩) (.bool false) (.string ⟨#[]⟩) 40 Try.underlying23 info27 nr (by omega) (by omega)
                    go_wp2_with fail
                    go_loopw [16] (fun i wq => ∃ t : Nat, t ≤ nr ∧ i = .int .i64 t ∧ wq.rowIs wc.heap.size 27 (nr * 3) (revRow P N V nr t) ∧ Below wc.heap.size wc wq) (fun i _ => nr - (intOf i).toNat)
                    case atStart => exact ⟨0, Nat.zero_le _, rfl, half3_made _ _ _ _ _ _ _ _ _, (Below.refl _ _).alloc (Nat.le_refl _) _⟩
                    case round =>
                      obtain ⟨t, ht, rfl, hrow, hb⟩ := hrel
                      by_cases hlt4 : t < nr
                      · obtain ⟨b, off, e1, hbl, hc⟩ := S10.reqs (by omega)
                        subst e1
                        have hix : ((nr : Int) - 1 - (t : Int)).toNat = nr - 1 - t := by omega
                        have f1 := (hb.cell (p := ⟨b, off + (nr - 1 - t) * 3, none⟩) hbl).trans (hc (nr - 1 - t) (by omega)).1
                        have f2 := (hb.cell (p := ⟨b, off + (nr - 1 - t) * 3 + 1, none⟩) hbl).trans (hc (nr - 1 - t) (by omega)).2.1
                        have f3 := (hb.cell (p := ⟨b, off + (nr - 1 - t) * 3 + 2, none⟩) hbl).trans (hc (nr - 1 - t) (by omega)).2.2
                        have d1 := hrow.cell (i := t * 3) (by omega)
                        have d2 := hrow.cell (i := t * 3 + 1) (by omega)
                        have d3 := hrow.cell (i := t * 3 + 2) (by omega)
                        have z1 := hrow.frozen (t * 3)
                        have z2 := hrow.frozen (t * 3 + 1)
                        have z3 := hrow.frozen (t * 3 + 2)
                        have HRow := half3_step hrow
                        have HRow' : Hid ((((wr.setCell ⟨wc.heap.size, t * 3, none⟩ (.string (P (nr - 1 - t)))).setCell ⟨wc.heap.size, t * 3 + 1, none⟩ (.bool (N (nr - 1 - t)))).setCell ⟨wc.heap.size, t * 3 + 2, none⟩ (.string (V (nr - 1 - t)))).rowIs wc.heap.size 27 (nr * 3) (revRow P N V nr (t + 1))) := HRow
                        have HB : Hid (Below wc.heap.size wc wr) := hb
                        clear hc hrow hb HRow hbl
                        go_wp2_with fail
                        go_roundw
                        case rel => exact ⟨t + 1, by omega, by go_num, HRow'.out, ((HB.out.setCell (Nat.le_refl _) _).setCell (Nat.le_refl _) _).setCell (Nat.le_refl _) _⟩
                        case measure => simp [intOf]; omega
                      · obtain rfl : t = nr := by omega
                        have S11 := S10.next hb
                        have HRev : Hid (ReqsAt wr (some ⟨wc.heap.size, 0, none⟩) t (fun i => P (t - 1 - i)) (fun i => N (t - 1 - i)) (fun i => V (t - 1 - i))) := reqs_of_row hrow
                        clear hrow hb S10 hmk
                        go_wp2_with fail
                        refine (fm_any (some ⟨wc.heap.size, 0, none⟩) t _ B (fun i => P (t - 1 - i)) (fun i => N (t - 1 - i)) (fun i => V (t - 1 - i)) (fun p => look K L p nk) _ (by omega) HRev.out S11.map (fun i hi => SP.out (t - 1 - i) (by omega))).mono ?_
                        rintro e w12 ⟨rfl, hb12⟩
                        have S12 := S11.next hb12
                        clear S11 hb12 HRev
                        rw [allMet_rev]
                        by_cases h0 : t = 0
                        · subst h0
                          go_wp2_with fail
                          go_ret
                          exact ⟨rfl, S12.below⟩
                        · have h0' : 0 < t := by omega
                          clear h0
                          obtain ⟨b1, rfl, rfl⟩ : ∃ b1, a1 = some ⟨b1, 0, none⟩ ∧ c1 = t := by
                            rcases HSh.out with ⟨_, h, _⟩ | h
                            · omega
                            · exact h
                          obtain ⟨b2, off2, e2, hbl, hc⟩ := S12.reqs h0'
                          simp only [Option.some.injEq, Addr.mk.injEq] at e2
                          obtain ⟨rfl, rfl, _⟩ := e2
                          have r1 := (hc 0 h0').1
                          have r2 := (hc 0 h0').2.1
                          have r3 := (hc 0 h0').2.2
                          simp only [Nat.zero_mul, Nat.zero_add] at r1 r2 r3
                          clear hc
                          go_upto_region 47 with fail
                          have S13 := (S12.next ((Below.refl _ w12).alloc (Nat.le_refl _) (.cells #[.string (P 0), .bool (N 0), .string (V 0)] 27))).next ((Below.refl _ _).alloc (Nat.le_refl _) (.cells #[.string (P 0), .bool !N 0, .string (V 0)] 27))
                          obtain ⟨w13, hw13⟩ : ∃ w13, w13 = (w12.alloc (.cells #[.string (P 0), .bool (N 0), .string (V 0)] 27)).alloc (.cells #[.string (P 0), .bool !N 0, .string (V 0)] 27) := ⟨_, rfl⟩
                          rw [← hw13]
                          rw [← hw13] at S13
                          have hF : w12.heap.size < w13.heap.size := by rw [hw13]; simp; omega
                          have hG : w12.heap.size + 1 < w13.heap.size := by rw [hw13]; simp
                          have x1 : w13.cell? ⟨w12.heap.size, 0, none⟩ = some (.string (P 0)) := by rw [hw13]; simp
                          have x2 : w13.cell? ⟨w12.heap.size, 1, none⟩ = some (.bool (N 0)) := by rw [hw13]; simp
                          have x3 : w13.cell? ⟨w12.heap.size, 2, none⟩ = some (.string (V 0)) := by rw [hw13]; simp
                          have x4 : w13.cell? ⟨w12.heap.size + 1, 0, none⟩ = some (.string (P 0)) := by rw [hw13]; simp
                          have x5 : w13.cell? ⟨w12.heap.size + 1, 1, none⟩ = some (.bool !N 0) := by rw [hw13]; simp
                          have x6 : w13.cell? ⟨w12.heap.size + 1, 2, none⟩ = some (.string (V 0)) := by rw [hw13]; simp
                          have HP0 : Hid ((P 0).size ≤ maxLen) := SP.out 0 h0'
                          have HM13 : Hid (MapAt w13 B (fun p => look K L p nk)) := S13.map
                          clear hw13 r1 r2 r3 S12 hbl SP HSh
                          go_cut [186] (fun d wx => d = .bool false ∧ Below w13.heap.size w13 wx)
                          case first =>
                            go_region_held3 (fun wh => wh.cell? ⟨w12.heap.size, 0, none⟩ = some (.string (P 0)) ∧ wh.cell? ⟨w12.heap.size, 1, none⟩ = some (.bool (N 0)) ∧ wh.cell? ⟨w12.heap.size, 2, none⟩ = some (.string (V 0)) ∧ wh.cell? ⟨w12.heap.size + 1, 0, none⟩ = some (.string (P 0)) ∧ wh.cell? ⟨w12.heap.size + 1, 1, none⟩ = some (.bool !N 0) ∧ wh.cell? ⟨w12.heap.size + 1, 2, none⟩ = some (.string (V 0)))
                              ((refine keep6 ?_ hF hG x1 x2 x3 x4 x5 x6; (repeat (with_reducible (first | exact Below.refl _ _ | assumption | refine Below.drew ?_ | refine below_alloc' ?_ (Nat.le_refl _) _)))))
                              (first
                              | (go_at_call 11; refine (fm_step HM13.out _ (P 0) (N 0) (V 0) HP0.out ?_ ?_ ?_ ?_ ?_).mono ?_; (· (repeat (with_reducible (first | exact Below.refl _ _ | assumption | refine Below.drew ?_ | refine below_alloc' ?_ (Nat.le_refl _) _)))); (· (go_simp; done)); (· (go_simp; done)); (· (go_simp; done)); (· (first | (simp <;> omega) | (simp at hs14 ⊢; omega))); rintro e w14 ⟨rfl, hB14, hc14, hs14⟩)
                              | (go_at_call 11; refine (fm_step HM13.out _ (P 0) (!N 0) (V 0) HP0.out ?_ ?_ ?_ ?_ ?_).mono ?_; (· (repeat (with_reducible (first | exact Below.refl _ _ | assumption | refine Below.drew ?_ | refine below_alloc' ?_ (Nat.le_refl _) _)))); (· (go_simp; done)); (· (go_simp; done)); (· (go_simp; done)); (· (first | (simp <;> omega) | (simp at hs14 ⊢; omega))); rintro e w14 ⟨rfl, hB14, hc14, hs14⟩))
                            all_goals (go_wp2_with fail; go_meet)
                            all_goals (exact ⟨by rw [met1_flip], by assumption⟩)
                          case rest =>
                            rename World => w15
                            obtain ⟨e186, hB15⟩ := hcut
                            subst e186
                            have S15 := S13.next hB15
                            have hF15 : w12.heap.size < w15.heap.size := Nat.lt_of_lt_of_le hF hB15.size
                            have y1 := (hB15.cell (p := ⟨w12.heap.size, 0, none⟩) hF).trans x1
                            have HM15 : Hid (MapAt w15 B (fun p => look K L p nk)) := S15.map
                            clear x1 x2 x3 x4 x5 x6 hF hG HM13 S13 hB15
                            go_upto_region 49 with fail
                            go_cut [19] (fun d wx => d = .pointer (some ⟨w15.heap.size, 0, none⟩) ∧ wx = (w15.alloc (.cells #[.string (P 0), .bool false, .string (look K L (P 0) nk)] 27)).drew)
                            case first =>
                              go_region_held3 (fun wh => wh.cell? ⟨w12.heap.size, 0, none⟩ = some (.string (P 0))) ((go_simp; done))
                                ((go_at_call 10; refine (lookup_any a2 a3 nk _ _ K L (P 0) _ (by omega) ?_ ?_).mono ?_; (· refine strs_below S15.keys ?_ (Nat.le_refl _); (repeat (with_reducible (first | exact Below.refl _ _ | refine Below.drew ?_ | refine below_alloc' ?_ (Nat.le_refl _) _)))); (· refine strs_below S15.vals ?_ (Nat.le_refl _); (repeat (with_reducible (first | exact Below.refl _ _ | refine Below.drew ?_ | refine below_alloc' ?_ (Nat.le_refl _) _)))); rintro e w16 ⟨rfl, rfl⟩))
                              all_goals (go_wp2_with fail; go_meet)
                              all_goals (exact ⟨rfl, rfl⟩)
                            case rest =>
                              obtain ⟨e19, hw16⟩ := hcut
                              subst e19
                              subst hw16
                              have HO : Hid (met1 (fun p => look K L p nk) (P 0) false (look K L (P 0) nk) = true) := met1_own (f := fun p => look K L p nk) (P 0)
                              clear y1 hF15
                              go_wp2_with fail
                              refine (fm_step (w13 := w15) HM15.out _ (P 0) false (look K L (P 0) nk) HP0.out ?_ ?_ ?_ ?_ ?_).mono ?_
                              · repeat (with_reducible (first | exact Below.refl _ _ | refine Below.drew ?_ | refine below_alloc' ?_ (Nat.le_refl _) _))
                              · go_simp
                              · go_simp
                              · go_simp
                              · simp
                              rintro e w17 ⟨rfl, hB17, _, _⟩
                              have HB17 : Hid (Below w0.heap.size w0 w17) := S15.below.trans (hB17.mono S15.below.size)
                              clear hB17 S15
                              rw [HO.out]
                              go_wp2_with fail
                              go_ret
                              exact ⟨rfl, HB17.out⟩
                · go_wp2_with fail
                  go_ret
                  exact ⟨rfl, HB1.out⟩
end Go.Proofs.Qxb6605882a.Split
