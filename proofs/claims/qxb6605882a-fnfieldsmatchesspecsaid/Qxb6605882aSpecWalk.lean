/-
  The walk of 'FnFieldsMatchesSpec' (4).
-/
import Derived.Test.Qxb6605882aFm
import Derived.Test.Qxb6605882aBytes
namespace Go.Proofs.Qxb6605882a.Spec
open Go.ChangeShapes Go.WideShapes Go.ChangeAt Go.RowKit Go.Maps

theorem big (ar ak av : Option Addr) (nr nk nv cr ck cv : Nat) (P : Nat → ByteArray) (N : Nat → Bool) (V K L : Nat → ByteArray) (w : World) (h1 : nr ≤ maxLen) (h2 : nk ≤ maxLen) (h3 : nv ≤ maxLen)
    (hr : ReqsAt w ar nr P N V) (hk : StrsAt w ak nk K) (hv : StrsAt w av nv L) (hg : ¬ (nr ≤ 4096 ∧ nk ≤ 4096 ∧ nv ≤ 4096)) :
    Calls Try.prog 4 #[.slice ar nr cr, .slice ak nk ck, .slice av nv cv] w fun e w' => e = .returned (.bool true) ∧ Below w.heap.size w w' := by
  have H7 := bytes7 ar ak av nr nk nv cr ck cv P N V K L w h1 h2 h3 hr hk hv
  have H : Hid (Calls Try.prog 7 #[.slice ar nr cr, .slice ak nk ck, .slice av nv cv] w fun e w' => IsBool e ∧ w' = w) := H7
  unfold maxLen at h1 h2 h3
  clear H7 hr hk hv
  go_enter Try.func4, Try.ntmps4
  go_wp2_with fail
  refine H.out.mono ?_
  rintro e w' ⟨⟨b, rfl⟩, rfl⟩
  cases b
  · go_wp2_with fail
    go_ret
    exact ⟨rfl, Below.refl _ _⟩
  · by_cases g1 : nr ≤ 4096
    · by_cases g2 : nk ≤ 4096
      · have g3 : ¬ nv ≤ 4096 := fun h => hg ⟨g1, g2, h⟩
        clear hg
        go_wp2_with fail
        go_ret
        exact ⟨rfl, Below.refl _ _⟩
      · clear hg
        go_wp2_with fail
        go_ret
        exact ⟨rfl, Below.refl _ _⟩
    · clear hg
      go_wp2_with fail
      go_ret
      exact ⟨rfl, Below.refl _ _⟩

/-- how many of the first k requirements are met -/
def cnt (f : ByteArray → ByteArray) (P : Nat → ByteArray) (N : Nat → Bool) (V : Nat → ByteArray) (k : Nat) : Nat := (List.range k).countP (met f P N V)

theorem cnt_le (f : ByteArray → ByteArray) (P : Nat → ByteArray) (N : Nat → Bool) (V : Nat → ByteArray) (k : Nat) : cnt f P N V k ≤ k := by
  have := List.countP_le_length (p := met f P N V) (l := List.range k)
  simpa [cnt] using this

theorem cnt_succ (f : ByteArray → ByteArray) (P : Nat → ByteArray) (N : Nat → Bool) (V : Nat → ByteArray) (k : Nat) : cnt f P N V (k + 1) = cnt f P N V k + if met f P N V k = true then 1 else 0 := by
  unfold cnt
  rw [List.range_succ, List.countP_append]
  simp [List.countP_cons]

theorem cnt_all (f : ByteArray → ByteArray) (P : Nat → ByteArray) (N : Nat → Bool) (V : Nat → ByteArray) (n : Nat) : allMet f P N V n = ((cnt f P N V n : Int) == (n : Int)) := by
  rw [Bool.eq_iff_iff, beq_iff_eq]
  unfold allMet cnt
  rw [List.all_eq_true]
  have h := List.countP_eq_length (p := met f P N V) (l := List.range n)
  rw [List.length_range] at h
  rw [← h]
  omega

set_option maxRecDepth 100000 in
set_option maxHeartbeats 1000000 in
theorem main (ar ak av : Option Addr) (nr nk nv cr ck cv : Nat) (P : Nat → ByteArray) (N : Nat → Bool) (V K L : Nat → ByteArray) (w : World)
    (hr : ReqsAt w ar nr P N V) (hk : StrsAt w ak nk K) (hv : StrsAt w av nv L) (g1 : nr ≤ 4096) (g2 : nk ≤ 4096) (g3 : nv ≤ 4096)
    (sp : ∀ i, i < nr → (P i).size ≤ maxLen) (sk : ∀ i, i < nk → (K i).size ≤ maxLen) (sl : ∀ i, i < nv → (L i).size ≤ maxLen) :
    Calls Try.prog 4 #[.slice ar nr cr, .slice ak nk ck, .slice av nv cv] w fun e w' => e = .returned (.bool true) ∧ Below w.heap.size w w' := by
  have H7 := bytes7 ar ak av nr nk nv cr ck cv P N V K L w (by unfold maxLen; omega) (by unfold maxLen; omega) (by unfold maxLen; omega) hr hk hv
  have H : Hid (Calls Try.prog 7 #[.slice ar nr cr, .slice ak nk ck, .slice av nv cv] w fun e w' => IsBool e ∧ w' = w) := H7
  have HR : Hid (ReqsAt w ar nr P N V) := hr
  have HK : Hid (StrsAt w ak nk K) := hk
  have HL : Hid (StrsAt w av nv L) := hv
  have SP : Hid (∀ i, i < nr → (P i).size ≤ maxLen) := sp
  have SK : Hid (∀ i, i < nk → (K i).size ≤ maxLen) := sk
  have SL : Hid (∀ i, i < nv → (L i).size ≤ maxLen) := sl
  clear H7 hr hk hv sp sk sl
  go_enter Try.func4, Try.ntmps4
  go_wp2_with fail
  refine H.out.mono ?_
  rintro e w0 ⟨⟨b, rfl⟩, rfl⟩
  clear H
  cases b
  · go_wp2_with fail
    go_ret
    exact ⟨rfl, Below.refl _ _⟩
  · go_wp2_with fail
    go_loopw [7, 8] (fun z i wr => ∃ k : Nat, k ≤ nr ∧ i = .int .i64 k ∧ Below w0.heap.size w0 wr ∧ ∃ y : Int, z = .int .i64 y) (fun _ i _ => nr - (intOf i).toNat)
    case atStart => exact ⟨0, Nat.zero_le _, rfl, Below.refl _ _, _, rfl⟩
    case round =>
      obtain ⟨k, hk, rfl, hb, y, rfl⟩ := hrel
      by_cases hlt : k < nr
      · obtain ⟨b, off, e1, hbl, hc⟩ := HR.out (by omega)
        subst e1
        have c1 := (hb.cell (p := ⟨b, off + k * 3, none⟩) hbl).trans (hc k hlt).1
        have c2 := (hb.cell (p := ⟨b, off + k * 3 + 1, none⟩) hbl).trans (hc k hlt).2.1
        have c3 := (hb.cell (p := ⟨b, off + k * 3 + 2, none⟩) hbl).trans (hc k hlt).2.2
        have HB : Hid (Below w0.heap.size w0 wr) := hb
        have hi : (k : Int) < (nr : Int) := by omega
        clear hc hbl hb
        go_wp2_with fail
        go_quiet (fail)
        go_wp2_with fail
        · go_ret
          exact ⟨rfl, below_drewN HB.out _⟩
        · go_roundw
          case rel => exact ⟨k + 1, by omega, by go_num, below_drewN HB.out _, _, rfl⟩
          case measure => simp [intOf]; omega
      · have HB1 : Hid (Below w0.heap.size w0 wr) := hb
        clear hb
        go_wp2_with fail
        go_loop [7, 9] (fun z i => ∃ k : Nat, k ≤ nk ∧ i = .int .i64 k ∧ ∃ y : Int, z = .int .i64 y) (fun _ i => nk - (intOf i).toNat)
        case atStart => exact ⟨0, Nat.zero_le _, rfl, _, rfl⟩
        case round =>
          obtain ⟨j, hj, rfl, y2, rfl⟩ := hrel
          by_cases hlt2 : j < nk
          · obtain ⟨b, off, e1, hbl, hc⟩ := HK.out (by omega)
            subst e1
            have c1 := (HB1.out.cell (p := ⟨b, off + j, none⟩) hbl).trans (hc j hlt2)
            clear hc hbl
            go_wp2_with fail
            · go_ret
              exact ⟨rfl, HB1.out⟩
            · go_round
              case rel => exact ⟨j + 1, by omega, by go_num, _, rfl⟩
              case measure => simp [intOf]; omega
          · go_wp2_with fail
            go_loop [7, 10] (fun z i => ∃ k : Nat, k ≤ nv ∧ i = .int .i64 k ∧ ∃ y : Int, z = .int .i64 y) (fun _ i => nv - (intOf i).toNat)
            case atStart => exact ⟨0, Nat.zero_le _, rfl, _, rfl⟩
            case round =>
              obtain ⟨l, hl, rfl, y3, rfl⟩ := hrel
              by_cases hlt3 : l < nv
              · obtain ⟨b, off, e1, hbl, hc⟩ := HL.out (by omega)
                subst e1
                have c1 := (HB1.out.cell (p := ⟨b, off + l, none⟩) hbl).trans (hc l hlt3)
                clear hc hbl
                go_wp2_with fail
                · go_ret
                  exact ⟨rfl, HB1.out⟩
                · go_round
                  case rel => exact ⟨l + 1, by omega, by go_num, _, rfl⟩
                  case measure => simp [intOf]; omega
              · by_cases hkv : nk = nv
                · subst hkv
                  have H1 : Hid (ReqsAt wr ar nr P N V) := reqs_below HR.out HB1.out (Nat.le_refl _)
                  have H2 : Hid (StrsAt wr ak nk K) := strs_below HK.out HB1.out (Nat.le_refl _)
                  have H3 : Hid (StrsAt wr av nk L) := strs_below HL.out HB1.out (Nat.le_refl _)
                  have hsz : w0.heap.size ≤ wr.heap.size := HB1.out.size
                  clear HR HK HL
                  go_wp2_with fail
                  refine (clone_reqs ar nr cr P N V _ (by omega) H1.out).mono ?_
                  rintro e w4 ⟨a1, c1, rfl, _, hr4, hb4⟩
                  have HR4 : Hid (ReqsAt w4 a1 nr P N V) := hr4
                  have HB4 : Hid (Below w0.heap.size w0 w4) := HB1.out.trans (hb4.mono hsz)
                  have H2' : Hid (StrsAt w4 ak nk K) := strs_below H2.out hb4 (Nat.le_refl _)
                  have H3' : Hid (StrsAt w4 av nk L) := strs_below H3.out hb4 (Nat.le_refl _)
                  have hsz4 : w0.heap.size ≤ w4.heap.size := HB4.out.size
                  clear H1 H2 H3 hr4 hb4
                  go_wp2_with fail
                  refine (clone_strs ak nk ck K _ (by omega) H2'.out).mono ?_
                  rintro e w5 ⟨a2, c2, rfl, hk5, hb5⟩
                  have HK5 : Hid (StrsAt w5 a2 nk K) := hk5
                  have HB5 : Hid (Below w0.heap.size w0 w5) := HB4.out.trans (hb5.mono hsz4)
                  have HR5 : Hid (ReqsAt w5 a1 nr P N V) := reqs_below HR4.out hb5 (Nat.le_refl _)
                  have H3'' : Hid (StrsAt w5 av nk L) := strs_below H3'.out hb5 (Nat.le_refl _)
                  have hsz5 : w0.heap.size ≤ w5.heap.size := HB5.out.size
                  clear H2' H3' HR4 HB4 hk5 hb5
                  go_wp2_with fail
                  refine (clone_strs av nk cv L _ (by omega) H3''.out).mono ?_
                  rintro e w6 ⟨a3, c3, rfl, hl6, hb6⟩
                  have HL6 : Hid (StrsAt w6 a3 nk L) := hl6
                  have HB6 : Hid (Below w0.heap.size w0 w6) := HB5.out.trans (hb6.mono hsz5)
                  have HR6 : Hid (ReqsAt w6 a1 nr P N V) := reqs_below HR5.out hb6 (Nat.le_refl _)
                  have HK6 : Hid (StrsAt w6 a2 nk K) := strs_below HK5.out hb6 (Nat.le_refl _)
                  have hsz6 : w0.heap.size ≤ w6.heap.size := HB6.out.size
                  clear H3'' HK5 HR5 HB5 hl6 hb6 HB1
                  go_wp2_with fail
                  go_loop [11, 12] (fun t i => ∃ k : Nat, k ≤ nr ∧ i = .int .i64 k ∧ t = .int .i64 (cnt (fun p => look K L p nk) P N V k)) (fun _ i => nr - (intOf i).toNat)
                  case atStart => exact ⟨0, Nat.zero_le _, rfl, rfl⟩
                  case round =>
                    obtain ⟨q, hq, rfl, rfl⟩ := hrel
                    by_cases hltq : q < nr
                    · obtain ⟨b, off, e1, hbl, hc⟩ := HR6.out (by omega)
                      subst e1
                      have d1 := (hc q hltq).1
                      have d2 := (hc q hltq).2.1
                      have d3 := (hc q hltq).2.2
                      have hcl := cnt_le (fun p => look K L p nk) P N V q
                      have HC := cnt_succ (fun p => look K L p nk) P N V q
                      have HC' : Hid (cnt (fun p => look K L p nk) P N V (q + 1) = cnt (fun p => look K L p nk) P N V q + if met (fun p => look K L p nk) P N V q = true then 1 else 0) := HC
                      clear hc hbl HC
                      by_cases hE : ((look K L (P q) nk).toList == (V q).toList) = true
                      · cases hN : N q with
                        | true =>
                          have HM : Hid (met (fun p => look K L p nk) P N V q = false) := by simp [Hid, met, hE, hN]
                          rw [hN] at d2
                          clear hN
                          go_wp2_with fail
                          refine (lookup_any a2 a3 nk _ _ K L (P q) _ (by omega) HK6.out HL6.out).mono ?_
                          rintro e w7 ⟨rfl, rfl⟩
                          go_wp2_with fail
                          go_round
                          case rel => exact ⟨q + 1, by omega, by go_num, by rw [HC'.out, if_neg (by simp [HM.out])]; go_num⟩
                          case measure => simp [intOf]; omega
                        | false =>
                          have HM : Hid (met (fun p => look K L p nk) P N V q = true) := by simp [Hid, met, hE, hN]
                          rw [hN] at d2
                          clear hN
                          go_wp2_with fail
                          refine (lookup_any a2 a3 nk _ _ K L (P q) _ (by omega) HK6.out HL6.out).mono ?_
                          rintro e w7 ⟨rfl, rfl⟩
                          go_wp2_with fail
                          go_round
                          case rel => exact ⟨q + 1, by omega, by go_num, by rw [HC'.out, if_pos (by simp [HM.out])]; go_num⟩
                          case measure => simp [intOf]; omega
                      · have hE : ((look K L (P q) nk).toList == (V q).toList) = false := by simpa using hE
                        cases hN : N q with
                        | true =>
                          have HM : Hid (met (fun p => look K L p nk) P N V q = true) := by simp [Hid, met, hE, hN]
                          rw [hN] at d2
                          clear hN
                          go_wp2_with fail
                          refine (lookup_any a2 a3 nk _ _ K L (P q) _ (by omega) HK6.out HL6.out).mono ?_
                          rintro e w7 ⟨rfl, rfl⟩
                          go_wp2_with fail
                          go_round
                          case rel => exact ⟨q + 1, by omega, by go_num, by rw [HC'.out, if_pos (by simp [HM.out])]; go_num⟩
                          case measure => simp [intOf]; omega
                        | false =>
                          have HM : Hid (met (fun p => look K L p nk) P N V q = false) := by simp [Hid, met, hE, hN]
                          rw [hN] at d2
                          clear hN
                          go_wp2_with fail
                          refine (lookup_any a2 a3 nk _ _ K L (P q) _ (by omega) HK6.out HL6.out).mono ?_
                          rintro e w7 ⟨rfl, rfl⟩
                          go_wp2_with fail
                          go_round
                          case rel => exact ⟨q + 1, by omega, by go_num, by rw [HC'.out, if_neg (by simp [HM.out])]; go_num⟩
                          case measure => simp [intOf]; omega
                    · obtain rfl : q = nr := by omega
                      have HE : Hid (allMet (fun p => look K L p nk) P N V q = ((cnt (fun p => look K L p nk) P N V q : Int) == (q : Int))) := cnt_all _ P N V q
                      go_wp2_with fail
                      refine (object_any a2 a3 nk _ _ K L _ (by omega) HK6.out HL6.out SK.out SL.out).mono ?_
                      rintro e w7 ⟨B, rfl, hm7, hb7⟩
                      have HM7 : Hid (MapAt w7 B (fun p => look K L p nk)) := hm7
                      have HR7 : Hid (ReqsAt w7 a1 q P N V) := reqs_below HR6.out hb7 (Nat.le_refl _)
                      have HB7 : Hid (Below w0.heap.size w0 w7) := HB6.out.trans (hb7.mono hsz6)
                      clear hm7 hb7
                      go_wp2_with fail
                      refine (fm_any a1 q _ B P N V (fun p => look K L p nk) _ (by omega) HR7.out HM7.out SP.out).mono ?_
                      rintro e w8 ⟨rfl, hb8⟩
                      have HB8 : Hid (Below w0.heap.size w0 w8) := HB7.out.trans (hb8.mono HB7.out.size)
                      clear hb8
                      rw [HE.out]
                      go_wp2_with fail
                      go_ret
                      exact ⟨by simp, HB8.out⟩
                · go_wp2_with fail
                  go_ret
                  exact ⟨rfl, HB1.out⟩
end Go.Proofs.Qxb6605882a.Spec
