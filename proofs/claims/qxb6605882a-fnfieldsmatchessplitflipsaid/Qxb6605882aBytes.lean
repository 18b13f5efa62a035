/-
  The two guards on lengths (7, 13): each answers some bool and touches nothing.
-/
import Derived.Test.Qxb6605882aClone
namespace Go.Proofs.Qxb6605882a
open Go.ChangeShapes Go.WideShapes Go.ChangeAt Go.RowKit

/-- some bool is handed back -/
def IsBool (e : Ending) : Prop := ∃ b : Bool, e = .returned (.bool b)

theorem bytes7 (ar ak av : Option Addr) (nr nk nv cr ck cv : Nat) (P : Nat → ByteArray) (N : Nat → Bool) (V K L : Nat → ByteArray) (w : World) (h1 : nr ≤ maxLen) (h2 : nk ≤ maxLen) (h3 : nv ≤ maxLen)
    (hr : ReqsAt w ar nr P N V) (hk : StrsAt w ak nk K) (hv : StrsAt w av nv L) :
    Calls Try.prog 7 #[.slice ar nr cr, .slice ak nk ck, .slice av nv cv] w fun e w' => IsBool e ∧ w' = w := by
  unfold maxLen at h1 h2 h3
  have HR : Hid (ReqsAt w ar nr P N V) := hr
  have HK : Hid (StrsAt w ak nk K) := hk
  have HV : Hid (StrsAt w av nv L) := hv
  clear hr hk hv
  go_enter Try.func7, Try.ntmps7
  go_wp2
  · go_ret
    exact ⟨⟨_, rfl⟩, rfl⟩
  · go_loop [7, 8] (fun z i => ∃ k : Nat, k ≤ nr ∧ i = .int .i64 k ∧ ∃ y : Int, z = .int .i64 y) (fun _ i => nr - (intOf i).toNat)
    case atStart => exact ⟨0, Nat.zero_le _, rfl, _, rfl⟩
    case round =>
      obtain ⟨k, hk, rfl, y, rfl⟩ := hrel
      by_cases hlt : k < nr
      · obtain ⟨b, off, e1, hbl, hc⟩ := HR.out (by omega)
        subst e1
        have c1 := (hc k hlt).1
        have c2 := (hc k hlt).2.1
        have c3 := (hc k hlt).2.2
        clear hc hbl
        go_wp2
        all_goals first
          | (go_ret; exact ⟨⟨_, rfl⟩, rfl⟩)
          | (go_round
             case rel => exact ⟨k + 1, by omega, by go_num, _, rfl⟩
             case measure => simp [intOf]; omega)
      · clear HR
        go_wp2
        · go_ret
          exact ⟨⟨_, rfl⟩, rfl⟩
        · go_ret
          exact ⟨⟨_, rfl⟩, rfl⟩
        · go_loop [7, 9] (fun z i => ∃ k : Nat, k ≤ nk ∧ i = .int .i64 k ∧ ∃ y : Int, z = .int .i64 y) (fun _ i => nk - (intOf i).toNat)
          case atStart => exact ⟨0, Nat.zero_le _, rfl, _, rfl⟩
          case round =>
            obtain ⟨j, hj, rfl, x, rfl⟩ := hrel
            by_cases hlt2 : j < nk
            · obtain ⟨b, off, e1, hbl, hc⟩ := HK.out (by omega)
              subst e1
              have c1 := hc j hlt2
              clear hc hbl
              go_wp2
              all_goals first
                | (go_ret; exact ⟨⟨_, rfl⟩, rfl⟩)
                | (go_round
                   case rel => exact ⟨j + 1, by omega, by go_num, _, rfl⟩
                   case measure => simp [intOf]; omega)
            · clear HK
              go_wp2
              · go_ret
                exact ⟨⟨_, rfl⟩, rfl⟩
              · go_ret
                exact ⟨⟨_, rfl⟩, rfl⟩
              · go_loop [7, 10] (fun z i => ∃ k : Nat, k ≤ nv ∧ i = .int .i64 k ∧ ∃ y : Int, z = .int .i64 y) (fun _ i => nv - (intOf i).toNat)
                case atStart => exact ⟨0, Nat.zero_le _, rfl, _, rfl⟩
                case round =>
                  obtain ⟨l, hl, rfl, u, rfl⟩ := hrel
                  by_cases hlt3 : l < nv
                  · obtain ⟨b, off, e1, hbl, hc⟩ := HV.out (by omega)
                    subst e1
                    have c1 := hc l hlt3
                    clear hc hbl
                    go_wp2
                    all_goals first
                      | (go_ret; exact ⟨⟨_, rfl⟩, rfl⟩)
                      | (go_round
                         case rel => exact ⟨l + 1, by omega, by go_num, _, rfl⟩
                         case measure => simp [intOf]; omega)
                  · go_wp2
                    go_ret
                    exact ⟨⟨_, rfl⟩, rfl⟩

theorem bytes13 (ar ak av : Option Addr) (nr nk nv cr ck cv : Nat) (q : Int) (P : Nat → ByteArray) (N : Nat → Bool) (V K L : Nat → ByteArray) (w : World) (h1 : nr ≤ maxLen) (h2 : nk ≤ maxLen) (h3 : nv ≤ maxLen)
    (hr : ReqsAt w ar nr P N V) (hk : StrsAt w ak nk K) (hv : StrsAt w av nv L) :
    Calls Try.prog 13 #[.slice ar nr cr, .int .i64 q, .slice ak nk ck, .slice av nv cv] w fun e w' => IsBool e ∧ w' = w := by
  unfold maxLen at h1 h2 h3
  have HR : Hid (ReqsAt w ar nr P N V) := hr
  have HK : Hid (StrsAt w ak nk K) := hk
  have HV : Hid (StrsAt w av nv L) := hv
  clear hr hk hv
  go_enter Try.func13, Try.ntmps13
  go_wp2
  · go_ret
    exact ⟨⟨_, rfl⟩, rfl⟩
  · go_loop [9, 10] (fun z i => ∃ k : Nat, k ≤ nr ∧ i = .int .i64 k ∧ ∃ y : Int, z = .int .i64 y) (fun _ i => nr - (intOf i).toNat)
    case atStart => exact ⟨0, Nat.zero_le _, rfl, _, rfl⟩
    case round =>
      obtain ⟨k, hk, rfl, y, rfl⟩ := hrel
      by_cases hlt : k < nr
      · obtain ⟨b, off, e1, hbl, hc⟩ := HR.out (by omega)
        subst e1
        have c1 := (hc k hlt).1
        have c2 := (hc k hlt).2.1
        have c3 := (hc k hlt).2.2
        clear hc hbl
        go_wp2
        all_goals first
          | (go_ret; exact ⟨⟨_, rfl⟩, rfl⟩)
          | (go_round
             case rel => exact ⟨k + 1, by omega, by go_num, _, rfl⟩
             case measure => simp [intOf]; omega)
      · clear HR
        go_wp2
        · go_ret
          exact ⟨⟨_, rfl⟩, rfl⟩
        · go_ret
          exact ⟨⟨_, rfl⟩, rfl⟩
        · go_loop [9, 11] (fun z i => ∃ k : Nat, k ≤ nk ∧ i = .int .i64 k ∧ ∃ y : Int, z = .int .i64 y) (fun _ i => nk - (intOf i).toNat)
          case atStart => exact ⟨0, Nat.zero_le _, rfl, _, rfl⟩
          case round =>
            obtain ⟨j, hj, rfl, x, rfl⟩ := hrel
            by_cases hlt2 : j < nk
            · obtain ⟨b, off, e1, hbl, hc⟩ := HK.out (by omega)
              subst e1
              have c1 := hc j hlt2
              clear hc hbl
              go_wp2
              all_goals first
                | (go_ret; exact ⟨⟨_, rfl⟩, rfl⟩)
                | (go_round
                   case rel => exact ⟨j + 1, by omega, by go_num, _, rfl⟩
                   case measure => simp [intOf]; omega)
            · clear HK
              go_wp2
              · go_ret
                exact ⟨⟨_, rfl⟩, rfl⟩
              · go_ret
                exact ⟨⟨_, rfl⟩, rfl⟩
              · go_loop [9, 12] (fun z i => ∃ k : Nat, k ≤ nv ∧ i = .int .i64 k ∧ ∃ y : Int, z = .int .i64 y) (fun _ i => nv - (intOf i).toNat)
                case atStart => exact ⟨0, Nat.zero_le _, rfl, _, rfl⟩
                case round =>
                  obtain ⟨l, hl, rfl, u, rfl⟩ := hrel
                  by_cases hlt3 : l < nv
                  · obtain ⟨b, off, e1, hbl, hc⟩ := HV.out (by omega)
                    subst e1
                    have c1 := hc l hlt3
                    clear hc hbl
                    go_wp2
                    all_goals first
                      | (go_ret; exact ⟨⟨_, rfl⟩, rfl⟩)
                      | (go_round
                         case rel => exact ⟨l + 1, by omega, by go_num, _, rfl⟩
                         case measure => simp [intOf]; omega)
                  · go_wp2
                    go_ret
                    exact ⟨⟨_, rfl⟩, rfl⟩
end Go.Proofs.Qxb6605882a
