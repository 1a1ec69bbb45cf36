import Derived.Test.Qxb6003725aRows
import Derived.Test.Qxb6003725aKit
namespace Go.Proofs.Qxb6003725a
open Go.RowKit

/-- It returns a bool of which p holds. -/
def BoolEnd (e : Ending) (p : Bool → Prop) : Prop := ∃ r, e = .returned (.bool r) ∧ p r

set_option maxHeartbeats 1000000 in
theorem zzBytes25_any (w : World) (ab ai an : Option Addr) (nb cb ci m cn : Nat) (ss : List ByteArray) (hb : nb ≤ maxLen) (hs : ss.length ≤ maxLen) (hm : m ≤ maxLen) (hss : ∀ i, (ss.getD i ByteArray.empty).size ≤ maxLen) (hI : View w ai (ss.map Value.string)) :
    Calls Try.prog 25 #[.slice ab nb cb, .slice ai ss.length ci, .slice an m cn] w fun e w' => BoolEnd e (fun _ => True) ∧ w' = w := by
  unfold maxLen at *
  by_cases h1 : nb ≤ 1048576
  · by_cases h2 : ss.length ≤ 1048576
    · by_cases h3 : nb + ss.length ≤ 1048576
      · go_enter Try.func25, Try.ntmps25
        go_wp2
        go_loop [7, 8] (fun t i => ∃ (k : Nat) (y : Int), k ≤ ss.length ∧ i = .int .i64 k ∧ t = .int .i64 y ∧ 0 ≤ y ∧ y ≤ 1048576) (fun _ i => ss.length - (intOf i).toNat)
        case atStart => exact ⟨0, _, Nat.zero_le _, rfl, rfl, by omega, by omega⟩
        case round =>
          obtain ⟨k, y, hk, rfl, rfl, hy0, hy1⟩ := hrel
          by_cases hlt : k < ss.length
          · obtain ⟨b, off, hab, hblt, hcell⟩ := hI.at (j := k) (by simpa using hlt)
            cases hab
            have hsk := hss k
            have hc1 : w.cell? ⟨b, off + k, none⟩ = some (.string (ss.getD k ByteArray.empty)) := hcell k _ (by simp [List.getD, hlt])
            generalize ss.getD k ByteArray.empty = s at *
            clear hcell
            by_cases g1 : s.size ≤ 1048576
            · by_cases g2 : y + s.size ≤ 1048576
              · go_wp2
                go_round
                case rel => exact ⟨k + 1, _, by omega, by go_num, rfl, by omega, by omega⟩
                case measure => simp [intOf]; omega
              · go_wp2
                go_ret
                exact ⟨⟨_, rfl, trivial⟩, rfl⟩
            · go_wp2
              go_ret
              exact ⟨⟨_, rfl, trivial⟩, rfl⟩
          · by_cases g1 : m ≤ 1048576
            · by_cases g2 : y + m ≤ 1048576
              · go_wp2
                go_ret
                exact ⟨⟨_, rfl, trivial⟩, rfl⟩
              · go_wp2
                go_ret
                exact ⟨⟨_, rfl, trivial⟩, rfl⟩
            · go_wp2
              go_ret
              exact ⟨⟨_, rfl, trivial⟩, rfl⟩
      · go_enter Try.func25, Try.ntmps25
        go_wp2
        go_ret
        exact ⟨⟨_, rfl, trivial⟩, rfl⟩
    · go_enter Try.func25, Try.ntmps25
      go_wp2
      go_ret
      exact ⟨⟨_, rfl, trivial⟩, rfl⟩
  · go_enter Try.func25, Try.ntmps25
    go_wp2
    go_ret
    exact ⟨⟨_, rfl, trivial⟩, rfl⟩

set_option maxHeartbeats 1000000 in
theorem zzBytes18_any (w : World) (ab ai an : Option Addr) (nb cb ci m cn : Nat) (ss : List ByteArray) (hb : nb ≤ maxLen) (hs : ss.length ≤ maxLen) (hm : m ≤ maxLen) (hss : ∀ i, (ss.getD i ByteArray.empty).size ≤ maxLen) (hI : View w ai (ss.map Value.string)) :
    Calls Try.prog 18 #[.slice ab nb cb, .slice ai ss.length ci, .slice an m cn] w fun e w' => BoolEnd e (fun _ => True) ∧ w' = w := by
  unfold maxLen at *
  by_cases h1 : nb ≤ 1048576
  · by_cases h2 : ss.length ≤ 1048576
    · by_cases h3 : nb + ss.length ≤ 1048576
      · go_enter Try.func18, Try.ntmps18
        go_wp2
        go_loop [7, 8] (fun t i => ∃ (k : Nat) (y : Int), k ≤ ss.length ∧ i = .int .i64 k ∧ t = .int .i64 y ∧ 0 ≤ y ∧ y ≤ 1048576) (fun _ i => ss.length - (intOf i).toNat)
        case atStart => exact ⟨0, _, Nat.zero_le _, rfl, rfl, by omega, by omega⟩
        case round =>
          obtain ⟨k, y, hk, rfl, rfl, hy0, hy1⟩ := hrel
          by_cases hlt : k < ss.length
          · obtain ⟨b, off, hab, hblt, hcell⟩ := hI.at (j := k) (by simpa using hlt)
            cases hab
            have hsk := hss k
            have hc1 : w.cell? ⟨b, off + k, none⟩ = some (.string (ss.getD k ByteArray.empty)) := hcell k _ (by simp [List.getD, hlt])
            generalize ss.getD k ByteArray.empty = s at *
            clear hcell
            by_cases g1 : s.size ≤ 1048576
            · by_cases g2 : y + s.size ≤ 1048576
              · go_wp2
                go_round
                case rel => exact ⟨k + 1, _, by omega, by go_num, rfl, by omega, by omega⟩
                case measure => simp [intOf]; omega
              · go_wp2
                go_ret
                exact ⟨⟨_, rfl, trivial⟩, rfl⟩
            · go_wp2
              go_ret
              exact ⟨⟨_, rfl, trivial⟩, rfl⟩
          · by_cases g1 : m ≤ 1048576
            · by_cases g2 : y + m ≤ 1048576
              · go_wp2
                go_ret
                exact ⟨⟨_, rfl, trivial⟩, rfl⟩
              · go_wp2
                go_ret
                exact ⟨⟨_, rfl, trivial⟩, rfl⟩
            · go_wp2
              go_ret
              exact ⟨⟨_, rfl, trivial⟩, rfl⟩
      · go_enter Try.func18, Try.ntmps18
        go_wp2
        go_ret
        exact ⟨⟨_, rfl, trivial⟩, rfl⟩
    · go_enter Try.func18, Try.ntmps18
      go_wp2
      go_ret
      exact ⟨⟨_, rfl, trivial⟩, rfl⟩
  · go_enter Try.func18, Try.ntmps18
    go_wp2
    go_ret
    exact ⟨⟨_, rfl, trivial⟩, rfl⟩

/-- What 'entriesFit' says yes to. -/
def FitYes (nb m : Nat) (an : Option Addr) (ss : List ByteArray) : Prop := nb ≤ 1048576 ∧ ss.length ≤ 65536 ∧ m ≤ 65536 ∧ (∀ i, i < ss.length → (ss.getD i ByteArray.empty).size ≤ 1048576) ∧ (an.isSome = true → ss.length ≤ m)

set_option maxHeartbeats 1000000 in
theorem fit_any (w : World) (ab ai an : Option Addr) (nb cb ci m cn : Nat) (ss : List ByteArray) (hb : nb ≤ maxLen) (hs : ss.length ≤ maxLen) (hm : m ≤ maxLen) (hss : ∀ i, (ss.getD i ByteArray.empty).size ≤ maxLen) (hI : View w ai (ss.map Value.string)) :
    Calls Try.prog 19 #[.slice ab nb cb, .slice ai ss.length ci, .slice an m cn] w fun e w' => BoolEnd e (fun r => r = true → FitYes nb m an ss) ∧ w' = w := by
  unfold maxLen at *
  have hnn := fun (W : World) => run_neq_slice_nil_any (P := Try.prog) W 37 42 an m cn 0 0 Try.underlying37
  by_cases h1 : nb ≤ 1048576 ∧ ss.length ≤ 65536 ∧ m ≤ 65536
  · obtain ⟨h1, h2, h3⟩ := h1
    by_cases h4 : nb + 16 * ss.length + 8 * m ≤ 1048576
    · go_enter Try.func19, Try.ntmps19
      go_wp2
      go_loop [7, 8] (fun t i => ∃ (k : Nat) (y : Int), k ≤ ss.length ∧ i = .int .i64 k ∧ t = .int .i64 y ∧ 0 ≤ y ∧ y ≤ 1048576 ∧ Hid (∀ j, j < k → (ss.getD j ByteArray.empty).size ≤ 1048576)) (fun _ i => ss.length - (intOf i).toNat)
      case atStart => exact ⟨0, _, Nat.zero_le _, rfl, rfl, by omega, by omega, fun j hj => by omega⟩
      case round =>
        obtain ⟨k, y, hk, rfl, rfl, hy0, hy1, hall⟩ := hrel
        by_cases hlt : k < ss.length
        · obtain ⟨b, off, hab, hblt, hcell⟩ := hI.at (j := k) (by simpa using hlt)
          cases hab
          have hsk := hss k
          have hc1 : w.cell? ⟨b, off + k, none⟩ = some (.string (ss.getD k ByteArray.empty)) := hcell k _ (by simp [List.getD, hlt])
          obtain ⟨s, hs'⟩ : ∃ s, s = ss.getD k ByteArray.empty := ⟨_, rfl⟩
          rw [← hs'] at hsk hc1
          have HS : Hid (s = ss.getD k ByteArray.empty) := hs'
          clear hcell hs'
          by_cases g1 : s.size ≤ 1048576
          · by_cases g2 : y + s.size ≤ 1048576
            · go_wp2
              go_round
              case rel =>
                refine ⟨k + 1, _, by omega, by go_num, rfl, by omega, by omega, fun j hj => ?_⟩
                rcases Nat.lt_or_ge j k with h | h
                · exact hall.out j h
                · obtain rfl : j = k := by omega
                  rw [← HS.out]; exact g1
              case measure => simp [intOf]; omega
            · go_wp2
              go_ret
              exact ⟨⟨_, rfl, fun h => by cases h⟩, rfl⟩
          · go_wp2
            go_ret
            exact ⟨⟨_, rfl, fun h => by cases h⟩, rfl⟩
        · obtain rfl : k = ss.length := by omega
          cases an with
          | none =>
            have hY : Hid (FitYes nb m none ss) := ⟨h1, h2, h3, hall.out, fun h => by cases h⟩
            clear hss
            go_wp2
            go_ret
            exact ⟨⟨_, rfl, fun _ => hY.out⟩, rfl⟩
          | some aa =>
            by_cases g1 : ss.length ≤ m
            · have hY : Hid (FitYes nb m (some aa) ss) := ⟨h1, h2, h3, hall.out, fun h => g1⟩
              clear hss
              go_wp2
              go_ret
              exact ⟨⟨_, rfl, fun _ => hY.out⟩, rfl⟩
            · have g2 : m < ss.length := by omega
              clear hss
              go_wp2
              go_ret
              exact ⟨⟨_, rfl, fun h => by cases h⟩, rfl⟩
    · go_enter Try.func19, Try.ntmps19
      go_wp2
      go_ret
      exact ⟨⟨_, rfl, fun h => by cases h⟩, rfl⟩
  · by_cases g1 : nb ≤ 1048576
    · by_cases g2 : ss.length ≤ 65536
      · have g3 : 65536 < m := by omega
        go_enter Try.func19, Try.ntmps19
        go_wp2
        all_goals (go_ret; exact ⟨⟨_, rfl, fun h => by cases h⟩, rfl⟩)
      · go_enter Try.func19, Try.ntmps19
        go_wp2
        all_goals (go_ret; exact ⟨⟨_, rfl, fun h => by cases h⟩, rfl⟩)
    · go_enter Try.func19, Try.ntmps19
      go_wp2
      all_goals (go_ret; exact ⟨⟨_, rfl, fun h => by cases h⟩, rfl⟩)

end Go.Proofs.Qxb6003725a
