import Derived.Test.Qxb6608961aChkC
namespace Go.Proofs.Qxb6608961a.chk
open Go.RowKit
set_option linter.unusedVariables false

set_option maxHeartbeats 800000 in
set_option maxRecDepth 100000 in
/-- 16 -/
theorem one16 (g1 g2 g3 : Nat) (zs : List Int) (w : World) (h1 : Rd w (some ⟨g1, 0, none⟩) (rul (fin [] zs))) (h2 : Rd w (some ⟨g2, 0, none⟩) (fld (fin [] zs))) (h3 : Rd w (some ⟨g3, 0, none⟩) (idx (fin [] zs))) (m : Nat) (hm : m = (fin [] zs).length) :
    Calls Try.prog 16 #[.slice (some ⟨g1, 0, none⟩) m m, .slice (some ⟨g2, 0, none⟩) m m, .slice (some ⟨g3, 0, none⟩) m m] w fun e w' => e = .returned (.bool true) ∧ w = w' := by
  cases ha : asc zs with
  | true =>
    rw [fin_true ha] at hm
    obtain rfl : m = 0 := by simpa using hm
    clear h1 h2 h3 hm ha
    go_enter Try.func16, Try.ntmps16
    go_wp2
    go_ret
    exact ⟨rfl, rfl⟩
  | false =>
    rw [fin_false ha] at hm h1 h2 h3
    obtain rfl : m = 1 := by simpa using hm
    have c1 : w.cell? ⟨g1, 0, none⟩ = some (.int .i64 3) := by
      rcases h1 with h | ⟨b, o, h, q⟩
      · simp [rul] at h
      · cases h; simpa using q 0 (.int .i64 3) (by simp [rul])
    have c2 : w.cell? ⟨g2, 0, none⟩ = some (.string ⟨#[]⟩) := by
      rcases h2 with h | ⟨b, o, h, q⟩
      · simp [fld] at h
      · cases h; simpa using q 0 (.string ⟨#[]⟩) (by simp [fld])
    have c3 : w.cell? ⟨g3, 0, none⟩ = some (.int .i64 (-1)) := by
      rcases h3 with h | ⟨b, o, h, q⟩
      · simp [idx] at h
      · cases h; simpa using q 0 (.int .i64 (-1)) (by simp [idx])
    clear h1 h2 h3 hm ha
    go_enter Try.func16, Try.ntmps16
    go_wp2
    go_ret
    exact ⟨rfl, rfl⟩

/-- What the bound on total length may answer. -/
def Bd (ss : List ByteArray) (e : Ending) : Prop := e = .returned (.bool false) ∨ (e = .returned (.bool true) ∧ ∀ s ∈ ss, s.size ≤ 1048576)

set_option maxHeartbeats 1600000 in
set_option maxRecDepth 100000 in
/-- 17 -/
theorem bytes17 (a0 a1 a2 a3 : Option Addr) (l0 c0 l1 c1 l2 c2 l3 c3 : Nat) (ss : List ByteArray) (w : World) (hr : Rd w a1 (ss.map Value.string)) (hn : Hid (ss.length = l1)) (hz : Hid (∀ s ∈ ss, s.size ≤ 9223372036854775807))
    (m0 : l0 ≤ 9223372036854775807) (m1 : l1 ≤ 9223372036854775807) (m2 : l2 ≤ 9223372036854775807) (m3 : l3 ≤ 9223372036854775807) :
    Calls Try.prog 17 #[.slice a0 l0 c0, .slice a1 l1 c1, .slice a2 l2 c2, .slice a3 l3 c3] w fun e w' => Bd ss e ∧ w = w' := by
  by_cases t0 : l0 ≤ 1048576
  · by_cases t1 : l1 ≤ 1048576
    · by_cases t2 : l0 + l1 ≤ 1048576
      · go_enter Try.func17, Try.ntmps17
        go_wp2
        go_loop [9, 10] (fun z i => ∃ k q : Nat, k ≤ l1 ∧ q ≤ 1048576 ∧ i = .int .i64 k ∧ z = .int .i64 q ∧ ∀ s ∈ ss.take k, s.size ≤ 1048576) (fun _ i => l1 - (intOf i).toNat)
        case atStart => exact ⟨0, l0 + l1, Nat.zero_le _, t2, rfl, by go_num, by simp⟩
        case round =>
          obtain ⟨k, q, hk, hq, rfl, rfl, hall⟩ := hrel
          by_cases hlt : k < l1
          · obtain ⟨s, hs⟩ := getL ss k (by rw [hn.out]; exact hlt)
            rcases hr with h | ⟨b, o, rfl, hc⟩
            · exact absurd h (map_ne ss _ k (by rw [hn.out]; exact hlt))
            have cc := hc k (.string s) (by simp [hs])
            have hsz : s.size ≤ 9223372036854775807 := hz.out s (List.mem_of_getElem? hs)
            have hnext : Hid (s.size ≤ 1048576 → ∀ s ∈ ss.take (k + 1), s.size ≤ 1048576) := by
              intro h x hx
              rw [take_snocL ss k s hs] at hx
              rcases List.mem_append.1 hx with h' | h'
              · exact hall x h'
              · simp only [List.mem_singleton] at h'; rw [h']; exact h
            clear hall hc hs
            by_cases z1 : s.size ≤ 1048576
            · by_cases z2 : q + s.size ≤ 1048576
              · go_wp2
                go_round
                case rel => exact ⟨k + 1, q + s.size, by omega, z2, by go_num, by go_num, hnext.out z1⟩
                case measure => simp [intOf]; omega
              · go_wp2
                go_ret
                exact ⟨.inl rfl, rfl⟩
            · go_wp2
              go_ret
              exact ⟨.inl rfl, rfl⟩
          · have hfin : Hid (∀ s ∈ ss, s.size ≤ 1048576) := fun s hs => hall s (by rw [List.take_of_length_le (by rw [hn.out]; omega)]; exact hs)
            clear hall
            by_cases y1 : l2 ≤ 1048576
            · by_cases y2 : q + l2 ≤ 1048576
              · by_cases y3 : l3 ≤ 1048576
                · by_cases y4 : q + l2 + l3 ≤ 1048576
                  · go_wp2
                    go_ret
                    exact ⟨.inr ⟨rfl, hfin.out⟩, rfl⟩
                  · go_wp2
                    go_ret
                    exact ⟨.inl rfl, rfl⟩
                · go_wp2
                  go_ret
                  exact ⟨.inl rfl, rfl⟩
              · go_wp2
                go_ret
                exact ⟨.inl rfl, rfl⟩
            · go_wp2
              go_ret
              exact ⟨.inl rfl, rfl⟩
      · go_enter Try.func17, Try.ntmps17
        go_wp2
        go_ret
        exact ⟨.inl rfl, rfl⟩
    · go_enter Try.func17, Try.ntmps17
      go_wp2
      go_ret
      exact ⟨.inl rfl, rfl⟩
  · go_enter Try.func17, Try.ntmps17
    go_wp2
    go_ret
    exact ⟨.inl rfl, rfl⟩

set_option maxHeartbeats 1600000 in
set_option maxRecDepth 100000 in
/-- 14 -/
theorem bytes14 (a0 a1 a2 a3 a4 : Option Addr) (l0 c0 l1 c1 l2 c2 l3 c3 l4 c4 : Nat) (ss : List ByteArray) (w : World) (hr : Rd w a1 (ss.map Value.string)) (hn : Hid (ss.length = l1)) (hz : Hid (∀ s ∈ ss, s.size ≤ 9223372036854775807))
    (m0 : l0 ≤ 9223372036854775807) (m1 : l1 ≤ 9223372036854775807) (m2 : l2 ≤ 9223372036854775807) (m3 : l3 ≤ 9223372036854775807) (m4 : l4 ≤ 9223372036854775807) :
    Calls Try.prog 14 #[.slice a0 l0 c0, .slice a1 l1 c1, .slice a2 l2 c2, .slice a3 l3 c3, .slice a4 l4 c4] w fun e w' => Bd ss e ∧ w = w' := by
  by_cases t0 : l0 ≤ 1048576
  · by_cases t1 : l1 ≤ 1048576
    · by_cases t2 : l0 + l1 ≤ 1048576
      · go_enter Try.func14, Try.ntmps14
        go_wp2
        go_loop [11, 12] (fun z i => ∃ k q : Nat, k ≤ l1 ∧ q ≤ 1048576 ∧ i = .int .i64 k ∧ z = .int .i64 q ∧ ∀ s ∈ ss.take k, s.size ≤ 1048576) (fun _ i => l1 - (intOf i).toNat)
        case atStart => exact ⟨0, l0 + l1, Nat.zero_le _, t2, rfl, by go_num, by simp⟩
        case round =>
          obtain ⟨k, q, hk, hq, rfl, rfl, hall⟩ := hrel
          by_cases hlt : k < l1
          · obtain ⟨s, hs⟩ := getL ss k (by rw [hn.out]; exact hlt)
            rcases hr with h | ⟨b, o, rfl, hc⟩
            · exact absurd h (map_ne ss _ k (by rw [hn.out]; exact hlt))
            have cc := hc k (.string s) (by simp [hs])
            have hsz : s.size ≤ 9223372036854775807 := hz.out s (List.mem_of_getElem? hs)
            have hnext : Hid (s.size ≤ 1048576 → ∀ s ∈ ss.take (k + 1), s.size ≤ 1048576) := by
              intro h x hx
              rw [take_snocL ss k s hs] at hx
              rcases List.mem_append.1 hx with h' | h'
              · exact hall x h'
              · simp only [List.mem_singleton] at h'; rw [h']; exact h
            clear hall hc hs
            by_cases z1 : s.size ≤ 1048576
            · by_cases z2 : q + s.size ≤ 1048576
              · go_wp2
                go_round
                case rel => exact ⟨k + 1, q + s.size, by omega, z2, by go_num, by go_num, hnext.out z1⟩
                case measure => simp [intOf]; omega
              · go_wp2
                go_ret
                exact ⟨.inl rfl, rfl⟩
            · go_wp2
              go_ret
              exact ⟨.inl rfl, rfl⟩
          · have hfin : Hid (∀ s ∈ ss, s.size ≤ 1048576) := fun s hs => hall s (by rw [List.take_of_length_le (by rw [hn.out]; omega)]; exact hs)
            clear hall
            by_cases y1 : l2 ≤ 1048576
            · by_cases y2 : q + l2 ≤ 1048576
              · by_cases y3 : l3 ≤ 1048576
                · by_cases y4 : q + l2 + l3 ≤ 1048576
                  · by_cases y5 : l4 ≤ 1048576
                    · by_cases y6 : q + l2 + l3 + l4 ≤ 1048576
                      · go_wp2
                        go_ret
                        exact ⟨.inr ⟨rfl, hfin.out⟩, rfl⟩
                      · go_wp2
                        go_ret
                        exact ⟨.inl rfl, rfl⟩
                    · go_wp2
                      go_ret
                      exact ⟨.inl rfl, rfl⟩
                  · go_wp2
                    go_ret
                    exact ⟨.inl rfl, rfl⟩
                · go_wp2
                  go_ret
                  exact ⟨.inl rfl, rfl⟩
              · go_wp2
                go_ret
                exact ⟨.inl rfl, rfl⟩
            · go_wp2
              go_ret
              exact ⟨.inl rfl, rfl⟩
      · go_enter Try.func14, Try.ntmps14
        go_wp2
        go_ret
        exact ⟨.inl rfl, rfl⟩
    · go_enter Try.func14, Try.ntmps14
      go_wp2
      go_ret
      exact ⟨.inl rfl, rfl⟩
  · go_enter Try.func14, Try.ntmps14
    go_wp2
    go_ret
    exact ⟨.inl rfl, rfl⟩

end Go.Proofs.Qxb6608961a.chk
