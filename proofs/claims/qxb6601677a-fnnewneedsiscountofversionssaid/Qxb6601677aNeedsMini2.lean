/-
  needsBytes (11) and the two zzBytes (10, 18): they only read.
-/
import Derived.Test.Qxb6601677aNeedsMini
namespace Go.Proofs.Qxb6601677a
open Go.ChangeShapes Go.WideShapes Go.ChangeAt Go.RowKit
set_option linter.unusedVariables false

theorem RowS.read {w : World} {a : Option Addr} {len cap : Nat} {ss : List ByteArray} (h : RowS w a len cap ss) : len ≤ cap ∧ ∃ (b o : Nat) (sp : _), ∀ i, i < len → a = some ⟨b, o, sp⟩ ∧ w.cell? ((⟨b, o, sp⟩ : Addr).add i) = some (.string (ss.getD i ByteArray.empty)) ∧ (ss.getD i ByteArray.empty).size ≤ maxLen := by
  rcases h with ⟨rfl, rfl, rfl, rfl⟩ | ⟨⟨b, o, sp⟩, rfl, h1, h2, h3, h4, h5⟩
  · exact ⟨Nat.le_refl _, 0, 0, none, fun i hi => by omega⟩
  · refine ⟨h1, b, o, sp, fun i hi => ⟨rfl, h4 i (by omega), h5 _ ?_⟩⟩
    rw [List.getD_eq_getElem?_getD, List.getElem?_eq_getElem (show i < ss.length by omega)]
    exact List.getElem_mem _

set_option maxHeartbeats 2000000 in
set_option maxRecDepth 20000 in
theorem needsBytes_any (a0 a1 a2 : Option Addr) (l0 c0 l1 c1 l2 c2 : Nat) (s1 s2 : List ByteArray) (w : World) (h0 : l0 ≤ 4096) (g0 : l0 ≤ c0) (h1 : l1 ≤ 4096) (h2 : l2 ≤ 4096) (z1 : ∀ i, i < l1 → (s1.getD i ByteArray.empty).size ≤ 1048576) (z2 : ∀ i, i < l2 → (s2.getD i ByteArray.empty).size ≤ 1048576) (r1 : RowS w a1 l1 c1 s1) (r2 : RowS w a2 l2 c2 s2) :
    Calls Try.prog 11 #[.slice a0 l0 c0, .slice a1 l1 c1, .slice a2 l2 c2] w fun e w' => (∃ t : Int, e = .returned (.int .i64 t)) ∧ w' = w := by
  obtain ⟨g1, b1, o1, p1, R1⟩ := r1.read
  obtain ⟨g2, b2, o2, p2, R2⟩ := r2.read
  have HR1 := hidn R1
  have HR2 := hidn R2
  have HZ1 := hidn z1
  have HZ2 := hidn z2
  clear R1 R2 r1 r2 z1 z2
  go_enter Try.func11, Try.ntmps11
  go_wp2_with fail
  go_loopg [7, 8] l1 (fun g s7 s8 wx => ∃ (k : Nat) (t : Int), s7 = .int .i64 t ∧ 0 ≤ t ∧ t ≤ 1048576 ∧ s8 = .int .i64 k ∧ k ≤ l1 ∧ g = l1 - k ∧ w = wx)
  case atStart => exact ⟨0, _, rfl, by omega, by omega, rfl, by omega, rfl, rfl⟩
  case round =>
    obtain ⟨k, t, rfl, ht0, ht1, rfl, hk, rfl, rfl⟩ := hrel
    by_cases hlt : k < l1
    · obtain ⟨rfl, q1, q2⟩ := HR1.out k hlt
      have q3 := HZ1.out k hlt
      generalize s1.getD k ByteArray.empty = x at *
      by_cases hx : t + x.size > 1048576
      · go_wp2
        go_ret
        exact ⟨⟨_, rfl⟩, rfl⟩
      · go_wp2
        go_roundg (l1 - (k + 1))
        case measure => omega
        case rel => exact ⟨k + 1, _, rfl, by omega, by omega, by go_num, by omega, rfl, rfl⟩
    · obtain rfl : l1 = k := by omega
      go_wp2_with fail
      go_loopg [7, 9] l2 (fun g s7 s9 wx => ∃ (k : Nat) (t : Int), s7 = .int .i64 t ∧ 0 ≤ t ∧ t ≤ 1048576 ∧ s9 = .int .i64 k ∧ k ≤ l2 ∧ g = l2 - k ∧ w = wx)
      case atStart => exact ⟨0, _, rfl, by omega, by omega, rfl, by omega, rfl, rfl⟩
      case round =>
        obtain ⟨k, t, rfl, ht0, ht1, rfl, hk, rfl, rfl⟩ := hrel
        by_cases hlt : k < l2
        · obtain ⟨rfl, q1, q2⟩ := HR2.out k hlt
          have q3 := HZ2.out k hlt
          generalize s2.getD k ByteArray.empty = x at *
          by_cases hx : t + x.size > 1048576
          · go_wp2
            go_ret
            exact ⟨⟨_, rfl⟩, rfl⟩
          · go_wp2
            go_roundg (l2 - (k + 1))
            case measure => omega
            case rel => exact ⟨k + 1, _, rfl, by omega, by omega, by go_num, by omega, rfl, rfl⟩
        · obtain rfl : l2 = k := by omega
          go_wp2
          go_ret
          exact ⟨⟨_, rfl⟩, rfl⟩

/-- What zzBytes answers: true only where every string is short. -/
def ZOk (l1 l2 : Nat) (s1 s2 : List ByteArray) (e : Ending) : Prop := ∃ r : Bool, e = .returned (.bool r) ∧ (r = true → (∀ i, i < l1 → (s1.getD i ByteArray.empty).size ≤ 1048576) ∧ ∀ i, i < l2 → (s2.getD i ByteArray.empty).size ≤ 1048576)

set_option maxHeartbeats 2000000 in
set_option maxRecDepth 20000 in
theorem zzBytes_18 (a0 a1 a2 : Option Addr) (l0 c0 l1 c1 l2 c2 : Nat) (s1 s2 : List ByteArray) (w : World) (g0 : l0 ≤ c0) (r1 : RowS w a1 l1 c1 s1) (r2 : RowS w a2 l2 c2 s2) :
    Calls Try.prog 18 #[.slice a0 l0 c0, .slice a1 l1 c1, .slice a2 l2 c2] w fun e w' => ZOk l1 l2 s1 s2 e ∧ w' = w := by
  obtain ⟨g1, b1, o1, p1, R1⟩ := r1.read
  obtain ⟨g2, b2, o2, p2, R2⟩ := r2.read
  have HR1 := hidn R1
  have HR2 := hidn R2
  clear R1 R2 r1 r2
  by_cases e0 : l0 ≤ 1048576
  · by_cases e1 : l1 ≤ 1048576
    · by_cases e2 : l0 + l1 ≤ 1048576
      · go_enter Try.func18, Try.ntmps18
        go_wp2_with fail
        go_loopg [7, 8] l1 (fun g s7 s8 wx => ∃ (k : Nat) (t : Int), s7 = .int .i64 t ∧ 0 ≤ t ∧ t ≤ 1048576 ∧ s8 = .int .i64 k ∧ k ≤ l1 ∧ g = l1 - k ∧ Hid (∀ i, i < k → (s1.getD i ByteArray.empty).size ≤ 1048576) ∧ w = wx)
        case atStart => exact ⟨0, _, rfl, by omega, by omega, rfl, by omega, rfl, fun i hi => by omega, rfl⟩
        case round =>
          obtain ⟨k, t, rfl, ht0, ht1, rfl, hk, rfl, HZ, rfl⟩ := hrel
          by_cases hlt : k < l1
          · obtain ⟨rfl, q1, q2⟩ := HR1.out k hlt
            have HS : Hid ((s1.getD k ByteArray.empty).size ≤ 1048576 → ∀ i, i < k + 1 → (s1.getD i ByteArray.empty).size ≤ 1048576) := fun h i hi => by
              by_cases hik : i = k
              · subst hik; exact h
              · exact HZ.out i (by omega)
            generalize s1.getD k ByteArray.empty = x at *
            by_cases hx1 : x.size ≤ 1048576
            · by_cases hx : t + x.size > 1048576
              · go_wp2
                go_ret
                exact ⟨⟨_, rfl, fun h => by cases h⟩, rfl⟩
              · go_wp2
                go_roundg (l1 - (k + 1))
                case measure => omega
                case rel => exact ⟨k + 1, _, rfl, by omega, by omega, by go_num, by omega, rfl, HS.out hx1, rfl⟩
            · go_wp2
              go_ret
              exact ⟨⟨_, rfl, fun h => by cases h⟩, rfl⟩
          · obtain rfl : l1 = k := by omega
            by_cases e3 : l2 ≤ 1048576
            · by_cases e4 : t + l2 ≤ 1048576
              · go_wp2_with fail
                go_loopg [7, 9] l2 (fun g s7 s9 wx => ∃ (k : Nat) (t : Int), s7 = .int .i64 t ∧ 0 ≤ t ∧ t ≤ 1048576 ∧ s9 = .int .i64 k ∧ k ≤ l2 ∧ g = l2 - k ∧ Hid (∀ i, i < k → (s2.getD i ByteArray.empty).size ≤ 1048576) ∧ w = wx)
                case atStart => exact ⟨0, _, rfl, by omega, by omega, rfl, by omega, rfl, fun i hi => by omega, rfl⟩
                case round =>
                  obtain ⟨k, t, rfl, ht0, ht1, rfl, hk, rfl, HY, rfl⟩ := hrel
                  by_cases hlt : k < l2
                  · obtain ⟨rfl, q1, q2⟩ := HR2.out k hlt
                    have HS : Hid ((s2.getD k ByteArray.empty).size ≤ 1048576 → ∀ i, i < k + 1 → (s2.getD i ByteArray.empty).size ≤ 1048576) := fun h i hi => by
                      by_cases hik : i = k
                      · subst hik; exact h
                      · exact HY.out i (by omega)
                    generalize s2.getD k ByteArray.empty = x at *
                    by_cases hx1 : x.size ≤ 1048576
                    · by_cases hx : t + x.size > 1048576
                      · go_wp2
                        go_ret
                        exact ⟨⟨_, rfl, fun h => by cases h⟩, rfl⟩
                      · go_wp2
                        go_roundg (l2 - (k + 1))
                        case measure => omega
                        case rel => exact ⟨k + 1, _, rfl, by omega, by omega, by go_num, by omega, rfl, HS.out hx1, rfl⟩
                    · go_wp2
                      go_ret
                      exact ⟨⟨_, rfl, fun h => by cases h⟩, rfl⟩
                  · obtain rfl : l2 = k := by omega
                    go_wp2
                    go_ret
                    exact ⟨⟨_, rfl, fun _ => ⟨HZ.out, HY.out⟩⟩, rfl⟩
              · go_wp2
                go_ret
                exact ⟨⟨_, rfl, fun h => by cases h⟩, rfl⟩
            · go_wp2
              go_ret
              exact ⟨⟨_, rfl, fun h => by cases h⟩, rfl⟩
      · go_enter Try.func18, Try.ntmps18
        go_wp2
        go_ret
        exact ⟨⟨_, rfl, fun h => by cases h⟩, rfl⟩
    · go_enter Try.func18, Try.ntmps18
      go_wp2
      go_ret
      exact ⟨⟨_, rfl, fun h => by cases h⟩, rfl⟩
  · go_enter Try.func18, Try.ntmps18
    go_wp2
    go_ret
    exact ⟨⟨_, rfl, fun h => by cases h⟩, rfl⟩

set_option maxHeartbeats 2000000 in
set_option maxRecDepth 20000 in
theorem zzBytes_10 (a0 a1 a2 : Option Addr) (l0 c0 l1 c1 l2 c2 : Nat) (s1 s2 : List ByteArray) (w : World) (g0 : l0 ≤ c0) (r1 : RowS w a1 l1 c1 s1) (r2 : RowS w a2 l2 c2 s2) :
    Calls Try.prog 10 #[.slice a0 l0 c0, .slice a1 l1 c1, .slice a2 l2 c2] w fun e w' => ZOk l1 l2 s1 s2 e ∧ w' = w := by
  obtain ⟨g1, b1, o1, p1, R1⟩ := r1.read
  obtain ⟨g2, b2, o2, p2, R2⟩ := r2.read
  have HR1 := hidn R1
  have HR2 := hidn R2
  clear R1 R2 r1 r2
  by_cases e0 : l0 ≤ 1048576
  · by_cases e1 : l1 ≤ 1048576
    · by_cases e2 : l0 + l1 ≤ 1048576
      · go_enter Try.func10, Try.ntmps10
        go_wp2_with fail
        go_loopg [7, 8] l1 (fun g s7 s8 wx => ∃ (k : Nat) (t : Int), s7 = .int .i64 t ∧ 0 ≤ t ∧ t ≤ 1048576 ∧ s8 = .int .i64 k ∧ k ≤ l1 ∧ g = l1 - k ∧ Hid (∀ i, i < k → (s1.getD i ByteArray.empty).size ≤ 1048576) ∧ w = wx)
        case atStart => exact ⟨0, _, rfl, by omega, by omega, rfl, by omega, rfl, fun i hi => by omega, rfl⟩
        case round =>
          obtain ⟨k, t, rfl, ht0, ht1, rfl, hk, rfl, HZ, rfl⟩ := hrel
          by_cases hlt : k < l1
          · obtain ⟨rfl, q1, q2⟩ := HR1.out k hlt
            have HS : Hid ((s1.getD k ByteArray.empty).size ≤ 1048576 → ∀ i, i < k + 1 → (s1.getD i ByteArray.empty).size ≤ 1048576) := fun h i hi => by
              by_cases hik : i = k
              · subst hik; exact h
              · exact HZ.out i (by omega)
            generalize s1.getD k ByteArray.empty = x at *
            by_cases hx1 : x.size ≤ 1048576
            · by_cases hx : t + x.size > 1048576
              · go_wp2
                go_ret
                exact ⟨⟨_, rfl, fun h => by cases h⟩, rfl⟩
              · go_wp2
                go_roundg (l1 - (k + 1))
                case measure => omega
                case rel => exact ⟨k + 1, _, rfl, by omega, by omega, by go_num, by omega, rfl, HS.out hx1, rfl⟩
            · go_wp2
              go_ret
              exact ⟨⟨_, rfl, fun h => by cases h⟩, rfl⟩
          · obtain rfl : l1 = k := by omega
            by_cases e3 : l2 ≤ 1048576
            · by_cases e4 : t + l2 ≤ 1048576
              · go_wp2_with fail
                go_loopg [7, 9] l2 (fun g s7 s9 wx => ∃ (k : Nat) (t : Int), s7 = .int .i64 t ∧ 0 ≤ t ∧ t ≤ 1048576 ∧ s9 = .int .i64 k ∧ k ≤ l2 ∧ g = l2 - k ∧ Hid (∀ i, i < k → (s2.getD i ByteArray.empty).size ≤ 1048576) ∧ w = wx)
                case atStart => exact ⟨0, _, rfl, by omega, by omega, rfl, by omega, rfl, fun i hi => by omega, rfl⟩
                case round =>
                  obtain ⟨k, t, rfl, ht0, ht1, rfl, hk, rfl, HY, rfl⟩ := hrel
                  by_cases hlt : k < l2
                  · obtain ⟨rfl, q1, q2⟩ := HR2.out k hlt
                    have HS : Hid ((s2.getD k ByteArray.empty).size ≤ 1048576 → ∀ i, i < k + 1 → (s2.getD i ByteArray.empty).size ≤ 1048576) := fun h i hi => by
                      by_cases hik : i = k
                      · subst hik; exact h
                      · exact HY.out i (by omega)
                    generalize s2.getD k ByteArray.empty = x at *
                    by_cases hx1 : x.size ≤ 1048576
                    · by_cases hx : t + x.size > 1048576
                      · go_wp2
                        go_ret
                        exact ⟨⟨_, rfl, fun h => by cases h⟩, rfl⟩
                      · go_wp2
                        go_roundg (l2 - (k + 1))
                        case measure => omega
                        case rel => exact ⟨k + 1, _, rfl, by omega, by omega, by go_num, by omega, rfl, HS.out hx1, rfl⟩
                    · go_wp2
                      go_ret
                      exact ⟨⟨_, rfl, fun h => by cases h⟩, rfl⟩
                  · obtain rfl : l2 = k := by omega
                    go_wp2
                    go_ret
                    exact ⟨⟨_, rfl, fun _ => ⟨HZ.out, HY.out⟩⟩, rfl⟩
              · go_wp2
                go_ret
                exact ⟨⟨_, rfl, fun h => by cases h⟩, rfl⟩
            · go_wp2
              go_ret
              exact ⟨⟨_, rfl, fun h => by cases h⟩, rfl⟩
      · go_enter Try.func10, Try.ntmps10
        go_wp2
        go_ret
        exact ⟨⟨_, rfl, fun h => by cases h⟩, rfl⟩
    · go_enter Try.func10, Try.ntmps10
      go_wp2
      go_ret
      exact ⟨⟨_, rfl, fun h => by cases h⟩, rfl⟩
  · go_enter Try.func10, Try.ntmps10
    go_wp2
    go_ret
    exact ⟨⟨_, rfl, fun h => by cases h⟩, rfl⟩

end Go.Proofs.Qxb6601677a
