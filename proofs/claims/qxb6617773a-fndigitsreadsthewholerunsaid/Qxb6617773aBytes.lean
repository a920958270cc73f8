/-
  THE WALKS OF THE FOUR 'zzBytes_..' (7, 11, 14, 15): what they let by is small.
-/
import Derived.Test.Qxb6617773aRows
import Derived.WalkKit
import Derived.ProofKit
import Derived.Below
import Derived.WalkSmall
import Derived.Deep.LoopGhost
namespace Go.Proofs.Qxb6617773a
open Go.ChangeShapes Go.WideShapes Go.ChangeAt Go.RowKit

/-- WHAT THE WALK IS TOLD OF A SLICE OF STRINGS: its 'len' elements are the strings 'ss' (a nil slice: none). -/
def IsStrs (w : World) (a : Option Addr) (len : Nat) (ss : List ByteArray) : Prop :=
  ∀ i, i < len → ∃ b off, a = some ⟨b, off, none⟩ ∧ b < w.heap.size ∧ w.cell? ⟨b, off + i, none⟩ = some (.string (ss.getD i ByteArray.empty))

/-- What the four let by: every length is at most a million or so. -/
def Small (s : ByteArray) (len : Nat) (ss : List ByteArray) : Prop := s.size ≤ 1048576 ∧ len ≤ 1048576 ∧ ∀ i, i < len → (ss.getD i ByteArray.empty).size ≤ 1048576

/-- What each of the four answers: no; or yes, and all is small. -/
def Judged (s : ByteArray) (len : Nat) (ss : List ByteArray) (w : World) (e : Ending) (w' : World) : Prop :=
  (e = .returned (.bool false) ∨ (e = .returned (.bool true) ∧ Small s len ss)) ∧ w' = w
theorem Judged.no {s : ByteArray} {len : Nat} {ss : List ByteArray} {w : World} : Judged s len ss w (.returned (.bool false)) w := ⟨.inl rfl, rfl⟩
theorem Judged.yes {s : ByteArray} {len : Nat} {ss : List ByteArray} {w : World} (h : Small s len ss) : Judged s len ss w (.returned (.bool true)) w := ⟨.inr ⟨rfl, h⟩, rfl⟩

set_option maxHeartbeats 1000000 in
theorem bytes14 (s : ByteArray) (pos dep k : Int) (ka : Option Addr) (len cap : Nat) (ss : List ByteArray) (w : World) (hs : s.size ≤ maxLen) (hl : len ≤ maxLen) (hss : ∀ i, i < len → (ss.getD i ByteArray.empty).size ≤ maxLen)
    (hc : IsStrs w ka len ss) :
    Calls Try.prog 14 #[.string s, .int .i64 pos, .int .i64 dep, .slice ka len cap, .int .i64 k] w (Judged s len ss w) := by
  unfold maxLen at hs hl hss
  by_cases h1 : s.size ≤ 1048576
  · by_cases h2 : len ≤ 1048576
    · by_cases h3 : s.size + len ≤ 1048576
      · have HC : Hid (IsStrs w ka len ss) := hc
        have HSS : Hid (∀ i, i < len → (ss.getD i ByteArray.empty).size ≤ 2 ^ 63 - 1) := hss
        clear hc hss
        go_enter Try.func14, Try.ntmps14
        go_wp2
        go_loop [11, 12] (fun n i => ∃ j : Nat, j ≤ len ∧ i = .int .i64 j ∧ (∃ m : Nat, m ≤ 1048576 ∧ n = .int .i64 m) ∧ Hid (∀ i, i < j → (ss.getD i ByteArray.empty).size ≤ 1048576)) (fun _ i => len - (intOf i).toNat)
        case atStart => exact ⟨0, Nat.zero_le _, rfl, ⟨s.size + len, h3, by simp⟩, fun i hi => by omega⟩
        case round =>
          obtain ⟨j, hj, rfl, ⟨m, hm, rfl⟩, hall⟩ := hrel
          by_cases hlt : j < len
          · obtain ⟨b, off, rfl, _, hcj⟩ := HC.out j hlt
            have hsj := HSS.out j hlt
            obtain ⟨x, hx⟩ : ∃ x, x = ss.getD j ByteArray.empty := ⟨_, rfl⟩
            rw [← hx] at hcj hsj
            have HX : Hid (x = ss.getD j ByteArray.empty) := hx
            clear hx
            go_wp2
            · go_ret
              exact Judged.no
            · go_ret
              exact Judged.no
            · have hxs : (x.size : Int) ≤ 1048576 := by assumption
              have hms : (m : Int) + (x.size : Int) ≤ 1048576 := by assumption
              go_round
              case rel =>
                refine ⟨j + 1, by omega, by go_num, ⟨m + x.size, by omega, by go_num⟩, fun i hi => ?_⟩
                by_cases e : i = j
                · subst e; rw [← HX.out]; omega
                · exact hall.out i (by omega)
              case measure => simp [intOf]; omega
          · go_wp2
            go_ret
            exact Judged.yes ⟨h1, h2, fun i hi => hall.out i (by omega)⟩
      · go_enter Try.func14, Try.ntmps14
        go_wp2
        go_ret
        exact Judged.no
    · go_enter Try.func14, Try.ntmps14
      go_wp2
      go_ret
      exact Judged.no
  · go_enter Try.func14, Try.ntmps14
    go_wp2
    go_ret
    exact Judged.no

set_option maxHeartbeats 1000000 in
theorem bytes15 (s : ByteArray) (pos dep k : Int) (ka : Option Addr) (len cap : Nat) (ss : List ByteArray) (w : World) (hs : s.size ≤ maxLen) (hl : len ≤ maxLen) (hss : ∀ i, i < len → (ss.getD i ByteArray.empty).size ≤ maxLen)
    (hc : IsStrs w ka len ss) :
    Calls Try.prog 15 #[.string s, .int .i64 pos, .int .i64 dep, .slice ka len cap, .int .i64 k] w (Judged s len ss w) := by
  unfold maxLen at hs hl hss
  by_cases h1 : s.size ≤ 1048576
  · by_cases h2 : len ≤ 1048576
    · by_cases h3 : s.size + len ≤ 1048576
      · have HC : Hid (IsStrs w ka len ss) := hc
        have HSS : Hid (∀ i, i < len → (ss.getD i ByteArray.empty).size ≤ 2 ^ 63 - 1) := hss
        clear hc hss
        go_enter Try.func15, Try.ntmps15
        go_wp2
        go_loop [11, 12] (fun n i => ∃ j : Nat, j ≤ len ∧ i = .int .i64 j ∧ (∃ m : Nat, m ≤ 1048576 ∧ n = .int .i64 m) ∧ Hid (∀ i, i < j → (ss.getD i ByteArray.empty).size ≤ 1048576)) (fun _ i => len - (intOf i).toNat)
        case atStart => exact ⟨0, Nat.zero_le _, rfl, ⟨s.size + len, h3, by simp⟩, fun i hi => by omega⟩
        case round =>
          obtain ⟨j, hj, rfl, ⟨m, hm, rfl⟩, hall⟩ := hrel
          by_cases hlt : j < len
          · obtain ⟨b, off, rfl, _, hcj⟩ := HC.out j hlt
            have hsj := HSS.out j hlt
            obtain ⟨x, hx⟩ : ∃ x, x = ss.getD j ByteArray.empty := ⟨_, rfl⟩
            rw [← hx] at hcj hsj
            have HX : Hid (x = ss.getD j ByteArray.empty) := hx
            clear hx
            go_wp2
            · go_ret
              exact Judged.no
            · go_ret
              exact Judged.no
            · have hxs : (x.size : Int) ≤ 1048576 := by assumption
              have hms : (m : Int) + (x.size : Int) ≤ 1048576 := by assumption
              go_round
              case rel =>
                refine ⟨j + 1, by omega, by go_num, ⟨m + x.size, by omega, by go_num⟩, fun i hi => ?_⟩
                by_cases e : i = j
                · subst e; rw [← HX.out]; omega
                · exact hall.out i (by omega)
              case measure => simp [intOf]; omega
          · go_wp2
            go_ret
            exact Judged.yes ⟨h1, h2, fun i hi => hall.out i (by omega)⟩
      · go_enter Try.func15, Try.ntmps15
        go_wp2
        go_ret
        exact Judged.no
    · go_enter Try.func15, Try.ntmps15
      go_wp2
      go_ret
      exact Judged.no
  · go_enter Try.func15, Try.ntmps15
    go_wp2
    go_ret
    exact Judged.no

set_option maxHeartbeats 1000000 in
theorem bytes7 (s : ByteArray) (pos dep : Int) (ka : Option Addr) (len cap : Nat) (ss : List ByteArray) (w : World) (hs : s.size ≤ maxLen) (hl : len ≤ maxLen) (hss : ∀ i, i < len → (ss.getD i ByteArray.empty).size ≤ maxLen)
    (hc : IsStrs w ka len ss) :
    Calls Try.prog 7 #[.string s, .int .i64 pos, .int .i64 dep, .slice ka len cap] w (Judged s len ss w) := by
  unfold maxLen at hs hl hss
  by_cases h1 : s.size ≤ 1048576
  · by_cases h2 : len ≤ 1048576
    · by_cases h3 : s.size + len ≤ 1048576
      · have HC : Hid (IsStrs w ka len ss) := hc
        have HSS : Hid (∀ i, i < len → (ss.getD i ByteArray.empty).size ≤ 2 ^ 63 - 1) := hss
        clear hc hss
        go_enter Try.func7, Try.ntmps7
        go_wp2
        go_loop [9, 10] (fun n i => ∃ j : Nat, j ≤ len ∧ i = .int .i64 j ∧ (∃ m : Nat, m ≤ 1048576 ∧ n = .int .i64 m) ∧ Hid (∀ i, i < j → (ss.getD i ByteArray.empty).size ≤ 1048576)) (fun _ i => len - (intOf i).toNat)
        case atStart => exact ⟨0, Nat.zero_le _, rfl, ⟨s.size + len, h3, by simp⟩, fun i hi => by omega⟩
        case round =>
          obtain ⟨j, hj, rfl, ⟨m, hm, rfl⟩, hall⟩ := hrel
          by_cases hlt : j < len
          · obtain ⟨b, off, rfl, _, hcj⟩ := HC.out j hlt
            have hsj := HSS.out j hlt
            obtain ⟨x, hx⟩ : ∃ x, x = ss.getD j ByteArray.empty := ⟨_, rfl⟩
            rw [← hx] at hcj hsj
            have HX : Hid (x = ss.getD j ByteArray.empty) := hx
            clear hx
            go_wp2
            · go_ret
              exact Judged.no
            · go_ret
              exact Judged.no
            · have hxs : (x.size : Int) ≤ 1048576 := by assumption
              have hms : (m : Int) + (x.size : Int) ≤ 1048576 := by assumption
              go_round
              case rel =>
                refine ⟨j + 1, by omega, by go_num, ⟨m + x.size, by omega, by go_num⟩, fun i hi => ?_⟩
                by_cases e : i = j
                · subst e; rw [← HX.out]; omega
                · exact hall.out i (by omega)
              case measure => simp [intOf]; omega
          · go_wp2
            go_ret
            exact Judged.yes ⟨h1, h2, fun i hi => hall.out i (by omega)⟩
      · go_enter Try.func7, Try.ntmps7
        go_wp2
        go_ret
        exact Judged.no
    · go_enter Try.func7, Try.ntmps7
      go_wp2
      go_ret
      exact Judged.no
  · go_enter Try.func7, Try.ntmps7
    go_wp2
    go_ret
    exact Judged.no

set_option maxHeartbeats 1000000 in
theorem bytes11 (s : ByteArray) (pos dep : Int) (ka : Option Addr) (len cap : Nat) (ss : List ByteArray) (w : World) (hs : s.size ≤ maxLen) (hl : len ≤ maxLen) (hss : ∀ i, i < len → (ss.getD i ByteArray.empty).size ≤ maxLen)
    (hc : IsStrs w ka len ss) :
    Calls Try.prog 11 #[.string s, .int .i64 pos, .int .i64 dep, .slice ka len cap] w (Judged s len ss w) := by
  unfold maxLen at hs hl hss
  by_cases h1 : s.size ≤ 1048576
  · by_cases h2 : len ≤ 1048576
    · by_cases h3 : s.size + len ≤ 1048576
      · have HC : Hid (IsStrs w ka len ss) := hc
        have HSS : Hid (∀ i, i < len → (ss.getD i ByteArray.empty).size ≤ 2 ^ 63 - 1) := hss
        clear hc hss
        go_enter Try.func11, Try.ntmps11
        go_wp2
        go_loop [9, 10] (fun n i => ∃ j : Nat, j ≤ len ∧ i = .int .i64 j ∧ (∃ m : Nat, m ≤ 1048576 ∧ n = .int .i64 m) ∧ Hid (∀ i, i < j → (ss.getD i ByteArray.empty).size ≤ 1048576)) (fun _ i => len - (intOf i).toNat)
        case atStart => exact ⟨0, Nat.zero_le _, rfl, ⟨s.size + len, h3, by simp⟩, fun i hi => by omega⟩
        case round =>
          obtain ⟨j, hj, rfl, ⟨m, hm, rfl⟩, hall⟩ := hrel
          by_cases hlt : j < len
          · obtain ⟨b, off, rfl, _, hcj⟩ := HC.out j hlt
            have hsj := HSS.out j hlt
            obtain ⟨x, hx⟩ : ∃ x, x = ss.getD j ByteArray.empty := ⟨_, rfl⟩
            rw [← hx] at hcj hsj
            have HX : Hid (x = ss.getD j ByteArray.empty) := hx
            clear hx
            go_wp2
            · go_ret
              exact Judged.no
            · go_ret
              exact Judged.no
            · have hxs : (x.size : Int) ≤ 1048576 := by assumption
              have hms : (m : Int) + (x.size : Int) ≤ 1048576 := by assumption
              go_round
              case rel =>
                refine ⟨j + 1, by omega, by go_num, ⟨m + x.size, by omega, by go_num⟩, fun i hi => ?_⟩
                by_cases e : i = j
                · subst e; rw [← HX.out]; omega
                · exact hall.out i (by omega)
              case measure => simp [intOf]; omega
          · go_wp2
            go_ret
            exact Judged.yes ⟨h1, h2, fun i hi => hall.out i (by omega)⟩
      · go_enter Try.func11, Try.ntmps11
        go_wp2
        go_ret
        exact Judged.no
    · go_enter Try.func11, Try.ntmps11
      go_wp2
      go_ret
      exact Judged.no
  · go_enter Try.func11, Try.ntmps11
    go_wp2
    go_ret
    exact Judged.no

end Go.Proofs.Qxb6617773a
