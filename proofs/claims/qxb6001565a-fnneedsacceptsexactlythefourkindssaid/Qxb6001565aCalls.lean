/-
  THE WALKS of the callees of the law FnNeedsAcceptsExactlyTheFourKinds: a contract a function and a way.
-/
import Derived.Test.Qxb6001565aRows
import Derived.WalkKit
import Derived.WalkSpells
import Derived.WalkLawsBesides
namespace Go.Proofs.Qxb6001565a.Callees
open Go.RowKit

/-- 'zzBytes_..': is the string at most 1<<20 bytes? -/
theorem bytes_any (s : ByteArray) (hs : s.size ≤ maxLen) (w : World) :
    Calls Try.prog 6 #[.string s] w fun e w' => e = .returned (.bool (decide (s.size ≤ 1048576))) ∧ w' = w := by
  unfold maxLen at hs
  by_cases h : s.size ≤ 1048576
  · rw [decide_eq_true h]
    go_enter Try.func6, Try.ntmps6
    go_wp2
    go_ret
    exact ⟨rfl, rfl⟩
  · rw [decide_eq_false h]
    go_enter Try.func6, Try.ntmps6
    go_wp2
    go_ret
    exact ⟨rfl, rfl⟩

/-- 'needs', through 'ZZNeeds': the kinds "bonus" and "consolidation" -/
theorem needs_bonus (s : ByteArray) (h1 : (s.toList == [98, 111, 110, 117, 115]) = true) (w : World) :
    Calls Try.prog 7 #[.string s] w fun e w' => e = .returned (.slice (some ⟨w.heap.size, 0, none⟩) 1 1) ∧ w' = w.alloc (.cells #[.string ⟨#[110]⟩] 9) := by
  go_enter Try.func7, Try.ntmps7
  go_wp2
  go_ret
  exact ⟨rfl, rfl⟩
theorem needs_cons (s : ByteArray) (h1 : (s.toList == [98, 111, 110, 117, 115]) = false) (h2 : (s.toList == [99, 111, 110, 115, 111, 108, 105, 100, 97, 116, 105, 111, 110]) = true) (w : World) :
    Calls Try.prog 7 #[.string s] w fun e w' => e = .returned (.slice (some ⟨w.heap.size, 0, none⟩) 1 1) ∧ w' = w.alloc (.cells #[.string ⟨#[110]⟩] 9) := by
  go_enter Try.func7, Try.ntmps7
  go_wp2
  go_ret
  exact ⟨rfl, rfl⟩
theorem needs_rights (s : ByteArray) (h1 : (s.toList == [98, 111, 110, 117, 115]) = false) (h2 : (s.toList == [99, 111, 110, 115, 111, 108, 105, 100, 97, 116, 105, 111, 110]) = false) (h3 : (s.toList == [114, 105, 103, 104, 116, 115]) = true) (w : World) :
    Calls Try.prog 7 #[.string s] w fun e w' => e = .returned (.slice (some ⟨w.heap.size, 0, none⟩) 3 3) ∧ w' = w.alloc (.cells #[.string ⟨#[110]⟩, .string ⟨#[112, 49]⟩, .string ⟨#[112, 50]⟩] 9) := by
  go_enter Try.func7, Try.ntmps7
  go_wp2
  go_ret
  exact ⟨rfl, rfl⟩
theorem needs_dividend (s : ByteArray) (h1 : (s.toList == [98, 111, 110, 117, 115]) = false) (h2 : (s.toList == [99, 111, 110, 115, 111, 108, 105, 100, 97, 116, 105, 111, 110]) = false) (h3 : (s.toList == [114, 105, 103, 104, 116, 115]) = false) (h4 : (s.toList == [100, 105, 118, 105, 100, 101, 110, 100]) = true) (w : World) :
    Calls Try.prog 7 #[.string s] w fun e w' => e = .returned (.slice (some ⟨w.heap.size, 0, none⟩) 1 1) ∧ w' = w.alloc (.cells #[.string ⟨#[118]⟩] 9) := by
  go_enter Try.func7, Try.ntmps7
  go_wp2
  go_ret
  exact ⟨rfl, rfl⟩
theorem needs_none (s : ByteArray) (h1 : (s.toList == [98, 111, 110, 117, 115]) = false) (h2 : (s.toList == [99, 111, 110, 115, 111, 108, 105, 100, 97, 116, 105, 111, 110]) = false) (h3 : (s.toList == [114, 105, 103, 104, 116, 115]) = false) (h4 : (s.toList == [100, 105, 118, 105, 100, 101, 110, 100]) = false) (w : World) :
    Calls Try.prog 7 #[.string s] w fun e w' => e = .returned (.slice none 0 0) ∧ w' = w := by
  go_enter Try.func7, Try.ntmps7
  go_wp2
  go_ret
  exact ⟨rfl, rfl⟩

/-- 'isKnownKind' -/
def knownB (l : List UInt8) : Bool := l == [98, 111, 110, 117, 115] || l == [99, 111, 110, 115, 111, 108, 105, 100, 97, 116, 105, 111, 110] || l == [114, 105, 103, 104, 116, 115] || l == [100, 105, 118, 105, 100, 101, 110, 100]
theorem known_yes (s : ByteArray) (h : knownB s.toList = true) (w : World) :
    Calls Try.prog 8 #[.string s] w fun e w' => e = .returned (.bool true) ∧ w' = w := by
  have H : Hid (knownB s.toList = true) := h
  clear h
  go_enter Try.func8, Try.ntmps8
  go_wp2
  all_goals
    go_ret
    first | exact ⟨rfl, rfl⟩ | skip
  have h := H.out
  unfold knownB at h
  exact ⟨by rw [← h]; rfl, rfl⟩
theorem known_no (s : ByteArray) (h : knownB s.toList = false) (w : World) :
    Calls Try.prog 8 #[.string s] w fun e w' => e = .returned (.bool false) ∧ w' = w := by
  simp only [knownB, Bool.or_eq_false_iff] at h
  obtain ⟨⟨⟨h1, h2⟩, h3⟩, h4⟩ := h
  go_enter Try.func8, Try.ntmps8
  go_wp2
  go_ret
  exact ⟨rfl, rfl⟩

/-- 'isValueKey' at the keys that are met -/
theorem key_n (w : World) : Calls Try.prog 9 #[.string ⟨#[110]⟩] w fun e w' => e = .returned (.bool true) ∧ w' = w := by
  go_enter Try.func9, Try.ntmps9
  go_wp2
  go_ret
  exact ⟨rfl, rfl⟩
theorem key_p1 (w : World) : Calls Try.prog 9 #[.string ⟨#[112, 49]⟩] w fun e w' => e = .returned (.bool true) ∧ w' = w := by
  go_enter Try.func9, Try.ntmps9
  go_wp2
  go_ret
  exact ⟨rfl, rfl⟩
theorem key_p2 (w : World) : Calls Try.prog 9 #[.string ⟨#[112, 50]⟩] w fun e w' => e = .returned (.bool true) ∧ w' = w := by
  go_enter Try.func9, Try.ntmps9
  go_wp2
  go_ret
  exact ⟨rfl, rfl⟩
theorem key_v (w : World) : Calls Try.prog 9 #[.string ⟨#[118]⟩] w fun e w' => e = .returned (.bool true) ∧ w' = w := by
  go_enter Try.func9, Try.ntmps9
  go_wp2
  go_ret
  exact ⟨rfl, rfl⟩

end Go.Proofs.Qxb6001565a.Callees
