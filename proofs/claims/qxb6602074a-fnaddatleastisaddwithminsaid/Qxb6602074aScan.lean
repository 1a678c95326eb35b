/-
  WALKS OF THE SEAT b6602074a: 'Scan', 'ZZReq', the bound on total length.
-/
import Derived.Test.Qxb6602074aRows
import Derived.WalkKit
import Derived.Below
import Derived.RowKit3
import Derived.WalkLawsBesides
namespace Go.Proofs.Qxb6602074a
open Go.RowKit

theorem scan_zero (s t : ByteArray) (w : World) :
    Calls Try.prog 7 #[.string s, .string t, .int .i64 0] w fun e w' =>
      e = .returned (.agg #[.string ⟨#[115, 99, 97, 110]⟩, .pointer none, .pointer none, .pointer (some ⟨w.heap.size, 0, none⟩), .pointer (some ⟨w.heap.size + 1, 0, none⟩), .pointer none, .pointer none, .pointer none]) ∧
      w' = ((((w.alloc (.cells #[.string s] 9)).alloc (.cells #[.string t] 9)).alloc (.cells #[.int .i64 0] 3)).alloc
        (.cells #[.string ⟨#[115, 99, 97, 110]⟩, .pointer none, .pointer none, .pointer (some ⟨w.heap.size, 0, none⟩), .pointer (some ⟨w.heap.size + 1, 0, none⟩), .pointer none, .pointer none, .pointer none] 30)).alloc
        (.cells #[.string ⟨#[115, 99, 97, 110]⟩, .pointer none, .pointer none, .pointer (some ⟨w.heap.size, 0, none⟩), .pointer (some ⟨w.heap.size + 1, 0, none⟩), .pointer none, .pointer none, .pointer none] 30) := by
  go_enter Try.func7, Try.ntmps7
  go_wp2
  exact bodyPost_ret (v := .agg #[.string ⟨#[115, 99, 97, 110]⟩, .pointer none, .pointer none, .pointer (some ⟨w.heap.size, 0, none⟩), .pointer (some ⟨w.heap.size + 1, 0, none⟩), .pointer none, .pointer none, .pointer none]) (by simp [results, Try.results7, go_sem]) rfl ⟨rfl, rfl⟩
theorem scan_lim (s t : ByteArray) (n : Int) (hn : (n != 0) = true) (w : World) :
    Calls Try.prog 7 #[.string s, .string t, .int .i64 n] w fun e w' =>
      e = .returned (.agg #[.string ⟨#[115, 99, 97, 110]⟩, .pointer none, .pointer none, .pointer (some ⟨w.heap.size, 0, none⟩), .pointer (some ⟨w.heap.size + 1, 0, none⟩), .pointer (some ⟨w.heap.size + 1 + 1, 0, none⟩), .pointer none, .pointer none]) ∧
      w' = ((((w.alloc (.cells #[.string s] 9)).alloc (.cells #[.string t] 9)).alloc (.cells #[.int .i64 n] 3)).alloc
        (.cells #[.string ⟨#[115, 99, 97, 110]⟩, .pointer none, .pointer none, .pointer (some ⟨w.heap.size, 0, none⟩), .pointer (some ⟨w.heap.size + 1, 0, none⟩), .pointer (some ⟨w.heap.size + 1 + 1, 0, none⟩), .pointer none, .pointer none] 30)).alloc
        (.cells #[.string ⟨#[115, 99, 97, 110]⟩, .pointer none, .pointer none, .pointer (some ⟨w.heap.size, 0, none⟩), .pointer (some ⟨w.heap.size + 1, 0, none⟩), .pointer (some ⟨w.heap.size + 1 + 1, 0, none⟩), .pointer none, .pointer none] 30) := by
  go_enter Try.func7, Try.ntmps7
  go_wp2
  exact bodyPost_ret (v := .agg #[.string ⟨#[115, 99, 97, 110]⟩, .pointer none, .pointer none, .pointer (some ⟨w.heap.size, 0, none⟩), .pointer (some ⟨w.heap.size + 1, 0, none⟩), .pointer (some ⟨w.heap.size + 1 + 1, 0, none⟩), .pointer none, .pointer none]) (by simp [results, Try.results7, go_sem]) rfl ⟨rfl, rfl⟩
theorem zzreq (s : ByteArray) (p1 p2 p3 p4 p5 p6 p7 : Option Addr) (w : World) :
    Calls Try.prog 6 #[.agg #[.string s, .pointer p1, .pointer p2, .pointer p3, .pointer p4, .pointer p5, .pointer p6, .pointer p7]] w fun e w' =>
      e = .returned (.agg #[.string s, .pointer p1, .pointer p2, .pointer p3, .pointer p4, .pointer p5, .pointer p6, .pointer p7]) ∧
      w' = (w.alloc (.cells #[.string s, .pointer p1, .pointer p2, .pointer p3, .pointer p4, .pointer p5, .pointer p6, .pointer p7] 30)).alloc (.cells #[.string s, .pointer p1, .pointer p2, .pointer p3, .pointer p4, .pointer p5, .pointer p6, .pointer p7] 27) := by
  go_enter Try.func6, Try.ntmps6
  go_wp2
  exact bodyPost_ret (v := .agg #[.string s, .pointer p1, .pointer p2, .pointer p3, .pointer p4, .pointer p5, .pointer p6, .pointer p7]) (by simp [results, Try.results6, go_sem]) rfl ⟨rfl, rfl⟩

theorem bytes5_any (s t : ByteArray) (n : Int) (w : World) (hs : s.size ≤ maxLen) (ht : t.size ≤ maxLen) :
    Calls Try.prog 5 #[.string s, .string t, .int .i64 n] w fun e w' => e = .returned (.bool (decide (s.size + t.size ≤ 1048576))) ∧ w' = w := by
  unfold maxLen at hs ht
  by_cases h : s.size + t.size ≤ 1048576
  · go_enter Try.func5, Try.ntmps5
    go_wp2
    go_ret
    exact ⟨by simp [h], rfl⟩
  · by_cases h1 : s.size ≤ 1048576
    · by_cases h2 : t.size ≤ 1048576
      · go_enter Try.func5, Try.ntmps5
        go_wp2
        go_ret
        exact ⟨by simp [h], rfl⟩
      · go_enter Try.func5, Try.ntmps5
        go_wp2
        go_ret
        exact ⟨by simp [h], rfl⟩
    · go_enter Try.func5, Try.ntmps5
      go_wp2
      go_ret
      exact ⟨by simp [h], rfl⟩
end Go.Proofs.Qxb6602074a
