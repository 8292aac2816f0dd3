import Derived.Test.Qxb6003570aB
namespace Go.Proofs.Qxb6003570a
open Go.RowKit
open Pl (fan wid sta Pos)

set_option maxHeartbeats 400000 in
theorem newRepeating_any (w : World) (n src : Nat) (lv : Int) (hn1 : 1 ≤ n) (hn2 : n ≤ 12) (hs : src < n) (hl : lv ≤ 8) (hlo : -9223372036854775808 ≤ lv) :
    Calls Try.prog 25 #[.int .i64 (n : Int), .int .i64 (src : Int), .int .i64 lv] w fun e w' => NewEnd w n src true e w' := by
  go_enter Try.func25, Try.ntmps25
  go_wp2_with fail
  refine (newShape_any w n src lv true hn1 hn2 hs hl hlo).mono ?_
  rintro e w' ⟨b, g, cap, L, rfl, h1, h2⟩
  go_wp2_with fail
  go_ret
  exact ⟨b, g, cap, L, rfl, h1, h2⟩

set_option maxHeartbeats 400000 in
theorem newPlain_any (w : World) (n src : Nat) (lv : Int) (hn1 : 1 ≤ n) (hn2 : n ≤ 12) (hs : src < n) (hl : lv ≤ 8) (hlo : -9223372036854775808 ≤ lv) :
    Calls Try.prog 26 #[.int .i64 (n : Int), .int .i64 (src : Int), .int .i64 lv] w fun e w' => NewEnd w n src false e w' := by
  go_enter Try.func26, Try.ntmps26
  go_wp2_with fail
  refine (newShape_any w n src lv false hn1 hn2 hs hl hlo).mono ?_
  rintro e w' ⟨b, g, cap, L, rfl, h1, h2⟩
  go_wp2_with fail
  go_ret
  exact ⟨b, g, cap, L, rfl, h1, h2⟩

set_option maxHeartbeats 400000 in
theorem build_any (w : World) (n src : Nat) (lv : Int) (rep : Bool) (hn1 : 1 ≤ n) (hn2 : n ≤ 12) (hs : src < n) (hl : lv ≤ 8) (hlo : -9223372036854775808 ≤ lv) :
    Calls Try.prog 10 #[.int .i64 (n : Int), .int .i64 (src : Int), .int .i64 lv, .bool rep] w fun e w' => NewEnd w n src rep e w' := by
  cases rep
  · go_enter Try.func10, Try.ntmps10
    go_wp2_with fail
    refine (newPlain_any w n src lv hn1 hn2 hs hl hlo).mono ?_
    rintro e w' ⟨b, g, cap, L, rfl, h1, h2⟩
    go_wp2_with fail
    go_ret
    exact ⟨b, g, cap, L, rfl, h1, h2⟩
  · go_enter Try.func10, Try.ntmps10
    go_wp2_with fail
    refine (newRepeating_any w n src lv hn1 hn2 hs hl hlo).mono ?_
    rintro e w' ⟨b, g, cap, L, rfl, h1, h2⟩
    go_wp2_with fail
    go_ret
    exact ⟨b, g, cap, L, rfl, h1, h2⟩

end Go.Proofs.Qxb6003570a
