import Derived.Test.YbulkmauRoom
namespace Go.Proofs.Ybulkmau.lawS0631BDirect
open Go.RowKit Go.Proofs.Ybulkmau.Room

set_option maxHeartbeats 400000 in
theorem walk (a0 a1 : Int) (a2 : Bool) (w : World) :
    Calls Yba.prog 4 #[.int .i64 a0, .int .i64 a1, .bool a2] w fun e w' => e = .returned (.bool true) ∧ Grown w w' := by
  have h1 := neq_int
  have h2 := neq_nil
  have h3 := nil_nil
  cases a2
  · go_enter Yba.func4, Yba.ntmps4
    go_wp2
    go_ret
    exact ⟨rfl, by repeat (first | exact Grown.refl _ | apply Grown.drew | apply Grown.alloc)⟩
  · go_enter Yba.func4, Yba.ntmps4
    go_wp2
    go_ret
    exact ⟨rfl, by repeat (first | exact Grown.refl _ | apply Grown.drew | apply Grown.alloc)⟩
end Go.Proofs.Ybulkmau.lawS0631BDirect
