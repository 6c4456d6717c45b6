/-
  FnHeaderFrameSizeMatchesAMQPLayout, whatever the arguments. Own work.
-/
import Derived.Test.Qxb6602802aFrameA
import Derived.Test.Qxb6602802aFrameB
namespace Go.Proofs.Qxb6602802a
open Go.RowKit Go.Maps

/-- FnHeaderFrameSizeMatchesAMQPLayout: whatever the arguments: true; nothing that was there has turned. -/
theorem frame_any (w : World) (id sub : ByteArray) (pp : Option Addr) (pn pc : Nat) (v : Option Nat) (m : Nat) (F : List UInt8 → Option (Option (List ByteArray))) (key : ByteArray) (kp : Option Addr) (kn kc : Nat) (x : Option (List ByteArray)) (hI : Ins w id sub pp pn pc v m F key kp kn kc x) :
    Calls Try.prog 3 #[.string id, .string sub, .slice pp pn pc, .map v, .string key, .slice kp kn kc] w fun e w' => e = .returned (.bool true) ∧ Below w.heap.size w w' := by
  by_cases hbig : id.size ≤ 1048576 ∧ sub.size ≤ 1048576 ∧ pn ≤ 1048576 ∧ key.size ≤ 1048576 ∧ kn ≤ 4096 ∧ m ≤ 4096
  · obtain ⟨g1, g2, g3, g4, g5, g6⟩ := hbig
    cases hk : key.toList.isEmpty
    · cases hie : id.toList.isEmpty
      · exact frame_key_id w id sub pp pn pc v m F key kp kn kc x hI g1 g2 g3 g4 g5 g6 hk hie
      · exact frame_key_noid w id sub pp pn pc v m F key kp kn kc x hI g1 g2 g3 g4 g5 g6 hk hie
    · cases hie : id.toList.isEmpty
      · exact frame_nokey_id w id sub pp pn pc v m F key kp kn kc x hI g1 g2 g3 g4 g5 g6 hk hie
      · exact frame_nokey_noid w id sub pp pn pc v m F key kp kn kc x hI g1 g2 g3 g4 g5 g6 hk hie
  · exact frame_big w id sub pp pn pc v m F key kp kn kc x hI hbig

end Go.Proofs.Qxb6602802a
