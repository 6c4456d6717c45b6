/-
  FnPublishedHeadersIdempotent, whatever the arguments. Own work.
-/
import Derived.Test.Qxb6602802aIdemK
import Derived.Test.Qxb6602802aIdemC
namespace Go.Proofs.Qxb6602802a
open Go.RowKit Go.Maps

/-- FnPublishedHeadersIdempotent: whatever the arguments: true; nothing that was there has turned. -/
theorem idem_any (w : World) (id sub : ByteArray) (pp : Option Addr) (pn pc : Nat) (v : Option Nat) (m : Nat) (F : List UInt8 → Option (Option (List ByteArray))) (key : ByteArray) (kp : Option Addr) (kn kc : Nat) (x : Option (List ByteArray)) (hI : Ins w id sub pp pn pc v m F key kp kn kc x) :
    Calls Try.prog 6 #[.string id, .string sub, .slice pp pn pc, .map v, .string key, .slice kp kn kc] w fun e w' => e = .returned (.bool true) ∧ Below w.heap.size w w' := by
  by_cases hbig : id.size ≤ 1048576 ∧ sub.size ≤ 1048576 ∧ pn ≤ 1048576 ∧ key.size ≤ 1048576 ∧ kn ≤ 4096 ∧ m ≤ 4096
  · obtain ⟨g1, g2, g3, g4, g5, g6⟩ := hbig
    cases hk : key.toList.isEmpty
    · cases hbb : (restr F (x.getD []) KH.data.toList).isSome
      · exact idem_adds w id sub pp pn pc v m F key kp kn kc x hI g1 g2 g3 g4 g5 g6 hk hbb
      · exact idem_has w id sub pp pn pc v m F key kp kn kc x hI g1 g2 g3 g4 g5 g6 hk hbb
    · exact idem_nokey w id sub pp pn pc v m F key kp kn kc x hI g1 g2 g3 g4 g5 g6 hk
  · exact idem_big w id sub pp pn pc v m F key kp kn kc x hI hbig

end Go.Proofs.Qxb6602802a
