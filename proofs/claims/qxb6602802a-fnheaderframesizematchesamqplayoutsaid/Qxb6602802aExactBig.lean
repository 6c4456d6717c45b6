/-
  THE WALK OF FnPublishedHeadersExact. Own work.
-/
import Derived.Test.Qxb6602802aIns
namespace Go.Proofs.Qxb6602802a
open Go.RowKit Go.Maps

set_option maxRecDepth 100000 in
set_option maxHeartbeats 1000000 in
theorem exact_big (w : World) (id sub : ByteArray) (pp : Option Addr) (pn pc : Nat) (v : Option Nat) (m : Nat) (F : List UInt8 → Option (Option (List ByteArray))) (key : ByteArray) (kp : Option Addr) (kn kc : Nat) (x : Option (List ByteArray)) (hI : Ins w id sub pp pn pc v m F key kp kn kc x)
    (hbig : ¬ (id.size ≤ 1048576 ∧ sub.size ≤ 1048576 ∧ pn ≤ 1048576 ∧ key.size ≤ 1048576 ∧ kn ≤ 4096 ∧ m ≤ 4096)) :
    Calls Try.prog 5 #[.string id, .string sub, .slice pp pn pc, .map v, .string key, .slice kp kn kc] w fun e w' => e = .returned (.bool true) ∧ Below w.heap.size w w' := by
  have hlm := fun ty => hI.hdr.len Try.underlying23 ty
  have h1 := hI.id
  have h2 := hI.sub
  have h3 := hI.payn
  have h4 := hI.key
  have h5 := hI.keys.le
  have h6 := hI.hdrn
  unfold maxLen at h1 h2 h3 h4 h5 h6
  by_cases g1 : id.size ≤ 1048576
  · by_cases g2 : sub.size ≤ 1048576
    · by_cases g3 : pn ≤ 1048576
      · by_cases g4 : key.size ≤ 1048576
        · by_cases g5 : kn ≤ 4096
          · have g6 : 4096 < m := by omega
            clear hbig
            go_enter Try.func5, Try.ntmps5
            go_wp2
            go_ret
            exact ⟨rfl, Below.refl _ _⟩
          · clear hbig
            go_enter Try.func5, Try.ntmps5
            go_wp2
            go_ret
            exact ⟨rfl, Below.refl _ _⟩
        · clear hbig
          go_enter Try.func5, Try.ntmps5
          go_wp2
          go_ret
          exact ⟨rfl, Below.refl _ _⟩
      · clear hbig
        go_enter Try.func5, Try.ntmps5
        go_wp2
        go_ret
        exact ⟨rfl, Below.refl _ _⟩
    · clear hbig
      go_enter Try.func5, Try.ntmps5
      go_wp2
      go_ret
      exact ⟨rfl, Below.refl _ _⟩
  · clear hbig
    go_enter Try.func5, Try.ntmps5
    go_wp2
    go_ret
    exact ⟨rfl, Below.refl _ _⟩

end Go.Proofs.Qxb6602802a
