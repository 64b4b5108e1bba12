/-
  (template).accepted on an offer of one proposal.
-/
import Derived.Test.Qxb6600910aZZSa
import Derived.Test.Qxb6600910aHolds
import Derived.Test.Qxb6600910aRefl
import Derived.BigQuiet
import Derived.Deep.RegionHeld3
namespace Go.Proofs.Qxb6600910a
open Go.RowKit

set_option maxRecDepth 100000 in
set_option maxHeartbeats 1000000 in
theorem acc39_num (proto sl num : Int) (va ta sa : Option Addr) (vc tc sn sc s p : Nat) (l : List Tr) (w : World)
    (hs : SaAt w s p num proto (.slice sa sn sc) (.slice ta l.length tc)) (hn : num ≠ 1) :
    Calls Try.prog 39 #[.agg #[.int .u8 proto, .int .i64 sl, .slice va l.length vc], .pointer (some ⟨s, 0, none⟩)] w fun e w' => e = .returned (.pointer none) ∧ Below w.heap.size w w' := by
  have hn' : (num != 1) = true := by simpa using hn
  have hn2 : (num == 1) = false := by simpa using hn
  have c0 : ∀ x, (w.alloc x).cell? ⟨s, 0, none⟩ = _ := cellA hs.s0
  have c1 : ∀ x, (w.alloc x).cell? ⟨p, 0, none⟩ = _ := cellA hs.p0
  clear hs
  go_enter Try.func39, Try.ntmps39
  go_wp2
  go_quiet (fail)
  go_wp2
  go_ret
  exact ⟨rfl, below_drewN ((Below.refl _ _).alloc (Nat.le_refl _) _) _⟩

set_option maxRecDepth 100000 in
set_option maxHeartbeats 1000000 in
theorem acc39_len (proto sl : Int) (va ta sa : Option Addr) (vc tc sn sc s p : Nat) (l : List Tr) (w : World)
    (hs : SaAt w s p 1 proto (.slice sa sn sc) (.slice ta l.length tc)) (hn : (sn : Int) ≠ sl) :
    Calls Try.prog 39 #[.agg #[.int .u8 proto, .int .i64 sl, .slice va l.length vc], .pointer (some ⟨s, 0, none⟩)] w fun e w' => e = .returned (.pointer none) ∧ Below w.heap.size w w' := by
  have hn' : ((sn : Int) != sl) = true := by simpa using hn
  have hn2 : ((sn : Int) == sl) = false := by simpa using hn
  have c0 : ∀ x, (w.alloc x).cell? ⟨s, 0, none⟩ = _ := cellA hs.s0
  have c1 : ∀ x, (w.alloc x).cell? ⟨p, 0, none⟩ = _ := cellA hs.p0
  have c2 : ∀ x, (w.alloc x).cell? ⟨p, 1, none⟩ = _ := cellA hs.p1
  have c3 : ∀ x, (w.alloc x).cell? ⟨p, 2, none⟩ = _ := cellA hs.p2
  clear hs
  go_enter Try.func39, Try.ntmps39
  go_wp2
  go_quiet (fail)
  go_wp2
  go_ret
  exact ⟨rfl, below_drewN ((Below.refl _ _).alloc (Nat.le_refl _) _) _⟩
end Go.Proofs.Qxb6600910a
