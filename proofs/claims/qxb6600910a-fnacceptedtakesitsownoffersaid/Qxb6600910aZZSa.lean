/-
  (template).sa whatever the transforms; ZZSa.
-/
import Derived.Test.Qxb6600910aSa
namespace Go.Proofs.Qxb6600910a
open Go.RowKit

theorem sa41 {ok : Nat → Prop} (proto sl num : Int) (v : Value) (l : List Tr) (sa : Option Addr) (sn sc : Nat) (w : World) (h : TrsIn ok w v l) (hs : Small l) :
    Calls Try.prog 41 #[.agg #[.int .u8 proto, .int .i64 sl, v], .int .u8 num, .slice sa sn sc] w (SaRes w l num proto (.slice sa sn sc)) := by
  rcases h with ⟨rfl, rfl⟩ | ⟨b, o, s, cap, rfl, h1, h2, h3⟩
  · exact sa41_nil proto sl num sa sn sc w
  · exact sa41_some proto sl num ⟨b, o, s⟩ l.length cap l sa sn sc w (.inr ⟨b, o, s, cap, rfl, h1, h2, h3⟩) hs

set_option maxHeartbeats 400000 in
theorem zzsa27 {ok : Nat → Prop} (proto sl num : Int) (v : Value) (l : List Tr) (sa : Option Addr) (sn sc : Nat) (w : World) (h : TrsIn ok w v l) (hs : Small l) :
    Calls Try.prog 27 #[.int .u8 proto, .int .i64 sl, v, .int .u8 num, .slice sa sn sc] w (SaRes w l num proto (.slice sa sn sc)) := by
  have hc := hide (sa41 proto sl num v l sa sn sc w h hs)
  obtain ⟨va, vc, rfl, _⟩ := h.form
  clear h hs
  go_enter Try.func27, Try.ntmps27
  go_wp2_with fail
  refine (unhide hc).mono ?_
  rintro e w' ⟨s, p, vt, rfl, h1⟩
  have R : Hid (SaRes w l num proto (.slice sa sn sc) (.returned (.pointer (some ⟨s, 0, none⟩))) w') := ⟨s, p, vt, rfl, h1⟩
  clear h1 hc
  go_wp2
  go_ret
  exact R.out
end Go.Proofs.Qxb6600910a
