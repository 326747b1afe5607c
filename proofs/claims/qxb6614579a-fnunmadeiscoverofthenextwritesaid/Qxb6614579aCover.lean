/-
  Seat b6614579a: FnUnmadeIsCoverOfTheNextWrite (5): the walk.
-/
import Derived.Test.Qxb6614579aBytes
import Derived.Test.Qxb6614579aLook
import Derived.OpenShut
namespace Go.Proofs.Qxb6614579a
open Go.RowKit Go.Maps

set_option maxHeartbeats 1000000 in
theorem cover (a0 a1 : Option Addr) (ss : List ByteArray) (zs : List Int) (cap0 cap1 : Nat) (inc : ByteArray) (sy ma : Int) (w : World) (hs : Strs w.heap.size w a0 ss) (hz : Words w.heap.size w a1 zs) (hi : inc.size ≤ maxLen) (hm0 : 0 ≤ ma) (hm1 : ma ≤ 18446744073709551615) :
    Calls Try.prog 5 #[.slice a0 ss.length cap0, .slice a1 zs.length cap1, .string inc, .int .u64 sy, .int .u64 ma] w fun e w' => e = .returned (.bool true) ∧ Below w.heap.size w w' := by
  have HS : Hid (Strs w.heap.size w a0 ss) := hs
  have HZ : Hid (Words w.heap.size w a1 zs) := hz
  have HI : Hid (inc.size ≤ maxLen) := hi
  clear hs hz hi
  by_cases hl0 : 4096 < (ss.length : Int)
  · go_enter Try.func5, Try.ntmps5
    go_wp2_with fail
    refine (bytes21 a0 a1 ss zs cap0 cap1 inc sy ma _ _ HS.out HZ.out HI.out).mono ?_
    rintro e w1 ⟨⟨b, rfl⟩, rfl⟩
    cases b
    all_goals
      go_wp2
      go_ret
      exact ⟨rfl, Below.refl _ _⟩
  by_cases hl1 : 4096 < (zs.length : Int)
  · go_enter Try.func5, Try.ntmps5
    go_wp2_with fail
    refine (bytes21 a0 a1 ss zs cap0 cap1 inc sy ma _ _ HS.out HZ.out HI.out).mono ?_
    rintro e w1 ⟨⟨b, rfl⟩, rfl⟩
    cases b
    all_goals
      go_wp2
      go_ret
      exact ⟨rfl, Below.refl _ _⟩
  have hd0 : decide (4096 < (ss.length : Int)) = false := by simpa using hl0
  have hd1 : decide (4096 < (zs.length : Int)) = false := by simpa using hl1
  go_enter Try.func5, Try.ntmps5
  go_wp2_with fail
  refine (bytes21 a0 a1 ss zs cap0 cap1 inc sy ma _ _ HS.out HZ.out HI.out).mono ?_
  rintro e w1 ⟨⟨b, rfl⟩, rfl⟩
  cases b
  · go_wp2
    go_ret
    exact ⟨rfl, Below.refl _ _⟩
  go_wp2_with fail
  refine (unmadeBytes a0 a1 ss zs cap0 cap1 inc _ _ HS.out HZ.out HI.out).mono ?_
  rintro e w1 ⟨⟨r, rfl⟩, rfl⟩
  by_cases hr : 1048576 < r
  · go_wp2
    go_ret
    exact ⟨rfl, Below.refl _ _⟩
  have hdr : decide (1048576 < r) = false := by simpa using hr
  go_wp2_with fail
  refine (version a0 a1 ss zs cap0 cap1 _ _ (Nat.le_refl _) HS.out HZ.out).mono ?_
  rintro e w2 ⟨rfl, hv2, hb2⟩
  go_wp2_with fail
  have hx := (hv2.look Try.underlying31 HI.out).2
  have hv3 := hv2.alloc (Obj.cells #[Value.string inc, Value.int IntKind.u64 sy, Value.int IntKind.u64 ma] 47)
  have hb3 := hb2.alloc hb2.size (Obj.cells #[Value.string inc, Value.int IntKind.u64 sy, Value.int IntKind.u64 ma] 47)
  clear hv2 hb2
  refine (unmade inc sy ma w1.heap.size _ _ _ hv3 HI.out).mono ?_
  rintro e w3 ⟨rfl, hb⟩
  have hv4 := hv3.below hb hv3.lt
  have hb4 := hb3.trans (hb.mono hb3.size)
  clear hb hv3 hb3
  obtain ⟨f, hf⟩ : ∃ f, f = lkTo ss zs (min ss.length zs.length) := ⟨_, rfl⟩
  have HF : Hid (f = lkTo ss zs (min ss.length zs.length)) := hf
  rw [← hf] at hx hv4
  rw [← hf]
  clear hf
  obtain ⟨x, hxx⟩ : ∃ x, x = (f inc).getD 0 := ⟨_, rfl⟩
  have HX : Hid (x = (f inc).getD 0) := hxx
  rw [← hxx] at hx
  rw [← hxx]
  clear hxx
  obtain ⟨hx0, hx1⟩ := bounds_u64 hx
  clear hx
  -- the lookup and what follows, for whatever 'agree' is, true
  by_cases hmx : ma = 18446744073709551615
  · have hg : decide (ma < x) = false := decide_eq_false (by omega)
    have hmq : (ma != 18446744073709551615) = false := by simpa using hmx
    have hmx' : 18446744073709551615 ≤ ma := by omega
    clear hmx
    go_wp2_with fail
    refine (lookup a0 a1 ss zs cap0 cap1 inc _ w1.heap.size (HS.out.below hb4) (HZ.out.below hb4)).mono ?_
    rintro e w6 ⟨rfl, hw6⟩
    subst hw6
    rw [← HF.out, ← HX.out]
    by_cases hp : 0 < x
    · have hdx : decide (0 < x) = true := decide_eq_true hp
      go_wp2_with fail
      have hv7 := (hv4.alloc (Obj.cells #[Value.string inc, Value.int IntKind.u64 sy, Value.int IntKind.u64 x] 47)).alloc (Obj.cells #[Value.string inc, Value.int IntKind.u64 sy, Value.int IntKind.u64 (x - 1)] 47)
      refine (unmade inc sy (x - 1) w1.heap.size _ _ _ hv7 HI.out).mono ?_
      rintro e w7 ⟨rfl, hb7⟩
      rw [← HX.out]
      have ht : decide (x - 1 < x) = true := decide_eq_true (by omega)
      rw [ht]
      clear ht
      have hv8 := hv7.below hb7 hv7.lt
      have o0 : w7.cell? ⟨w6.heap.size, 0, none⟩ = some (.string inc) := (hb7.cell (p := ⟨w6.heap.size, 0, none⟩) (by simp; omega)).trans (by simp)
      have o1 : w7.cell? ⟨w6.heap.size, 0 + 1, none⟩ = some (.int .u64 sy) := (hb7.cell (p := ⟨w6.heap.size, 0 + 1, none⟩) (by simp; omega)).trans (by simp)
      have o2 : w7.cell? ⟨w6.heap.size, 0 + 2, none⟩ = some (.int .u64 x) := (hb7.cell (p := ⟨w6.heap.size, 0 + 2, none⟩) (by simp; omega)).trans (by simp)
      have hb8 : Below w1.heap.size w1 w7 := ((hb4.alloc hb4.size _).alloc (by have := hb4.size; simp; omega) _).trans (hb7.mono (by have := hb4.size; simp; omega))
      have hz7 : w6.heap.size < w7.heap.size := by have := hb7.size; simp at this; omega
      clear hv7 hb7 hb4 hv4
      go_wp2_with fail
      refine (unmade inc sy x w1.heap.size _ _ _ hv8 HI.out).mono ?_
      rintro e w8 ⟨rfl, hb9⟩
      rw [← HX.out]
      have ht : decide (x < x) = false := decide_eq_false (by omega)
      rw [ht]
      clear ht
      have hfin := hb8.trans (hb9.mono hb8.size)
      clear hb9 hb8 hv8 o0 o1 o2
      go_wp2
      go_ret
      exact ⟨rfl, hfin⟩
    · have hdx : decide (0 < x) = false := decide_eq_false hp
      go_wp2_with fail
      have hv7 := hv4.alloc (Obj.cells #[Value.string inc, Value.int IntKind.u64 sy, Value.int IntKind.u64 x] 47)
      refine (unmade inc sy x w1.heap.size _ _ _ hv7 HI.out).mono ?_
      rintro e w7 ⟨rfl, hb7⟩
      rw [← HX.out]
      have ht : decide (x < x) = false := decide_eq_false (by omega)
      rw [ht]
      clear ht
      have hfin : Below w1.heap.size w1 w7 := (hb4.alloc hb4.size _).trans (hb7.mono (by have := hb4.size; simp; omega))
      clear hb7 hb4 hv4 hv7
      go_wp2
      go_ret
      exact ⟨rfl, hfin⟩
  · have hlm : ma < 18446744073709551615 := by omega
    have hmq : (ma != 18446744073709551615) = true := by simpa using hmx
    have hge : (decide (ma < x) == decide (ma + 1 ≤ x)) = true := by rw [beq_iff_eq]; exact decide_eq_decide.2 (by omega)
    have hgx : decide (ma + 1 ≤ x) = decide (ma < x) := decide_eq_decide.2 (by omega)
    obtain ⟨g, hg⟩ : ∃ g, g = decide (ma < x) := ⟨_, rfl⟩
    rw [← hg] at hgx
    rw [← hg]
    have HGX : Hid (decide (ma + 1 ≤ x) = g) := hgx
    clear hmx hge hgx hg
    go_wp2_with fail
    refine (covers inc (ma + 1) w1.heap.size _ _ _ hv4 HI.out).mono ?_
    rintro e w5 ⟨rfl, hb5⟩
    rw [← HX.out, HGX.out]
    have hv6 := hv4.below hb5 hv4.lt
    have hb6 := hb4.trans (hb5.mono hb4.size)
    clear hv4 hb4 hb5
    go_wp2_with fail
    refine (lookup a0 a1 ss zs cap0 cap1 inc _ w1.heap.size (HS.out.below hb6) (HZ.out.below hb6)).mono ?_
    rintro e w6 ⟨rfl, hw6⟩
    subst hw6
    rw [← HF.out, ← HX.out]
    by_cases hp : 0 < x
    · have hdx : decide (0 < x) = true := decide_eq_true hp
      go_wp2_with fail
      have hv7 := (hv6.alloc (Obj.cells #[Value.string inc, Value.int IntKind.u64 sy, Value.int IntKind.u64 x] 47)).alloc (Obj.cells #[Value.string inc, Value.int IntKind.u64 sy, Value.int IntKind.u64 (x - 1)] 47)
      refine (unmade inc sy (x - 1) w1.heap.size _ _ _ hv7 HI.out).mono ?_
      rintro e w7 ⟨rfl, hb7⟩
      rw [← HX.out]
      have ht : decide (x - 1 < x) = true := decide_eq_true (by omega)
      rw [ht]
      clear ht
      have hv8 := hv7.below hb7 hv7.lt
      have o0 : w7.cell? ⟨w6.heap.size, 0, none⟩ = some (.string inc) := (hb7.cell (p := ⟨w6.heap.size, 0, none⟩) (by simp; omega)).trans (by simp)
      have o1 : w7.cell? ⟨w6.heap.size, 0 + 1, none⟩ = some (.int .u64 sy) := (hb7.cell (p := ⟨w6.heap.size, 0 + 1, none⟩) (by simp; omega)).trans (by simp)
      have o2 : w7.cell? ⟨w6.heap.size, 0 + 2, none⟩ = some (.int .u64 x) := (hb7.cell (p := ⟨w6.heap.size, 0 + 2, none⟩) (by simp; omega)).trans (by simp)
      have hb8 : Below w1.heap.size w1 w7 := ((hb6.alloc hb6.size _).alloc (by have := hb6.size; simp; omega) _).trans (hb7.mono (by have := hb6.size; simp; omega))
      have hz7 : w6.heap.size < w7.heap.size := by have := hb7.size; simp at this; omega
      clear hv7 hb7 hb6 hv6
      go_wp2_with fail
      refine (unmade inc sy x w1.heap.size _ _ _ hv8 HI.out).mono ?_
      rintro e w8 ⟨rfl, hb9⟩
      rw [← HX.out]
      have ht : decide (x < x) = false := decide_eq_false (by omega)
      rw [ht]
      clear ht
      have hfin := hb8.trans (hb9.mono hb8.size)
      clear hb9 hb8 hv8 o0 o1 o2
      go_wp2
      go_ret
      exact ⟨rfl, hfin⟩
    · have hdx : decide (0 < x) = false := decide_eq_false hp
      go_wp2_with fail
      have hv7 := hv6.alloc (Obj.cells #[Value.string inc, Value.int IntKind.u64 sy, Value.int IntKind.u64 x] 47)
      refine (unmade inc sy x w1.heap.size _ _ _ hv7 HI.out).mono ?_
      rintro e w7 ⟨rfl, hb7⟩
      rw [← HX.out]
      have ht : decide (x < x) = false := decide_eq_false (by omega)
      rw [ht]
      clear ht
      have hfin : Below w1.heap.size w1 w7 := (hb6.alloc hb6.size _).trans (hb7.mono (by have := hb6.size; simp; omega))
      clear hb7 hb6 hv6 hv7
      go_wp2
      go_ret
      exact ⟨rfl, hfin⟩

end Go.Proofs.Qxb6614579a
