/-
  LawS5404AWhole (function 3): it returns true; nothing old has turned.
-/
import Derived.Test.YbulkdgwwFmtNew
namespace Go.Proofs.YbulkdgwwFmt
open Go.RowKit Go.Extern.Stop Go.Stop Go.Extern

theorem zz_t (s : ByteArray) (w : World) (h : Hid (okL s = true)) : Calls Ybaf.prog 5 #[.string s] w fun e w' => e = .returned (.bool true) ∧ w' = w :=
  (zz_any s w).mono fun e w' ⟨he, hw⟩ => ⟨by rw [he, h.out], hw⟩
theorem zz_f (s : ByteArray) (w : World) (h : Hid (okL s = false)) : Calls Ybaf.prog 5 #[.string s] w fun e w' => e = .returned (.bool false) ∧ w' = w :=
  (zz_any s w).mono fun e w' ⟨he, hw⟩ => ⟨by rw [he, h.out], hw⟩

/-- The law's end. -/
def Good (w : World) (e : Ending) (w' : World) : Prop := e = .returned (.bool true) ∧ Below w.heap.size w w'

theorem law_big (s0 s1 s2 : ByteArray) (w : World) (h0 : s0.size ≤ 140737488351232) (h1 : s1.size ≤ 140737488351232) (h2 : s2.size ≤ 140737488351232) (hb : 1048576 < s0.size + s1.size + s2.size) :
    Calls Ybaf.prog 3 #[.string s0, .string s1, .string s2] w (Good w) := by
  go_enter Ybaf.func3, Ybaf.ntmps3
  go_wp2
  go_ret
  exact ⟨rfl, Below.refl _ _⟩

set_option maxHeartbeats 400000 in
theorem law_ok (F : Interp) (s0 s1 s2 : ByteArray) (w : World) (hF : F.answers w.tape) (hb : s0.size + s1.size + s2.size ≤ 1048576) (k0 : Hid (okL s0 = true)) (k1 : Hid (okL s1 = true)) (k2 : Hid (okL s2 = true)) :
    Calls Ybaf.prog 3 #[.string s0, .string s1, .string s2] w (Good w) := by
  go_enter Ybaf.func3, Ybaf.ntmps3
  go_wp2_with fail
  refine (new_ok F s0 s1 s2 _ (by exact hF) k0 k1 k2).mono ?_
  rintro e w1 ⟨rfl, hb1⟩
  go_wp2_with fail
  refine (zz_t s0 _ k0).mono ?_
  rintro e wz0 ⟨rfl, hwz⟩; subst hwz
  go_wp2_with fail
  refine (zz_t s1 _ k1).mono ?_
  rintro e wz1 ⟨rfl, hwz⟩; subst hwz
  go_wp2_with fail
  refine (zz_t s2 _ k2).mono ?_
  rintro e wz2 ⟨rfl, hwz⟩; subst hwz
  go_wp2
  go_ret
  exact ⟨rfl, hb1.alloc hb1.size _⟩

set_option maxHeartbeats 400000 in
theorem law_bad0 (F : Interp) (s0 s1 s2 : ByteArray) (w : World) (hF : F.answers w.tape) (hb : s0.size + s1.size + s2.size ≤ 1048576) (k0 : Hid (okL s0 = false)) :
    Calls Ybaf.prog 3 #[.string s0, .string s1, .string s2] w (Good w) := by
  go_enter Ybaf.func3, Ybaf.ntmps3
  go_wp2_with fail
  refine (new_bad0 F s0 s1 s2 _ (by exact hF) k0).mono ?_
  rintro e w1 ⟨a, rfl, hb1⟩
  go_wp2_with fail
  refine (zz_f s0 _ k0).mono ?_
  rintro e wz0 ⟨rfl, hwz⟩; subst hwz
  go_wp2
  go_ret
  exact ⟨rfl, hb1.alloc hb1.size _⟩

set_option maxHeartbeats 400000 in
theorem law_bad1 (F : Interp) (s0 s1 s2 : ByteArray) (w : World) (hF : F.answers w.tape) (hb : s0.size + s1.size + s2.size ≤ 1048576) (k0 : Hid (okL s0 = true)) (k1 : Hid (okL s1 = false)) :
    Calls Ybaf.prog 3 #[.string s0, .string s1, .string s2] w (Good w) := by
  go_enter Ybaf.func3, Ybaf.ntmps3
  go_wp2_with fail
  refine (new_bad1 F s0 s1 s2 _ (by exact hF) k0 k1).mono ?_
  rintro e w1 ⟨a, rfl, hb1⟩
  go_wp2_with fail
  refine (zz_t s0 _ k0).mono ?_
  rintro e wz0 ⟨rfl, hwz⟩; subst hwz
  go_wp2_with fail
  refine (zz_f s1 _ k1).mono ?_
  rintro e wz1 ⟨rfl, hwz⟩; subst hwz
  go_wp2
  go_ret
  exact ⟨rfl, hb1.alloc hb1.size _⟩

set_option maxHeartbeats 400000 in
theorem law_bad2 (F : Interp) (s0 s1 s2 : ByteArray) (w : World) (hF : F.answers w.tape) (hb : s0.size + s1.size + s2.size ≤ 1048576) (k0 : Hid (okL s0 = true)) (k1 : Hid (okL s1 = true)) (k2 : Hid (okL s2 = false)) :
    Calls Ybaf.prog 3 #[.string s0, .string s1, .string s2] w (Good w) := by
  go_enter Ybaf.func3, Ybaf.ntmps3
  go_wp2_with fail
  refine (new_bad2 F s0 s1 s2 _ (by exact hF) k0 k1 k2).mono ?_
  rintro e w1 ⟨a, rfl, hb1⟩
  go_wp2_with fail
  refine (zz_t s0 _ k0).mono ?_
  rintro e wz0 ⟨rfl, hwz⟩; subst hwz
  go_wp2_with fail
  refine (zz_t s1 _ k1).mono ?_
  rintro e wz1 ⟨rfl, hwz⟩; subst hwz
  go_wp2_with fail
  refine (zz_f s2 _ k2).mono ?_
  rintro e wz2 ⟨rfl, hwz⟩; subst hwz
  go_wp2
  go_ret
  exact ⟨rfl, hb1.alloc hb1.size _⟩

theorem law_all (F : Interp) (s0 s1 s2 : ByteArray) (w : World) (hF : F.answers w.tape) (h0 : s0.size ≤ 140737488351232) (h1 : s1.size ≤ 140737488351232) (h2 : s2.size ≤ 140737488351232) :
    Calls Ybaf.prog 3 #[.string s0, .string s1, .string s2] w (Good w) := by
  by_cases hb : 1048576 < s0.size + s1.size + s2.size
  · exact law_big s0 s1 s2 w h0 h1 h2 hb
  have hb' : s0.size + s1.size + s2.size ≤ 1048576 := by omega
  cases k0 : okL s0 with
  | false => exact law_bad0 F s0 s1 s2 w hF hb' k0
  | true =>
    cases k1 : okL s1 with
    | false => exact law_bad1 F s0 s1 s2 w hF hb' k0 k1
    | true =>
      cases k2 : okL s2 with
      | false => exact law_bad2 F s0 s1 s2 w hF hb' k0 k1 k2
      | true => exact law_ok F s0 s1 s2 w hF hb' k0 k1 k2
end Go.Proofs.YbulkdgwwFmt
