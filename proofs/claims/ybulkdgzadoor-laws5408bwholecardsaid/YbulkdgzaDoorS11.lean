/-
  LawS5408BWhole: its contract.
-/
import Derived.Test.YbulkdgzaDoorS10
namespace Go.Proofs.YbulkdgzaDoor
open Go.RowKit B
set_option linter.unusedVariables false
set_option linter.unusedSimpArgs false

theorem f4_body : Ybad.f4.body = some (Ybad.f4.body.getD .skip) := by kernel_rfl
set_option maxRecDepth 100000 in
theorem f4_enter (a b c d : Value) : Fx (#[a, b, c, d] ++ Array.replicate (Ybad.f4.ntmps - #[a, b, c, d].size) undef) a b c d undef undef undef undef undef undef undef undef undef undef undef undef undef undef undef undef undef undef undef undef undef undef undef undef undef undef undef undef undef undef undef undef undef undef undef := by
  rw [Ybad.ntmps4]; exact Fx.mk (by kernel_rfl) (by kernel_rfl) (by kernel_rfl) (by kernel_rfl) (by kernel_rfl) (by kernel_rfl) (by kernel_rfl) (by kernel_rfl) (by kernel_rfl) (by kernel_rfl) (by kernel_rfl) (by kernel_rfl) (by kernel_rfl) (by kernel_rfl) (by kernel_rfl) (by kernel_rfl) (by kernel_rfl) (by kernel_rfl) (by kernel_rfl) (by kernel_rfl) (by kernel_rfl) (by kernel_rfl) (by kernel_rfl) (by kernel_rfl) (by kernel_rfl) (by kernel_rfl) (by kernel_rfl) (by kernel_rfl) (by kernel_rfl) (by kernel_rfl) (by kernel_rfl) (by kernel_rfl) (by kernel_rfl) (by kernel_rfl) (by kernel_rfl) (by kernel_rfl) (by kernel_rfl) (by kernel_rfl) (by kernel_rfl) (by kernel_rfl)

set_option maxHeartbeats 2000000 in
theorem main (ao : Option Addr) (n cp : Nat) (cursor last : Int) (k : Nat) (F : Nat → Nat) (w : World)
    (hn : n ≤ 4096) (hk : k < 256) (hc1 : -9223372036854775808 ≤ cursor) (hc2 : cursor < 9223372036854775808) (hF : ∀ i, F i < 4294967296)
    (hsrc : 0 < n → ∃ b o, ao = some ⟨b, o, none⟩ ∧ b < w.heap.size ∧ ∀ j, j < n → w.cell? ⟨b, o + j, none⟩ = some (.int .u32 (F j)))
    (h2 : 2 < w.heap.size) (htab : TabAt 2 Lib.deBruijn64tab w) :
    Calls Ybad.prog 4 #[.int .i64 cursor, .slice ao n cp, .int .u8 k, .int .i64 last] w fun e w' => e = .returned (.bool true) ∧ Chg w w' (fun _ => False) := by
  have hcur := cur_eq cursor hc1 hc2
  generalize hcd : (cursor % 9223372036854775808).toNat = c at hcur
  have hcb : c ≤ 9223372036854775807 := by omega
  have hmb := mulV_le k
  refine calls_of_wp Ybad.func4 f4_body ?_
  rw [c0on]
  have f0 := f4_enter (.int .i64 cursor) (.slice ao n cp) (.int .u8 k) (.int .i64 last)
  generalize hA : (#[Value.int .i64 cursor, .slice ao n cp, .int .u8 k, .int .i64 last] ++ Array.replicate (Ybad.f4.ntmps - #[Value.int .i64 cursor, .slice ao n cp, .int .u8 k, .int .i64 last].size) undef) = arr0 at f0 ⊢
  clear hA
  refine seq_B (st0  arr0 w _ _ _ _ _ _ _ _ _ _ _ _ _ _ _ _ _ _ _ _ _ _ _ _ _ _ _ _ _ _ _ _ _ _ _ _ _ _ _ _ _ _ f0 (fun arr1 f1 => ?_))
  refine seq_B (st1 ao n cp arr1 w _ _ _ _ _ _ _ _ _ _ _ _ _ _ _ _ _ _ _ _ _ _ _ _ _ _ _ _ _ _ _ _ _ _ _ _ _ _ _ _ _ hn f1 (fun arr2 f2 => ?_))
  refine seq_B (st2 cursor c arr2 w _ _ _ _ _ _ _ _ _ _ _ _ _ _ _ _ _ _ _ _ _ _ _ _ _ _ _ _ _ _ _ _ _ _ _ _ _ _ _ _ _ hcur f2 (fun arr3 f3 => ?_))
  refine seq_B (st3 k arr3 w _ _ _ _ _ _ _ _ _ _ _ _ _ _ _ _ _ _ _ _ _ _ _ _ _ _ _ _ _ _ _ _ _ _ _ _ _ _ _ _ _ hk f3 (fun arr4 f4 => ?_))
  refine seq_B (st4 ao n cp arr4 w _ _ _ _ _ _ _ _ _ _ _ _ _ _ _ _ _ _ _ _ _ _ _ _ _ _ _ _ _ _ _ _ _ _ _ _ _ _ _ _ _ f4 (fun arr5 f5 => ?_))
  refine seq_B (st5 n arr5 w _ _ _ _ _ _ _ _ _ _ _ _ _ _ _ _ _ _ _ _ _ _ _ _ _ _ _ _ _ _ _ _ _ _ _ _ _ _ _ _ _ hn f5 (fun arr6 f6 => ?_))
  have rA := RowF.new w 45 n (.pointer none)
  have cA : Chg w (w.alloc (.cells (Array.replicate n (Value.pointer none)) 45)) (fun _ => False) := (Chg.refl _ _).alloc _
  have sA : (w.alloc (.cells (Array.replicate n (Value.pointer none)) 45)).heap.size = w.heap.size + 1 := by simp
  generalize (w.alloc (.cells (Array.replicate n (Value.pointer none)) 45)) = w1 at rA cA sA ⊢
  refine seq_B (st6 n arr6 w1 _ _ _ _ _ _ _ _ _ _ _ _ _ _ _ _ _ _ _ _ _ _ _ _ _ _ _ _ _ _ _ _ _ _ _ _ _ _ _ _ _ hn f6 (fun arr7 f7 => ?_))
  have rD := RowF.new w1 2 n (.int .i64 0)
  have cD : Chg w1 (w1.alloc (.cells (Array.replicate n (Value.int .i64 0)) 2)) (fun _ => False) := (Chg.refl _ _).alloc _
  have sD : (w1.alloc (.cells (Array.replicate n (Value.int .i64 0)) 2)).heap.size = w1.heap.size + 1 := by simp
  generalize (w1.alloc (.cells (Array.replicate n (Value.int .i64 0)) 2)) = w2 at rD cD sD ⊢
  refine seq_B (st7 c (fun _ => 0) arr7 w2 _ _ _ _ _ _ _ _ _ _ _ _ _ _ _ _ _ _ _ _ _ _ _ _ _ _ _ _ _ _ _ _ _ _ _ _ _ _ _ _ _ f7 (fun arr8 w3 f8 rS cS sS => ?_))
  have c3 : Chg w w3 (fun _ => False) := (cA.trans cD).trans cS
  have h8 : A8 w3 w.heap.size w.heap.size w1.heap.size w2.heap.size n c (fun i => tkOf c (F i * mulV k)) 0 w3 := by
    refine ⟨Chg.refl _ _, fun _ => 0, fun _ => none, ⟨c, fun _ _ => []⟩, ⟨⟨fun _ => none, fun _ => 0, fun _ => 0, ⟨rS, fun i hi => by omega, fun i hi => by omega, fun i j hi => by omega⟩, ?_⟩, ?_, tab_chg htab h2 c3 (fun h => h)⟩, rfl, ?_, ?_, fun j hj => by omega⟩
    · exact ⟨fun l s k i h => by simp at h, fun l s k i h => by simp at h, fun l s i h => by simp at h, fun l s _ _ => by simp, fun l => by show 0 < 18446744073709551616; omega, fun l s i h => by simp at h, fun l s l' s' i h => by simp at h, fun l s => List.nodup_nil⟩
    · exact ⟨fun i hi => by have : i < 0 := hi; omega, fun i hi => by have : i < 0 := hi; omega, fun i hi => by have : i < 0 := hi; omega, fun l s i h => by simp at h, fun l s => List.nodup_nil⟩
    · exact ((rA.chg cD (fun h => h)).chg cS (fun h => h)).congr (fun i hi => (if_neg (by omega)).symm)
    · exact (rD.chg cS (fun h => h)).congr (fun i hi => (if_neg (by omega)).symm)
  have hsz3 := c3.size
  refine seq_B (seq_Qp (r8i  arr8 w3 _ _ _ _ _ _ _ _ _ _ _ _ _ _ _ _ _ _ _ _ _ _ _ _ _ _ _ _ _ _ _ _ _ _ _ _ _ _ _ _ _ _ f8 (fun arr9 f9 => ?_)))
  refine l8 ao n cp c (mulV k) w.heap.size w1.heap.size w2.heap.size w.heap.size F arr9 w3 _ _ _ _ _ _ _ _ _ _ _ _ _ _ _ _ _ _ _ _ _ _ _ _ _ _ _ _ _ _ _ _ _ _ hn hcb hmb hF (fun h0 => by obtain ⟨b, o, e1, e2, e3⟩ := hsrc h0; exact ⟨b, o, e1, e2, fun j hj => (c3.cell e2 (fun h => h)).trans (e3 j hj)⟩) h2 hsz3 (Nat.le_refl _) (by omega) (by omega) h8 f9 (fun arr10 w10 x16 x17 f10 a10 => ?_)
  obtain ⟨hch, tb, nx, wh, hst, hcur4, hra, hrd, hlo⟩ := a10
  generalize hTd : (fun i => tkOf c (F i * mulV k)) = T at hst hrd
  have hT : ∀ i, T i < 9223372036854775808 := fun i => by rw [← hTd]; exact tkOf_lt _ _
  refine seq_B (st9  arr10 w10 _ _ _ _ _ _ _ _ _ _ _ _ _ _ _ _ _ _ _ _ _ _ _ _ _ _ _ _ _ _ _ _ _ _ _ _ _ _ _ _ _ _ f10 (fun arr11 f11 => ?_))
  refine seq_B (st10 n w1.heap.size T arr11 w10 _ _ _ _ _ _ _ _ _ _ _ _ _ _ _ _ _ _ _ _ _ _ _ _ _ _ _ _ _ _ _ _ _ _ _ _ _ _ _ hn hrd f11 (fun arr12 f12 => ?_))
  have m1 := mn_le T n
  have m2 := mn_mem T hT n
  generalize hmt : mn T n = mt at f12 m1 m2
  have hfin : ∀ w', Chg w10 w' (fun j => w.heap.size ≤ j) → (Ending.returned (Value.bool true) = .returned (.bool true) ∧ Chg w w' (fun _ => False)) := fun w' h =>
    ⟨rfl, Chg.fresh c3 (hch.trans h) (fun j hj hh => by omega)⟩
  by_cases hdue : 0 < n ∧ (mt : Int) ≤ last
  · have hd : true = true ↔ 0 < n ∧ (mt : Int) ≤ last := ⟨fun _ => hdue, fun _ => rfl⟩
    refine seq_B (st11 n mt last true arr12 w10 _ _ _ _ _ _ _ _ _ _ _ _ _ _ _ _ _ _ _ _ _ _ _ _ _ _ _ _ _ _ _ _ _ _ _ _ _ _ _ hd f12 (fun arr13 f13 => ?_))
    refine seq_B (st12  arr13 w10 _ _ _ _ _ _ _ _ _ _ _ _ _ _ _ _ _ _ _ _ _ _ _ _ _ _ _ _ _ _ _ _ _ _ _ _ _ _ _ _ _ _ f13 (fun arr14 f14 => ?_))
    refine seq_B (st13 n w1.heap.size mt T arr14 w10 _ _ _ _ _ _ _ _ _ _ _ _ _ _ _ _ _ _ _ _ _ _ _ _ _ _ _ _ _ _ _ _ _ _ _ _ _ hn hrd f14 (fun arr15 f15 => ?_))
    exact tail14 w2.heap.size tb n T nx wh w.heap.size w1.heap.size w.heap.size c mt (cn T mt n) last true arr15 w10 _ _ _ _ _ _ _ _ _ _ _ _ _ _ _ _ _ _ _ _ _ _ _ _ _ _ _ _ _ _ _ hn hst hcur4 (by omega) hra hrd hlo h2 (Nat.le_refl _) (by omega) (by omega) m1 m2 hd (if_pos rfl).symm f15 hfin
  · have hd : false = true ↔ 0 < n ∧ (mt : Int) ≤ last := ⟨fun h => by simp at h, fun h => absurd h hdue⟩
    refine seq_B (st11 n mt last false arr12 w10 _ _ _ _ _ _ _ _ _ _ _ _ _ _ _ _ _ _ _ _ _ _ _ _ _ _ _ _ _ _ _ _ _ _ _ _ _ _ _ hd f12 (fun arr13 f13 => ?_))
    refine seq_B (st12  arr13 w10 _ _ _ _ _ _ _ _ _ _ _ _ _ _ _ _ _ _ _ _ _ _ _ _ _ _ _ _ _ _ _ _ _ _ _ _ _ _ _ _ _ _ f13 (fun arr14 f14 => ?_))
    refine seq_B (st13n  arr14 w10 _ _ _ _ _ _ _ _ _ _ _ _ _ _ _ _ _ _ _ _ _ _ _ _ _ _ _ _ _ _ _ _ _ _ _ _ _ _ _ _ _ f14 (fun arr15 f15 => ?_))
    exact tail14 w2.heap.size tb n T nx wh w.heap.size w1.heap.size w.heap.size c mt 0 last false arr15 w10 _ _ _ _ _ _ _ _ _ _ _ _ _ _ _ _ _ _ _ _ _ _ _ _ _ _ _ _ _ _ _ hn hst hcur4 (by omega) hra hrd hlo h2 (Nat.le_refl _) (by omega) (by omega) m1 m2 hd rfl f15 hfin

set_option maxRecDepth 100000 in
set_option maxHeartbeats 400000 in
/-- More than 4096 offsets: true at once. -/
theorem main_long (a b c : Value) (ao : Option Addr) (n cp : Nat) (w : World) (hn : ¬ n ≤ 4096) :
    Calls Ybad.prog 4 #[a, .slice ao n cp, b, c] w fun e w' => e = .returned (.bool true) ∧ Chg w w' (fun _ => False) := by
  have h : (4096 : Int) < (n : Int) := by omega
  have HC : Hid (Chg w w (fun _ => False)) := Chg.refl _ _
  go_enter Ybad.func4, Ybad.ntmps4
  go_wp2
  go_ret
  exact ⟨rfl, HC.out⟩

end Go.Proofs.YbulkdgzaDoor
