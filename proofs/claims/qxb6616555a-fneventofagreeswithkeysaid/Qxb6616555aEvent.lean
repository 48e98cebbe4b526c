/-
  THE WALKS of zzTruncOf, the bounds' tests, eventOf, ZZeventOf.
-/
import Derived.Test.Qxb6616555aRows
import Derived.Test.Qxb6616555aTrunc
import Derived.WalkKit
import Derived.WalkSpells
import Derived.WalkLawsBesides
import Derived.StillTactics
import Derived.Laws.Pointers
import Derived.RegionTactic
import Derived.Deep.QuietTactic
import Derived.BigQuiet
import Derived.Deep.RegionHeld3
import Derived.RowKit3
import Derived.BigRegion
import Derived.Test.Qxb6616555aStrMap
namespace Go.Proofs.Qxb6616555a
open Go.RowKit
theorem hide {p : Prop} (h : p) : Hid p := h

set_option maxHeartbeats 400000 in
theorem trunc_up (n : Int) (x r : Nat) (w : World) (h1 : -9007199254740991 ≤ n) (h2 : n ≤ 9007199254740991) (hU : Fl.UpB n x r) :
    Calls Try.prog 11 #[.int .i64 n, .float .f64 x] w fun e w' => e = .returned (.bool true) ∧ w' = w := by
  obtain ⟨a1, a2, a3, a4, a5⟩ := hU
  have hadd := fun w => run_float_arith (P := Try.prog) w .add 22 .f64 _ _ _ a4
  go_enter Try.func11, Try.ntmps11
  go_wp2
  go_ret
  exact ⟨rfl, rfl⟩

set_option maxHeartbeats 400000 in
theorem trunc_down (n : Int) (x r : Nat) (w : World) (h1 : -9007199254740991 ≤ n) (h2 : n ≤ 9007199254740991) (hU : Fl.DownB n x r) :
    Calls Try.prog 11 #[.int .i64 n, .float .f64 x] w fun e w' => e = .returned (.bool true) ∧ w' = w := by
  obtain ⟨a1, a2, a3, a4, a5⟩ := hU
  have hsub := fun w => run_float_arith (P := Try.prog) w .sub 22 .f64 _ _ _ a3
  go_enter Try.func11, Try.ntmps11
  go_wp2
  go_ret
  exact ⟨rfl, rfl⟩

/-- 'key' is looked up in block b, whatever the world, as long as the block is as it was. -/
def Looks (b : Nat) (w : World) (key v : Value) : Prop := ∀ wx : World, wx.heap[b]? = w.heap[b]? → (Instr.lookup 45 (.map (some b)) key false).run Try.prog wx = .ok v wx

set_option maxHeartbeats 400000 in
theorem eventOf_any (b : Nat) (p k v : ByteArray) (x : Nat) (n : Int) (w : World) (hbl : b < w.heap.size)
  (L1 : Looks b w (.string ⟨#[112, 101, 101, 114]⟩) (.iface 9 (.string p))) (L2 : Looks b w (.string ⟨#[107, 105, 110, 100]⟩) (.iface 9 (.string k)))
  (L3 : Looks b w (.string ⟨#[101, 118, 105, 100, 101, 110, 99, 101]⟩) (.iface 9 (.string v))) (L4 : Looks b w (.string ⟨#[97, 116]⟩) (.iface 22 (.float .f64 x)))
  (hc : floatToIntVal .f64 x .i64 = some n) :
    Calls Try.prog 22 #[.map (some b)] w fun e w' => e = .returned (.agg #[.string p, .string k, .string v, .int .i64 n]) ∧ ∃ c1, w' = (w.alloc (.cells c1 26)).drew := by
  have hconv := fun w => run_convert_float_int (P := Try.prog) w 22 2 .f64 .i64 x n (by kernel_rfl) Try.underlying2 hc
  have hh : ∀ o : Obj, ((w.alloc o).drew).heap[b]? = w.heap[b]? := fun o => Below.heap_alloc w o b hbl
  have l1 := fun o => L1 _ (hh o)
  have l2 := fun o => L2 _ (hh o)
  have l3 := fun o => L3 _ (hh o)
  have l4 := fun o => L4 _ (hh o)
  have t9 : ∀ (s : ByteArray) (w : World), (Instr.typeAssert (.iface 9 (.string s)) 20 9 false).run Try.prog w = .ok (.string s) w := fun s w => by kernel_rfl
  have t22 : ∀ (s : Nat) (w : World), (Instr.typeAssert (.iface 22 (.float .f64 s)) 20 22 false).run Try.prog w = .ok (.float .f64 s) w := fun s w => by kernel_rfl
  clear hh L1 L2 L3 L4 hc
  go_enter Try.func22, Try.ntmps22
  go_wp2
  go_region
  all_goals go_wp2
  exact bodyPost_ret (v := .agg #[.string p, .string k, .string v, .int .i64 n]) (by simp [results, Try.results22, go_sem]) rfl ⟨rfl, _, rfl⟩

theorem zero20 (w : World) : (zeroValue 20).run Try.prog w = .ok .nilIface w := by kernel_rfl

set_option maxHeartbeats 400000 in
theorem zzEventOf_any (p k v : ByteArray) (x : Nat) (n : Int) (w : World) (hc : floatToIntVal .f64 x .i64 = some n) :
    Calls Try.prog 9 #[.string p, .string k, .string v, .float .f64 x] w fun e w' => e = .returned (.agg #[.string p, .string k, .string v, .int .i64 n]) ∧ Below w.heap.size w w' := by
  have hmm := @run_makeMap Try.prog
  have m0 : SM.IsMap ((w.alloc (.cells #[.string ⟨#[]⟩, .string ⟨#[]⟩, .string ⟨#[]⟩, .int .i64 0] 26)).alloc (.map #[] 0)) (w.heap.size + 1) (fun _ => none) := by
    have h := SM.made (w.alloc (.cells #[.string ⟨#[]⟩, .string ⟨#[]⟩, .string ⟨#[]⟩, .int .i64 0] 26))
    simpa using h
  have b0 : Below w.heap.size w ((w.alloc (.cells #[.string ⟨#[]⟩, .string ⟨#[]⟩, .string ⟨#[]⟩, .int .i64 0] 26)).alloc (.map #[] 0)) :=
    ((Below.refl _ _).alloc (Nat.le_refl _) _).alloc (by simp) _
  obtain ⟨w1, e1, m1, g1, s1⟩ := m0.update (P := Try.prog) (t := 45) Try.underlying9 Try.underlying45 ⟨#[112, 101, 101, 114]⟩ (.iface 9 (.string p))
  obtain ⟨w2, e2, m2, g2, s2⟩ := m1.update (P := Try.prog) (t := 45) Try.underlying9 Try.underlying45 ⟨#[107, 105, 110, 100]⟩ (.iface 9 (.string k))
  obtain ⟨w3, e3, m3, g3, s3⟩ := m2.update (P := Try.prog) (t := 45) Try.underlying9 Try.underlying45 ⟨#[101, 118, 105, 100, 101, 110, 99, 101]⟩ (.iface 9 (.string v))
  obtain ⟨w4, e4, m4, g4, s4⟩ := m3.update (P := Try.prog) (t := 45) Try.underlying9 Try.underlying45 ⟨#[97, 116]⟩ (.iface 22 (.float .f64 x))
  have gg := ((g1.trans g2).trans g3).trans g4
  have b4 : Below w.heap.size w w4 := b0.grown gg b0.size (fun j hj => by cases hj; omega)
  have hs4 : w4.heap.size = w.heap.size + 2 := by rw [s4, s3, s2, s1]; simp
  have hblk : w4.heap[w.heap.size]? = some (.cells #[.string ⟨#[]⟩, .string ⟨#[]⟩, .string ⟨#[]⟩, .int .i64 0] 26) := by
    rw [gg.block w.heap.size (by simp; omega) (by simp)]
    rw [Below.heap_alloc _ _ _ (by simp)]
    exact (MapKept.heap_alloc w _).1
  have L : ∀ s u, (if s = (⟨#[97, 116]⟩ : ByteArray) then some (Value.iface 22 (.float .f64 x)) else if s = ⟨#[101, 118, 105, 100, 101, 110, 99, 101]⟩ then some (.iface 9 (.string v))
      else if s = ⟨#[107, 105, 110, 100]⟩ then some (.iface 9 (.string k)) else if s = ⟨#[112, 101, 101, 114]⟩ then some (.iface 9 (.string p)) else none) = some u → Looks (w.heap.size + 1) w4 (.string s) u := by
    intro s u h wx hwx
    have hl := (m4.kept hwx).lookup (P := Try.prog) Try.underlying9 Try.underlying45 (zero20 wx) s false
    rw [hl, h]
    rfl
  have L1 := L ⟨#[112, 101, 101, 114]⟩ (.iface 9 (.string p)) (by simp)
  have L2 := L ⟨#[107, 105, 110, 100]⟩ (.iface 9 (.string k)) (by simp)
  have L3 := L ⟨#[101, 118, 105, 100, 101, 110, 99, 101]⟩ (.iface 9 (.string v)) (by simp)
  have L4 := L ⟨#[97, 116]⟩ (.iface 22 (.float .f64 x)) (by simp)
  have hcon := eventOf_any (w.heap.size + 1) p k v x n w4 (by omega) L1 L2 L3 L4 hc
  have HC := hide hcon
  have c0 : w4.cell? ⟨w.heap.size, 0, none⟩ = some (.string ⟨#[]⟩) := by simp [World.cell?, hblk]
  have c1 : w4.cell? ⟨w.heap.size, 1, none⟩ = some (.string ⟨#[]⟩) := by simp [World.cell?, hblk]
  have c2 : w4.cell? ⟨w.heap.size, 2, none⟩ = some (.string ⟨#[]⟩) := by simp [World.cell?, hblk]
  have c3 : w4.cell? ⟨w.heap.size, 3, none⟩ = some (.int .i64 0) := by simp [World.cell?, hblk]
  have f : ∀ i, w4.frozen? ⟨w.heap.size, i, none⟩ = false := fun i => by simp [World.frozen?, hblk]
  clear hblk
  clear hcon L L1 L2 L3 L4 m0 m1 m2 m3 m4 g1 g2 g3 g4 gg b0 s1 s2 s3 s4 hc
  go_enter Try.func9, Try.ntmps9
  go_wp2_with fail
  refine HC.out.mono ?_
  rintro e w' ⟨rfl, cs1, rfl⟩
  go_wp2
  refine bodyPost_ret (v := .agg #[.string p, .string k, .string v, .int .i64 n]) (by simp [results, Try.results9, go_sem, hs4, c0, c1, c2, c3]) rfl ⟨rfl, ?_⟩
  exact (((((b4.setCell (Nat.le_refl _) _).setCell (Nat.le_refl _) _).setCell (Nat.le_refl _) _).setCell (Nat.le_refl _) _).alloc (by simp; omega) _).drew

set_option maxHeartbeats 400000 in
theorem bytes12_no (p k v : ByteArray) (x : Nat) (w : World) (hp : p.size ≤ 9223372036854775807) (hk : k.size ≤ 9223372036854775807) (hv : v.size ≤ 9223372036854775807) (h : 1048576 < p.size + k.size + v.size) :
    Calls Try.prog 12 #[.string p, .string k, .string v, .float .f64 x] w fun e w' => e = .returned (.bool false) ∧ w' = w := by
  go_enter Try.func12, Try.ntmps12
  go_wp2
  all_goals (go_ret; exact ⟨rfl, rfl⟩)

set_option maxHeartbeats 400000 in
theorem bytes12_yes (p k v : ByteArray) (x : Nat) (w : World) (h : p.size + k.size + v.size ≤ 1048576) :
    Calls Try.prog 12 #[.string p, .string k, .string v, .float .f64 x] w fun e w' => e = .returned (.bool true) ∧ w' = w := by
  go_enter Try.func12, Try.ntmps12
  go_wp2
  all_goals (go_ret; exact ⟨rfl, rfl⟩)

set_option maxHeartbeats 400000 in
theorem bytes8_no (p k v : ByteArray) (x : Nat) (w : World) (hp : p.size ≤ 9223372036854775807) (hk : k.size ≤ 9223372036854775807) (hv : v.size ≤ 9223372036854775807) (h : 1048576 < p.size + k.size + v.size) :
    Calls Try.prog 8 #[.string p, .string k, .string v, .float .f64 x] w fun e w' => e = .returned (.bool false) ∧ w' = w := by
  go_enter Try.func8, Try.ntmps8
  go_wp2
  all_goals (go_ret; exact ⟨rfl, rfl⟩)

set_option maxHeartbeats 400000 in
theorem bytes8_yes (p k v : ByteArray) (x : Nat) (w : World) (h : p.size + k.size + v.size ≤ 1048576) :
    Calls Try.prog 8 #[.string p, .string k, .string v, .float .f64 x] w fun e w' => e = .returned (.bool true) ∧ w' = w := by
  go_enter Try.func8, Try.ntmps8
  go_wp2
  all_goals (go_ret; exact ⟨rfl, rfl⟩)

end Go.Proofs.Qxb6616555a
