/-
  THE WALK of slices.Concat[[]string, string] (23) at two slices.
-/
import Derived.Test.Qxb6617078aIgnoring
import Derived.Laws.AppendOwnNone
import Derived.Maps.AppendAt
namespace Go.Proofs.Qxb6617078a
open Go.RowKit

theorem append_nil_cap (v : Value) (c : Nat) : Builtin.append_ #[22, 22] 22 #[v, .slice none 0 c] = Builtin.append_ #[22, 22] 22 #[v, .slice none 0 0] := rfl

/-- 'append(v, x...)' where v is the call's own and x leads to the strings xs: at the operation. -/
theorem wp_append_row (w : World) {ops : Array Oper} {rest : List Oper} {o : Oper} {a : Act} {Q : Exit → Act → World → Prop} (hgd : o.guard = none) (s x : Operand)
    (ho : o.op = .call { callee := .builtin .append, args := #[s, x], argTypes := #[22, 22] }) (hty : o.type = 22)
    (base : Nat) (v xv : Value) (ds xs : List ByteArray) (hs : a.eval s = v) (hown : w.ownsRow base 9 1 v ds.length (ds.map Value.string)) (hx : a.eval x = xv) (hr : Row w xv xs)
    (hl : ds.length + xs.length ≤ 8388608) (hbase : base ≤ w.heap.size)
    (hK : ∀ v' w', w'.ownsRow base 9 1 v' (ds ++ xs).length ((ds ++ xs).map Value.string) → w.grownBy w' v.ownBlock → wpList Try.prog ops Q rest (a.put o.dst v') w') : wpList Try.prog ops Q (o :: rest) a w := by
  refine wpList_plain hgd fun K hK' => ?_
  obtain ⟨i0, hi, hz0, hz1, hz2⟩ := info_parts info9
  obtain ⟨ax, cx, rfl, hc⟩ := hr
  have hrun : ∃ v' w', (Builtin.append_ #[22, 22] 22 #[v, .slice ax xs.length cx]).run Try.prog w = .ok v' w' ∧ w'.ownsRow base 9 1 v' (ds ++ xs).length ((ds ++ xs).map Value.string) ∧ w.grownBy w' v.ownBlock := by
    cases ax with
    | none =>
      have h0 : xs = [] := by
        match xs, hc with
        | [], _ => rfl
        | y :: r, hc => obtain ⟨b, off, h, _⟩ := hc 0 y (by simp); cases h
      subst h0
      refine ⟨v, w, ?_, by simpa using hown, ⟨rfl, rfl, rfl, Nat.le_refl _, fun _ _ _ => rfl⟩⟩
      rw [show ([] : List ByteArray).length = 0 from rfl, append_nil_cap]
      exact run_append_owned_none (P := Try.prog) (w := w) base 22 22 9 i0 1 Try.underlying22 hi v ds.length (ds.map Value.string) hown
    | some ad =>
      have hnews : ∀ j u, (xs.map Value.string)[j]? = some u → w.cell? (ad.add j) = some u := by
        intro j u hu
        rw [List.getElem?_map] at hu
        cases hj : xs[j]? with
        | none => rw [hj] at hu; cases hu
        | some y =>
          rw [hj] at hu
          have hu' : Value.string y = u := by simpa using hu
          obtain ⟨b, off, h, h2⟩ := hc j y hj
          cases h
          rw [Go.WideShapes.add_plain, h2, hu']
      obtain ⟨v', w', h1, h2, h3, _⟩ := run_append_own (P := Try.prog) w base 22 22 9 i0 (.string ⟨#[]⟩) 1 16 Try.underlying22 hi hz0 hz1 hz2 rfl (by decide) v ds.length (ds.map Value.string) hown ad xs.length cx (xs.map Value.string) (by simp) hnews (by intro u hu; obtain ⟨y, _, rfl⟩ := List.mem_map.1 hu; rfl) (by unfold maxLen; omega) (by omega) hbase
      exact ⟨v', w', h1, by rw [List.length_append, List.map_append]; exact h2, h3⟩
  obtain ⟨v', w', h1, h2, h3⟩ := hrun
  unfold Oper.wp
  simp [execOp, ho, resolve, invoke, builtin, hs, hx, hty, h1, Result.andThen]
  exact hK' _ _ (hK v' w' h2 h3)

/-- slices.Grow of a nil slice. -/
theorem grow_any (n : Nat) (w : World) (hn : n ≤ 8388608) :
    Calls Try.prog 31 #[.slice none 0 0, .int .i64 n] w fun e w' => ∃ v, e = .returned v ∧ w'.ownsRow w.heap.size 9 1 v 0 [] ∧ w.grownBy w' none := by
  by_cases h0 : n = 0
  · subst h0
    exact (Try.slices_Grow_room none 0 0 0 w (Nat.le_refl _) (by omega) (by omega) (by omega)).mono fun e w' ⟨he, hw⟩ => ⟨_, he, World.ownsRow_nil _ _ _ _, by rw [hw]; exact ⟨rfl, rfl, rfl, Nat.le_refl _, fun _ _ _ => rfl⟩⟩
  · obtain ⟨i0, hi, hz0, hz1, hz2⟩ := info_parts info9
    refine (Try.slices_Grow_grow i0 (.string ⟨#[]⟩) hi hz0 (by omega) none 0 0 n [] w (Nat.le_refl _) (by omega) (by rw [hz2]; omega) (by omega) (by simp) (fun _ => rfl) (by intro a h; cases h)).mono fun e w' ⟨he, hw⟩ => ⟨_, he, ?_, ?_⟩
    · subst hw
      have hge := grownCap_ge w (0 + n) 0 9
      simp only [Nat.zero_add] at hge ⊢
      have hle := grownCap_le_maxLen w n 0 9 (by unfold maxLen; omega)
      exact World.ownsRow_made w.drew _ _ (Nat.le_refl _) hle (by simp [size_zeroCells, Value.cells]; omega)
    · subst hw
      exact ⟨rfl, rfl, rfl, by simp, fun k hk _ => Below.heap_alloc w.drew _ k hk⟩

/-- What comes back: a slice of the call's own that holds both. -/
def Joined (w : World) (xs : List ByteArray) (e : Ending) (w' : World) : Prop := ∃ v, e = .returned v ∧ w'.ownsRow w.heap.size 9 1 v xs.length (xs.map Value.string) ∧ Below w.heap.size w w'

/-- The first k of two lists, one behind the other. -/
def cc (xs ys : List ByteArray) : Nat → List ByteArray
  | 0 => []
  | 1 => xs
  | _ => xs ++ ys

set_option maxHeartbeats 2000000 in
theorem concat_any {w : World} {sb : Nat} {aa ab : Option Addr} {ca cb : Nat} {xs ys : List ByteArray} (c0 : w.cell? ⟨sb, 0, none⟩ = some (.slice aa xs.length ca)) (c1 : w.cell? ⟨sb, 1, none⟩ = some (.slice ab ys.length cb))
    (ra : Row w (.slice aa xs.length ca) xs) (rb : Row w (.slice ab ys.length cb) ys) (hl : xs.length + ys.length ≤ 4194304) :
    Calls Try.prog 23 #[.slice (some ⟨sb, 0, none⟩) 2 2] w fun e w' => Joined w (xs ++ ys) e w' := by
  have hsb : sb < w.heap.size := World.block_lt_of_cell? w _ c0
  have RA := hidP ra
  have RB := hidP rb
  clear ra rb
  generalize hn1 : xs.length = n1 at *
  generalize hn2 : ys.length = n2 at *
  have N1 := hidP hn1
  have N2 := hidP hn2
  clear hn1 hn2
  go_enter Try.func23, Try.ntmps23
  go_wp2_with fail
  go_loop [3, 11] (fun z i => (i = .int .i64 0 ∧ z = .int .i64 0) ∨ (i = .int .i64 1 ∧ z = .int .i64 n1) ∨ (i = .int .i64 2 ∧ z = .int .i64 (n1 + n2 : Nat))) (fun _ i => 2 - (intOf i).toNat)
  case atStart => exact .inl ⟨rfl, rfl⟩
  case round =>
    rcases hrel with ⟨rfl, rfl⟩ | ⟨rfl, rfl⟩ | ⟨rfl, rfl⟩
    · go_wp2_with fail
      go_round
      case rel => exact .inr (.inl ⟨rfl, rfl⟩)
      case measure => simp [intOf]
    · go_wp2_with fail
      go_round
      case rel => exact .inr (.inr ⟨rfl, by go_num⟩)
      case measure => simp [intOf]
    · go_wp2_with fail
      have hg := grow_any (n1 + n2) w (by omega)
      rw [Int.natCast_add] at hg
      refine hg.mono ?_
      clear hg
      rintro e w1 ⟨v0, rfl, h0, hg0⟩
      have b0 : Below w.heap.size w w1 := (Below.refl _ _).grown hg0 (Nat.le_refl _) (fun j hj => by cases hj)
      have B0 := hidP b0
      have H0 := hidP h0
      clear b0 h0 hg0
      go_wp2_with fail
      go_loopw [6, 27] (fun v i wr => ∃ k : Nat, k ≤ 2 ∧ i = .int .i64 k ∧ wr.ownsRow w.heap.size 9 1 v (cc xs ys k).length ((cc xs ys k).map Value.string) ∧ Below w.heap.size w wr) (fun _ i _ => 2 - (intOf i).toNat)
      case atStart => exact ⟨0, by omega, rfl, H0.out, B0.out⟩
      case round =>
        obtain ⟨k, hk, rfl, hown, hb⟩ := hrel
        have cw : ∀ i, wr.cell? ⟨sb, i, none⟩ = w.cell? ⟨sb, i, none⟩ := fun i => hb.cell (p := ⟨sb, i, none⟩) hsb
        have d0 : wr.cell? ⟨sb, 0, none⟩ = some (.slice aa n1 ca) := (cw 0).trans c0
        have d1 : wr.cell? ⟨sb, 1, none⟩ = some (.slice ab n2 cb) := (cw 1).trans c1
        have HO := hidP hown
        have HBl := hidP hb
        have hsz := hb.size
        clear cw hown hb c0 c1
        match k, hk with
        | 0, _ =>
          have hown : wr.ownsRow w.heap.size 9 1 u6 ([] : List ByteArray).length (([] : List ByteArray).map Value.string) := HO.out
          have hrow : Row wr (.slice aa n1 ca) xs := RA.out.below HBl.out
          have hlb : ([] : List ByteArray).length + xs.length ≤ 8388608 := by rw [N1.out]; simp; omega
          go_wp2_with (first
            | (at_builtin; refine wp_append_row _ rfl _ _ rfl rfl w.heap.size _ _ [] xs rfl hown rfl hrow hlb hsz ?_))
          intro v' w4 a1 a2
          have A1 := hidP a1
          have A2 := hidP (HBl.out.grown a2 hsz (fun j hj => (HO.out.lt j hj).1))
          clear a1 a2 hown hrow hlb
          go_wp2_with fail
          go_roundw
          case rel => exact ⟨1, by omega, rfl, A1.out, A2.out⟩
          case measure => simp [intOf]
        | 1, _ =>
          have hown : wr.ownsRow w.heap.size 9 1 u6 xs.length (xs.map Value.string) := HO.out
          have hrow : Row wr (.slice ab n2 cb) ys := RB.out.below HBl.out
          have hlb : xs.length + ys.length ≤ 8388608 := by rw [N1.out, N2.out]; omega
          go_wp2_with (first
            | (at_builtin; refine wp_append_row _ rfl _ _ rfl rfl w.heap.size _ _ xs ys rfl hown rfl hrow hlb hsz ?_))
          intro v' w4 a1 a2
          have A1 := hidP a1
          have A2 := hidP (HBl.out.grown a2 hsz (fun j hj => (HO.out.lt j hj).1))
          clear a1 a2 hown hrow hlb
          go_wp2_with fail
          go_roundw
          case rel => exact ⟨2, by omega, rfl, by simpa [cc] using A1.out, A2.out⟩
          case measure => simp [intOf]
        | 2, _ =>
          go_wp2_with fail
          go_ret
          exact ⟨_, rfl, HO.out, HBl.out⟩

end Go.Proofs.Qxb6617078a
