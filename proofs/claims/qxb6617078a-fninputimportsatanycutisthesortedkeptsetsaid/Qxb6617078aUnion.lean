/-
  THE WALK of zzUnion (11).
-/
import Derived.Test.Qxb6617078aHelp
namespace Go.Proofs.Qxb6617078a
open Go.RowKit

/-- Midway: U is the strictly rising union of the first i of A and the first j of B, and all of it lies before what is left. -/
structure PlU (A B : List ByteArray) (i j : Nat) (U : List ByteArray) : Prop where
  strict : Pl.Strict (U.map D)
  mem : ∀ x, x ∈ U ↔ x ∈ A.take i ∨ x ∈ B.take j
  ltA : ∀ x, x ∈ U → ∀ a, A[i]? = some a → D x < D a
  ltB : ∀ x, x ∈ U → ∀ b, B[j]? = some b → D x < D b
  len : U.length ≤ i + j

theorem PlU.swap {A B U : List ByteArray} {i j : Nat} (h : PlU A B i j U) : PlU B A j i U :=
  ⟨h.strict, fun x => (h.mem x).trans Or.comm, h.ltB, h.ltA, by have := h.len; omega⟩

theorem strict_next {A : List ByteArray} (hs : Pl.Strict (A.map D)) {i : Nat} {a a' : ByteArray} (h : A[i]? = some a) (h' : A[i + 1]? = some a') : D a < D a' := by
  have hpw := List.pairwise_iff_getElem.1 hs
  have hil := getElem?_lt h
  have hjl := getElem?_lt h'
  have := hpw i (i + 1) (by simpa using hil) (by simpa using hjl) (by omega)
  rw [List.getElem_map, List.getElem_map] at this
  rw [List.getElem?_eq_getElem hil] at h
  rw [List.getElem?_eq_getElem hjl] at h'
  rw [Option.some.inj h, Option.some.inj h'] at this
  exact this

theorem mem_take_next {A : List ByteArray} {i : Nat} {a x : ByteArray} (h : A[i]? = some a) : x ∈ A.take (i + 1) ↔ x ∈ A.take i ∨ x = a := by
  rw [List.take_add_one, h, List.mem_append]
  simp

theorem strict_push {U : List ByteArray} {a : ByteArray} (hs : Pl.Strict (U.map D)) (h : ∀ x, x ∈ U → D x < D a) : Pl.Strict ((U ++ [a]).map D) := by
  unfold Pl.Strict at hs ⊢
  rw [List.map_append, List.pairwise_append]
  refine ⟨hs, by simp, fun y hy z hz => ?_⟩
  obtain ⟨x, hx, rfl⟩ := List.mem_map.1 hy
  have : z = D a := by simpa using hz
  subst this
  exact h x hx

theorem PlU.left {A B U : List ByteArray} {i j : Nat} {a : ByteArray} (h : PlU A B i j U) (hA : Pl.Strict (A.map D)) (ha : A[i]? = some a) (hab : ∀ b, B[j]? = some b → D a < D b) : PlU A B (i + 1) j (U ++ [a]) := by
  refine ⟨strict_push h.strict (fun x hx => h.ltA x hx a ha), fun x => ?_, fun x hx a' ha' => ?_, fun x hx b hb => ?_, by have := h.len; simp; omega⟩
  · rw [List.mem_append, h.mem x, mem_take_next ha, List.mem_singleton]
    constructor
    · rintro ((h1 | h1) | h1)
      · exact .inl (.inl h1)
      · exact .inr h1
      · exact .inl (.inr h1)
    · rintro ((h1 | h1) | h1)
      · exact .inl (.inl h1)
      · exact .inr h1
      · exact .inl (.inr h1)
  · rw [List.mem_append, List.mem_singleton] at hx
    rcases hx with hx | hx
    · exact Pl.lt_trans (h.ltA x hx a ha) (strict_next hA ha ha')
    · subst hx; exact strict_next hA ha ha'
  · rw [List.mem_append, List.mem_singleton] at hx
    rcases hx with hx | hx
    · exact h.ltB x hx b hb
    · subst hx; exact hab b hb

theorem PlU.right {A B U : List ByteArray} {i j : Nat} {b : ByteArray} (h : PlU A B i j U) (hB : Pl.Strict (B.map D)) (hb : B[j]? = some b) (hba : ∀ a, A[i]? = some a → D b < D a) : PlU A B i (j + 1) (U ++ [b]) :=
  (h.swap.left hB hb hba).swap

theorem PlU.both {A B U : List ByteArray} {i j : Nat} {a : ByteArray} (h : PlU A B i j U) (hA : Pl.Strict (A.map D)) (hB : Pl.Strict (B.map D)) (ha : A[i]? = some a) (hb : B[j]? = some a) : PlU A B (i + 1) (j + 1) (U ++ [a]) := by
  refine ⟨strict_push h.strict (fun x hx => h.ltA x hx a ha), fun x => ?_, fun x hx a' ha' => ?_, fun x hx b' hb' => ?_, by have := h.len; simp; omega⟩
  · rw [List.mem_append, h.mem x, mem_take_next ha, mem_take_next hb, List.mem_singleton]
    constructor
    · rintro ((h1 | h1) | h1)
      · exact .inl (.inl h1)
      · exact .inr (.inl h1)
      · exact .inl (.inr h1)
    · rintro ((h1 | h1) | (h1 | h1))
      · exact .inl (.inl h1)
      · exact .inr h1
      · exact .inl (.inr h1)
      · exact .inr h1
  · rw [List.mem_append, List.mem_singleton] at hx
    rcases hx with hx | hx
    · exact Pl.lt_trans (h.ltA x hx a ha) (strict_next hA ha ha')
    · subst hx; exact strict_next hA ha ha'
  · rw [List.mem_append, List.mem_singleton] at hx
    rcases hx with hx | hx
    · exact Pl.lt_trans (h.ltB x hx a hb) (strict_next hB hb hb')
    · subst hx; exact strict_next hB hb hb'

theorem eq_of_not_lt {a b : ByteArray} (h1 : ¬ D a < D b) (h2 : ¬ D b < D a) : a = b := by
  by_cases e : D a = D b
  · exact D_inj e
  · exact absurd (Pl.lt_of_not h2 e) h1

structure InvU (w : World) (A B : List ByteArray) (i j : Nat) (v : Value) (U : List ByteArray) (wr : World) : Prop where
  pl : PlU A B i j U
  owns : wr.ownsRow w.heap.size 9 1 v U.length (U.map Value.string)
  below : Below w.heap.size w wr

theorem InvU.push {w w4 : World} {A B U : List ByteArray} {i j g cap : Nat} {s : ByteArray} (hp : PlU A B i j (U ++ [s])) (a1 : w4.ownsRow w.heap.size 9 1 (.slice (some ⟨g, 0, none⟩) (U.length + 1) cap) (U.length + 1) (U.map Value.string ++ [.string s])) (hb : Below w.heap.size w w4) :
    InvU w A B i j (.slice (some ⟨g, 0, none⟩) (U.length + 1) cap) (U ++ [s]) w4 := ⟨hp, by simpa using a1, hb⟩

/-- The union: a slice of the call's own. -/
def United (w : World) (A B : List ByteArray) (e : Ending) (w' : World) : Prop := ∃ U, Pl.Strict (U.map D) ∧ (∀ x, x ∈ U ↔ x ∈ A ∨ x ∈ B) ∧ Owned w U e w'

set_option maxRecDepth 100000 in
set_option maxHeartbeats 8000000 in
theorem union_any {w : World} {v1 v2 : Value} {A B : List ByteArray} (r1 : Row w v1 A) (r2 : Row w v2 B) (hA : Pl.Strict (A.map D)) (hB : Pl.Strict (B.map D)) (hla : A.length ≤ 1048576) (hlb : B.length ≤ 1048576) :
    Calls Try.prog 11 #[v1, v2] w fun e w' => United w A B e w' := by
  obtain ⟨a1, c1, rfl, hc1⟩ := r1
  obtain ⟨a2, c2, rfl, hc2⟩ := r2
  have H1 := hidP hc1
  have H2 := hidP hc2
  have SA := hidP hA
  have SB := hidP hB
  clear hc1 hc2 hA hB
  generalize hna : A.length = na at *
  have NA := hidP hna
  clear hna
  generalize hnb : B.length = nb at *
  have NB := hidP hnb
  clear hnb
  go_enter Try.func11, Try.ntmps11
  go_wp2
  go_loopw [5, 6, 7] (fun v iv jv wr => ∃ (i j : Nat) (U : List ByteArray), i ≤ na ∧ j ≤ nb ∧ iv = .int .i64 i ∧ jv = .int .i64 j ∧ InvU w A B i j v U wr) (fun _ iv jv _ => (na - (intOf iv).toNat) + (nb - (intOf jv).toNat))
  case atStart => exact ⟨0, 0, [], Nat.zero_le _, Nat.zero_le _, rfl, rfl, ⟨by simp [Pl.Strict], by simp, by simp, by simp, by simp⟩, World.ownsRow_nil _ _ _ _, Below.refl _ _⟩
  case round =>
    obtain ⟨i, j, U, hi, hj, rfl, rfl, hinv⟩ := hrel
    have HI := hidP hinv
    have hUl : U.length ≤ 2097152 := by have := hinv.pl.len; omega
    have hsz := hinv.below.size
    clear hinv
    have i0 : (0 : Int) ≤ (i : Int) := by omega
    have j0 : (0 : Int) ≤ (j : Int) := by omega
    by_cases hjn : j < nb
    · obtain ⟨b, hb⟩ : ∃ b, B[j]? = some b := ⟨B[j]'(by rw [NB.out]; exact hjn), by rw [List.getElem?_eq_getElem]⟩
      obtain ⟨b2, o2, rfl, hcy2⟩ := H2.out j b hb
      have hbl2 : b2 < w.heap.size := World.block_lt_of_cell? w _ hcy2
      have hk2 : wr.cell? ⟨b2, o2 + j, none⟩ = some (.string b) := (HI.out.below.cell (p := ⟨b2, o2 + j, none⟩) hbl2).trans hcy2
      have HBJ := hidP hb
      have j1 : (j : Int) < (nb : Int) := by omega
      have j2 : decide ((nb : Int) ≤ (j : Int)) = false := decide_eq_false (by omega)
      have j3 : decide ((j : Int) < (nb : Int)) = true := decide_eq_true j1
      clear hb hcy2
      by_cases hin : i < na
      · obtain ⟨a, ha⟩ : ∃ a, A[i]? = some a := ⟨A[i]'(by rw [NA.out]; exact hin), by rw [List.getElem?_eq_getElem]⟩
        obtain ⟨b1, o1, rfl, hcy1⟩ := H1.out i a ha
        have hbl1 : b1 < w.heap.size := World.block_lt_of_cell? w _ hcy1
        have hk1 : wr.cell? ⟨b1, o1 + i, none⟩ = some (.string a) := (HI.out.below.cell (p := ⟨b1, o1 + i, none⟩) hbl1).trans hcy1
        have HAI := hidP ha
        have i1 : (i : Int) < (na : Int) := by omega
        have i2 : decide ((na : Int) ≤ (i : Int)) = false := decide_eq_false (by omega)
        have i3 : decide ((i : Int) < (na : Int)) = true := decide_eq_true i1
        clear ha hcy1
        by_cases hab : D a < D b
        · have l1 : Op.bytesLess a.toList b.toList = true := by rw [less_eq]; exact decide_eq_true hab
          have HAB := hidP hab
          clear hab
          go_wp2
          go_quiet (fail)
          have wqb := below_drewN_refl wr nq wr.heap.size
          have wqhk1 : (wr.drewN nq).cell? ⟨b1, o1 + i, none⟩ = some (.string a) := hk1
          generalize wr.drewN nq = wq at *
          have HBQ := hidP wqb
          have hown := own_below HI.out.owns HBQ.out
          have hzq := HBQ.out.size
          obtain ⟨f0, hf, hz0, hz1, hz2⟩ := info_parts info9
          go_wp2_with (first
            | (at_builtin; refine wpList_append_lies _ rfl _ _ 22 rfl w.heap.size 9 f0 (.string ⟨#[]⟩) 1 16 Try.underlying22 hf hz0 hz1 hz2 rfl (by decide) _ U.length (U.map Value.string) rfl (hown.alloc _) ⟨wq.heap.size, 0, none⟩ 1 1 [.string a] rfl rfl ?b1 ?b2 (by decide) ?b3 ?b4 ?b5 _ rfl ?_))
          case b1 => exact cell_one_new _ _ _
          case b2 => intro u hu; simp at hu; subst hu; rfl
          case b3 => unfold maxLen; omega
          case b4 => omega
          case b5 => simp; omega
          intro g cap' w4 a1' a2' a3' _
          have A1 := hidP a1'
          have A2 := hidP (show Below w.heap.size w w4 from (HI.out.below.trans (HBQ.out.mono hsz)).grown ((World.grownBy_alloc wq _ _).trans a2') (by omega) (fun k hk => (hown.lt k hk).1))
          clear a1' a2' a3' hown hf hz0 hz1 hz2
          go_wp2_with fail
          go_roundw
          case rel => exact ⟨i + 1, j, _, by omega, by omega, by first | rfl | go_num, by first | rfl | go_num, InvU.push (HI.out.pl.left SA.out HAI.out (fun b' hb' => by rw [HBJ.out] at hb'; cases hb'; exact HAB.out)) A1.out A2.out⟩
          case measure => simp [intOf]; omega
        · have l1 : Op.bytesLess a.toList b.toList = false := by rw [less_eq]; exact decide_eq_false hab
          have HAB := hidP hab
          clear hab
          by_cases hba : D b < D a
          · have l2 : Op.bytesLess b.toList a.toList = true := by rw [less_eq]; exact decide_eq_true hba
            have HBA := hidP hba
            clear hba
            go_wp2
            go_quiet (fail)
            have wqb := below_drewN_refl wr nq wr.heap.size
            have wqhk1 : (wr.drewN nq).cell? ⟨b1, o1 + i, none⟩ = some (.string a) := hk1
            have wqhk2 : (wr.drewN nq).cell? ⟨b2, o2 + j, none⟩ = some (.string b) := hk2
            generalize wr.drewN nq = wq at *
            go_wp2
            go_quiet (fail)
            have wzb := below_drewN_refl wq nq wq.heap.size
            have wzhk2 : (wq.drewN nq).cell? ⟨b2, o2 + j, none⟩ = some (.string b) := wqhk2
            generalize wq.drewN nq = wz at *
            have HBQ := hidP (show Below wr.heap.size wr wz from wqb.trans (wzb.mono wqb.size))
            have hown := own_below HI.out.owns HBQ.out
            have hzq := HBQ.out.size
            obtain ⟨f0, hf, hz0, hz1, hz2⟩ := info_parts info9
            go_wp2_with (first
              | (at_builtin; refine wpList_append_lies _ rfl _ _ 22 rfl w.heap.size 9 f0 (.string ⟨#[]⟩) 1 16 Try.underlying22 hf hz0 hz1 hz2 rfl (by decide) _ U.length (U.map Value.string) rfl (hown.alloc _) ⟨wz.heap.size, 0, none⟩ 1 1 [.string b] rfl rfl ?c1 ?c2 (by decide) ?c3 ?c4 ?c5 _ rfl ?_))
            case c1 => exact cell_one_new _ _ _
            case c2 => intro u hu; simp at hu; subst hu; rfl
            case c3 => unfold maxLen; omega
            case c4 => omega
            case c5 => simp; omega
            intro g cap' w4 a1' a2' a3' _
            have A1 := hidP a1'
            have A2 := hidP (show Below w.heap.size w w4 from (HI.out.below.trans (HBQ.out.mono hsz)).grown ((World.grownBy_alloc wz _ _).trans a2') (by omega) (fun k hk => (hown.lt k hk).1))
            clear a1' a2' a3' hown hf hz0 hz1 hz2
            go_wp2_with fail
            go_roundw
            case rel => exact ⟨i, j + 1, _, by omega, by omega, by first | rfl | go_num, by first | rfl | go_num, InvU.push (HI.out.pl.right SB.out HBJ.out (fun a' ha' => by rw [HAI.out] at ha'; cases ha'; exact HBA.out)) A1.out A2.out⟩
            case measure => simp [intOf]; omega
          · have l2 : Op.bytesLess b.toList a.toList = false := by rw [less_eq]; exact decide_eq_false hba
            have heq : a = b := eq_of_not_lt HAB.out hba
            subst heq
            clear hba HAB
            go_wp2
            go_quiet (fail)
            have wqb := below_drewN_refl wr nq wr.heap.size
            have wqhk1 : (wr.drewN nq).cell? ⟨b1, o1 + i, none⟩ = some (.string a) := hk1
            have wqhk2 : (wr.drewN nq).cell? ⟨b2, o2 + j, none⟩ = some (.string a) := hk2
            generalize wr.drewN nq = wq at *
            go_wp2
            go_quiet (fail)
            have wzb := below_drewN_refl wq nq wq.heap.size
            have wzhk1 : (wq.drewN nq).cell? ⟨b1, o1 + i, none⟩ = some (.string a) := wqhk1
            generalize wq.drewN nq = wz at *
            have HBQ := hidP (show Below wr.heap.size wr wz from wqb.trans (wzb.mono wqb.size))
            have hown := own_below HI.out.owns HBQ.out
            have hzq := HBQ.out.size
            obtain ⟨f0, hf, hz0, hz1, hz2⟩ := info_parts info9
            go_wp2_with (first
              | (at_builtin; refine wpList_append_lies _ rfl _ _ 22 rfl w.heap.size 9 f0 (.string ⟨#[]⟩) 1 16 Try.underlying22 hf hz0 hz1 hz2 rfl (by decide) _ U.length (U.map Value.string) rfl (hown.alloc _) ⟨wz.heap.size, 0, none⟩ 1 1 [.string a] rfl rfl ?d1 ?d2 (by decide) ?d3 ?d4 ?d5 _ rfl ?_))
            case d1 => exact cell_one_new _ _ _
            case d2 => intro u hu; simp at hu; subst hu; rfl
            case d3 => unfold maxLen; omega
            case d4 => omega
            case d5 => simp; omega
            intro g cap' w4 a1' a2' a3' _
            have A1 := hidP a1'
            have A2 := hidP (show Below w.heap.size w w4 from (HI.out.below.trans (HBQ.out.mono hsz)).grown ((World.grownBy_alloc wz _ _).trans a2') (by omega) (fun k hk => (hown.lt k hk).1))
            clear a1' a2' a3' hown hf hz0 hz1 hz2
            go_wp2_with fail
            go_roundw
            case rel => exact ⟨i + 1, j + 1, _, by omega, by omega, by first | rfl | go_num, by first | rfl | go_num, InvU.push (HI.out.pl.both SA.out SB.out HAI.out HBJ.out) A1.out A2.out⟩
            case measure => simp [intOf]; omega
      · have i4 : (na : Int) ≤ (i : Int) := by omega
        go_wp2
        have i3 : decide ((i : Int) < (na : Int)) = false := decide_eq_false (by omega)
        have j2 : decide ((nb : Int) ≤ (j : Int)) = false := decide_eq_false (by omega)
        have j5 : decide (nb ≤ j) = false := decide_eq_false (by omega)
        have i5 : decide (i < na) = false := decide_eq_false (by omega)
        go_quiet (fail)
        have wqb := below_drewN_refl wr nq wr.heap.size
        have wqhk2 : (wr.drewN nq).cell? ⟨b2, o2 + j, none⟩ = some (.string b) := hk2
        generalize wr.drewN nq = wq at *
        go_wp2
        go_quiet (fail)
        have wzb := below_drewN_refl wq nq wq.heap.size
        have wzhk2 : (wq.drewN nq).cell? ⟨b2, o2 + j, none⟩ = some (.string b) := wqhk2
        generalize wq.drewN nq = wz at *
        have HBQ := hidP (show Below wr.heap.size wr wz from wqb.trans (wzb.mono wqb.size))
        have hown := own_below HI.out.owns HBQ.out
        have hzq := HBQ.out.size
        obtain ⟨f0, hf, hz0, hz1, hz2⟩ := info_parts info9
        go_wp2_with (first
          | (at_builtin; refine wpList_append_lies _ rfl _ _ 22 rfl w.heap.size 9 f0 (.string ⟨#[]⟩) 1 16 Try.underlying22 hf hz0 hz1 hz2 rfl (by decide) _ U.length (U.map Value.string) rfl (hown.alloc _) ⟨wz.heap.size, 0, none⟩ 1 1 [.string b] rfl rfl ?e1 ?e2 (by decide) ?e3 ?e4 ?e5 _ rfl ?_))
        case e1 => exact cell_one_new _ _ _
        case e2 => intro u hu; simp at hu; subst hu; rfl
        case e3 => unfold maxLen; omega
        case e4 => omega
        case e5 => simp; omega
        intro g cap' w4 a1' a2' a3' _
        have A1 := hidP a1'
        have A2 := hidP (show Below w.heap.size w w4 from (HI.out.below.trans (HBQ.out.mono hsz)).grown ((World.grownBy_alloc wz _ _).trans a2') (by omega) (fun k hk => (hown.lt k hk).1))
        clear a1' a2' a3' hown hf hz0 hz1 hz2
        go_wp2_with fail
        go_roundw
        case rel => exact ⟨i, j + 1, _, by omega, by omega, by first | rfl | go_num, by first | rfl | go_num, InvU.push (HI.out.pl.right SB.out HBJ.out (fun a' ha' => absurd (getElem?_lt ha') (by rw [NA.out]; omega))) A1.out A2.out⟩
        case measure => simp [intOf]; omega
    · have j4 : (nb : Int) ≤ (j : Int) := by omega
      have j2 : decide ((nb : Int) ≤ (j : Int)) = true := decide_eq_true (by omega)
      have j3 : decide ((j : Int) < (nb : Int)) = false := decide_eq_false (by omega)
      by_cases hin : i < na
      · obtain ⟨a, ha⟩ : ∃ a, A[i]? = some a := ⟨A[i]'(by rw [NA.out]; exact hin), by rw [List.getElem?_eq_getElem]⟩
        obtain ⟨b1, o1, rfl, hcy1⟩ := H1.out i a ha
        have hbl1 : b1 < w.heap.size := World.block_lt_of_cell? w _ hcy1
        have hk1 : wr.cell? ⟨b1, o1 + i, none⟩ = some (.string a) := (HI.out.below.cell (p := ⟨b1, o1 + i, none⟩) hbl1).trans hcy1
        have HAI := hidP ha
        have i1 : (i : Int) < (na : Int) := by omega
        have i2 : decide ((na : Int) ≤ (i : Int)) = false := decide_eq_false (by omega)
        have i3 : decide ((i : Int) < (na : Int)) = true := decide_eq_true i1
        clear ha hcy1
        go_wp2
        go_quiet (fail)
        have wqb := below_drewN_refl wr nq wr.heap.size
        have wqhk1 : (wr.drewN nq).cell? ⟨b1, o1 + i, none⟩ = some (.string a) := hk1
        generalize wr.drewN nq = wq at *
        have HBQ := hidP wqb
        have hown := own_below HI.out.owns HBQ.out
        have hzq := HBQ.out.size
        obtain ⟨f0, hf, hz0, hz1, hz2⟩ := info_parts info9
        go_wp2_with (first
          | (at_builtin; refine wpList_append_lies _ rfl _ _ 22 rfl w.heap.size 9 f0 (.string ⟨#[]⟩) 1 16 Try.underlying22 hf hz0 hz1 hz2 rfl (by decide) _ U.length (U.map Value.string) rfl (hown.alloc _) ⟨wq.heap.size, 0, none⟩ 1 1 [.string a] rfl rfl ?f1 ?f2 (by decide) ?f3 ?f4 ?f5 _ rfl ?_))
        case f1 => exact cell_one_new _ _ _
        case f2 => intro u hu; simp at hu; subst hu; rfl
        case f3 => unfold maxLen; omega
        case f4 => omega
        case f5 => simp; omega
        intro g cap' w4 a1' a2' a3' _
        have A1 := hidP a1'
        have A2 := hidP (show Below w.heap.size w w4 from (HI.out.below.trans (HBQ.out.mono hsz)).grown ((World.grownBy_alloc wq _ _).trans a2') (by omega) (fun k hk => (hown.lt k hk).1))
        clear a1' a2' a3' hown hf hz0 hz1 hz2
        go_wp2_with fail
        go_roundw
        case rel => exact ⟨i + 1, j, _, by omega, by omega, by first | rfl | go_num, by first | rfl | go_num, InvU.push (HI.out.pl.left SA.out HAI.out (fun b' hb' => absurd (getElem?_lt hb') (by rw [NB.out]; omega))) A1.out A2.out⟩
        case measure => simp [intOf]; omega
      · have i4 : (na : Int) ≤ (i : Int) := by omega
        have i2 : decide ((na : Int) ≤ (i : Int)) = true := decide_eq_true (by omega)
        have i3 : decide ((i : Int) < (na : Int)) = false := decide_eq_false (by omega)
        go_wp2
        go_ret
        refine ⟨U, HI.out.pl.strict, fun x => ?_, ⟨_, rfl, HI.out.owns, HI.out.below⟩⟩
        rw [HI.out.pl.mem x, List.take_of_length_le (by rw [NA.out]; omega), List.take_of_length_le (by rw [NB.out]; omega)]
end Go.Proofs.Qxb6617078a
