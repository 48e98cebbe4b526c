/-
  THE WALKS of zzPlace, the bounds' tests, and of the builder: ZZnewNetworkBuilder, peer, ZZpeer, ZZbuilderIDs, ZZbuilderIndex.
-/
import Derived.Test.Qxb6616555aRows
import Derived.Test.Qxb6616555aPos
import Derived.Test.Qxb6616555aStrMap
import Derived.Deep.AppendLies
import Derived.WalkKit
import Derived.WalkSpells
import Derived.WalkLawsBesides
import Derived.StillTactics
import Derived.Laws.Pointers
import Derived.RegionTactic
import Derived.Deep.QuietTactic
import Derived.BigQuiet
import Derived.RowKit3
namespace Go.Proofs.Qxb6616555a
open Go.RowKit

theorem hidP {p : Prop} (h : p) : Hid p := h

/-- THE SLICE VALUE v LEADS TO THE STRINGS ds. -/
def Row (w : World) (v : Value) (ds : List ByteArray) : Prop :=
  (∃ a c, v = .slice a 0 c ∧ ds = []) ∨ ∃ b off cap, v = .slice (some ⟨b, off, none⟩) ds.length cap ∧ ∀ (i : Nat) s, ds[i]? = some s → w.cell? ⟨b, off + i, none⟩ = some (.string s)

theorem Row.len {w : World} {v : Value} {ds : List ByteArray} (h : Row w v ds) : ∃ a c, v = .slice a ds.length c := by
  rcases h with ⟨a, c, rfl, rfl⟩ | ⟨b, off, cap, rfl, _⟩
  · exact ⟨a, c, rfl⟩
  · exact ⟨_, _, rfl⟩

theorem row_of_owns {w : World} {base : Nat} {v : Value} {ds : List ByteArray} (h : w.ownsRow base 9 1 v ds.length (ds.map Value.string)) : Row w v ds := by
  rcases h.2 with ⟨rfl, h0⟩ | ⟨g, cap, cur, rfl, hb, hg, _⟩
  · exact .inl ⟨none, 0, rfl, List.length_eq_zero_iff.1 h0⟩
  · refine .inr ⟨g, 0, cap, rfl, fun i s hs => ?_⟩
    have h1 := h.cells (g := g) rfl i (.string s) (by simp [hs])
    have hadd : (⟨g, 0, none⟩ : Addr).add i = ⟨g, i, none⟩ := by unfold Addr.add; split <;> simp_all
    rw [hadd] at h1
    simpa using h1

/-! ### zzPlace -/
def placeOf (ds : List ByteArray) (s : ByteArray) : Int := match Pl.pos ds s with | some i => (i : Int) | none => -1

theorem list_ne {a b : ByteArray} (h : ¬ a = b) : (a.toList == b.toList) = false := by
  rw [← beq_toListBytes]
  cases hc : (a == b)
  · rfl
  · exact absurd ((MapKept.bytes_beq a b).1 hc) h

set_option maxHeartbeats 400000 in
theorem place_nil (a : Option Addr) (c : Nat) (s : ByteArray) (w : World) :
    Calls Try.prog 16 #[.slice a 0 c, .string s] w fun e w' => e = .returned (.int .i64 (-1)) ∧ w' = w := by
  go_enter Try.func16, Try.ntmps16
  go_wp2
  go_loop [5] (fun i => i = .int .i64 0) (fun _ => 0)
  case atStart => rfl
  case round =>
    subst hrel
    go_wp2
    go_ret
    exact ⟨rfl, rfl⟩

set_option maxHeartbeats 400000 in
theorem place_row (b off cap : Nat) (ds : List ByteArray) (s : ByteArray) (w : World) (hl : ds.length ≤ 9223372036854775807) (hc : ∀ (i : Nat) t, ds[i]? = some t → w.cell? ⟨b, off + i, none⟩ = some (.string t)) :
    Calls Try.prog 16 #[.slice (some ⟨b, off, none⟩) ds.length cap, .string s] w fun e w' => e = .returned (.int .i64 (placeOf ds s)) ∧ w' = w := by
  generalize hn : ds.length = n
  have HN := hidP hn
  rw [hn] at hl
  clear hn
  go_enter Try.func16, Try.ntmps16
  go_wp2
  go_loop [5] (fun i => ∃ k : Nat, k ≤ n ∧ i = .int .i64 k ∧ ∀ j, j < k → ds[j]? ≠ some s) (fun i => n - (intOf i).toNat)
  case atStart => exact ⟨0, Nat.zero_le _, rfl, by intro j hj; omega⟩
  case round =>
    obtain ⟨k, hk, rfl, hf⟩ := hrel
    have HF := hidP hf
    clear hf
    by_cases hlt : k < n
    · obtain ⟨t, ht⟩ : ∃ t, ds[k]? = some t := ⟨ds[k]'(by rw [HN.out]; exact hlt), by rw [List.getElem?_eq_getElem]⟩
      have hck := hc k t ht
      have HT := hidP ht
      clear ht
      by_cases hts : t = s
      · subst hts
        go_wp2
        go_ret
        refine ⟨?_, rfl⟩
        unfold placeOf
        rw [Pl.pos_of HT.out HF.out]
        rfl
      · have hb := list_ne hts
        go_wp2
        go_round
        case rel =>
          refine ⟨k + 1, by omega, by go_num, fun j hj => ?_⟩
          by_cases hjk : j = k
          · subst hjk; rw [HT.out]; intro e; cases e; exact hts rfl
          · exact HF.out j (by omega)
        case measure => simp [intOf]; omega
    · go_wp2
      go_ret
      refine ⟨?_, rfl⟩
      unfold placeOf
      rw [Pl.pos_none_of (fun j hj => HF.out j (by have := HN.out; omega))]
      rfl

theorem place_any {w : World} {v : Value} {ds : List ByteArray} (h : Row w v ds) (hl : ds.length ≤ 9223372036854775807) (s : ByteArray) :
    Calls Try.prog 16 #[v, .string s] w fun e w' => e = .returned (.int .i64 (placeOf ds s)) ∧ w' = w := by
  rcases h with ⟨a, c, rfl, rfl⟩ | ⟨b, off, cap, rfl, hc⟩
  · exact place_nil a c s w
  · exact place_row b off cap ds s w hl hc

/-! ### The builder -/
/-- w' is w but for the blocks in S, and for new ones. -/
structure Chg (S : Nat → Prop) (w w' : World) : Prop where
  os : w'.os = w.os
  tape : w'.tape = w.tape
  output : w'.output = w.output
  size : w.heap.size ≤ w'.heap.size
  block : ∀ k, k < w.heap.size → ¬ S k → w'.heap[k]? = w.heap[k]?

theorem Chg.refl (S : Nat → Prop) (w : World) : Chg S w w := ⟨rfl, rfl, rfl, Nat.le_refl _, fun _ _ _ => rfl⟩
theorem Chg.trans {S : Nat → Prop} {a b c : World} (h : Chg S a b) (k : Chg S b c) : Chg S a c :=
  ⟨k.os.trans h.os, k.tape.trans h.tape, k.output.trans h.output, Nat.le_trans h.size k.size, fun i hi hs => (k.block i (Nat.lt_of_lt_of_le hi h.size) hs).trans (h.block i hi hs)⟩
theorem Chg.of_grown {S : Nat → Prop} {w w' : World} {row : Option Nat} (h : w.grownBy w' row) (hr : ∀ k, k < w.heap.size → row = some k → S k) : Chg S w w' :=
  ⟨h.os, h.tape, h.output, h.size, fun k hk hs => h.block k hk (fun e => hs (hr k hk e.symm))⟩
theorem Chg.alloc {S : Nat → Prop} {a w : World} (h : Chg S a w) (o : Obj) : Chg S a (w.alloc o) :=
  h.trans (Chg.of_grown (World.grownBy_alloc w o none) (fun _ _ e => by cases e))
theorem Chg.setCell {S : Nat → Prop} {a w : World} (h : Chg S a w) {p : Addr} (hp : S p.block) (u : Value) : Chg S a (w.setCell p u) :=
  h.trans ⟨rfl, rfl, rfl, by simp [World.setCell], fun k _ hs => Below.heap_setCell w p u k (fun e => hs (e ▸ hp))⟩
theorem Chg.below {S : Nat → Prop} {B : Nat} {w0 a w : World} (hb : Below B w0 a) (h : Chg S a w) (hB : B ≤ a.heap.size) (hs : ∀ k, k < B → ¬ S k) : Below B w0 w :=
  hb.trans ⟨h.os, h.tape, h.output, h.size, fun k hk => h.block k (by omega) (hs k hk)⟩

/-- What the index holds. -/
def idxFn (ds : List ByteArray) (s : ByteArray) : Option Value := (Pl.pos ds s).map fun i => .int .i64 (i : Int)

/-- THE BUILDER IN BLOCK nb, ITS INDEX IN BLOCK mb, ITS ids THE SLICE v: it has met ds. -/
structure Bld (base nb mb : Nat) (w : World) (v : Value) (ds : List ByteArray) : Prop where
  nbLt : nb < base
  mbLt : mb < base
  le : base ≤ w.heap.size
  ne : nb ≠ mb
  cellIds : w.cell? ⟨nb, 9, none⟩ = some v
  frz : w.frozen? ⟨nb, 9, none⟩ = false
  cellIdx : w.cell? ⟨nb, 10, none⟩ = some (.map (some mb))
  owns : w.ownsRow base 9 1 v ds.length (ds.map Value.string)
  isMap : SM.IsMap w mb (idxFn ds)

/-- What a call may turn: the builder's block, its index, its own row. -/
def Mine (nb mb : Nat) (v : Value) (k : Nat) : Prop := k = nb ∨ k = mb ∨ v.ownBlock = some k

theorem zero3 (w : World) : (zeroValue 3).run Try.prog w = .ok (.int .i64 0) w := by kernel_rfl
theorem info9 : (Try.prog.info? 9).map (fun i => (i.zero, i.size, i.bytes)) = some (some (.string ⟨#[]⟩), 1, 16) := by kernel_rfl

set_option maxHeartbeats 400000 in
theorem peer_old {base nb mb : Nat} {w : World} {v : Value} {ds : List ByteArray} (h : Bld base nb mb w v ds) {s : ByteArray} {i : Nat} (hp : Pl.pos ds s = some i) :
    Calls Try.prog 24 #[.pointer (some ⟨nb, 0, none⟩), .string s] w fun e w' => e = .returned (.int .i64 i) ∧ w' = w := by
  have hl := h.isMap.lookup (P := Try.prog) (t := 49) Try.underlying9 Try.underlying49 (zero3 w) s true
  have e1 : idxFn ds s = some (.int .i64 i) := by simp [idxFn, hp]
  rw [e1] at hl
  simp only [Option.getD_some, Option.isSome_some, if_true] at hl
  have c10 := h.cellIdx
  clear h hp e1
  go_enter Try.func24, Try.ntmps24
  go_wp2
  go_ret
  exact ⟨rfl, rfl⟩

theorem bld_grow {base nb mb : Nat} {w w1 w2 : World} {v : Value} {ds : List ByteArray} (h : Bld base nb mb w v ds) {s : ByteArray} (hp : Pl.pos ds s = none) {n g cap : Nat} (hn : ds.length = n)
    (hown1 : w1.ownsRow base 9 1 (.slice (some ⟨g, 0, none⟩) (n + 1) cap) (n + 1) (ds.map Value.string ++ [.string s])) (hlt : g < w1.heap.size) (hat : v.ownBlock = some g ∨ g = w.heap.size + 1) (hg : w.grownBy w1 v.ownBlock)
    (c10 : w1.cell? ⟨nb, 10, none⟩ = some (.map (some mb))) (f9 : w1.frozen? ⟨nb, 9, none⟩ = false) (c9 : w1.cell? ⟨nb, 9, none⟩ = some v)
    (m3 : SM.IsMap w2 mb (fun x => if x = s then some (.int .i64 (n : Int)) else idxFn ds x))
    (hg3 : (w1.setCell ⟨nb, 9, none⟩ (.slice (some ⟨g, 0, none⟩) (n + 1) cap)).grownBy w2 (some mb)) (hsz : w2.heap.size = w1.heap.size) :
    Bld base nb mb w2 (.slice (some ⟨g, 0, none⟩) (n + 1) cap) (ds ++ [s]) ∧ Chg (Mine nb mb v) w w2 ∧ ((Value.slice (some ⟨g, 0, none⟩) (n + 1) cap).ownBlock = v.ownBlock ∨ ∃ g', (Value.slice (some ⟨g, 0, none⟩) (n + 1) cap).ownBlock = some g' ∧ w.heap.size ≤ g') := by
  have hs1 := hg.size
  have hnb : nb < w.heap.size := Nat.lt_of_lt_of_le h.nbLt h.le
  have hgb : base ≤ g := (hown1.lt g rfl).1
  have hnbm : some (⟨nb, 9, none⟩ : Addr).block ≠ some mb := by simpa using h.ne
  have hszc : (w1.setCell ⟨nb, 9, none⟩ (.slice (some ⟨g, 0, none⟩) (n + 1) cap)).heap.size = w1.heap.size := by simp [World.setCell]
  refine ⟨⟨h.nbLt, h.mbLt, by have := h.le; omega, h.ne, ?_, ?_, ?_, ?_, ?_⟩, ?_, ?_⟩
  · refine hg3.cell ?_ hnbm
    exact World.cell?_setCell_same _ _ _ c9
  · rw [hg3.frozen_far ⟨nb, 9, none⟩ (by rw [hszc]; simp; omega) hnbm, World.frozen?_setCell]
    exact f9
  · refine hg3.cell ?_ hnbm
    rw [World.cell?_setCell_other _ _ _ _ (by simp)]
    exact c10
  · have gs : w1.grownBy (w1.setCell ⟨nb, 9, none⟩ (.slice (some ⟨g, 0, none⟩) (n + 1) cap)) (some nb) := ⟨rfl, rfl, rfl, by omega, fun k _ hk => Below.heap_setCell w1 _ _ k (fun e => hk (by rw [e]))⟩
    have hk := (hown1.kept gs (by right; simp [Value.ownBlock]; have := h.nbLt; omega)).kept hg3 (by right; simp [Value.ownBlock]; have := h.mbLt; omega)
    simpa [hn] using hk
  · have e : (fun x => if x = s then some (Value.int .i64 (n : Int)) else idxFn ds x) = idxFn (ds ++ [s]) := by
      funext x
      unfold idxFn
      rw [Pl.pos_snoc x hp, hn]
      by_cases hx : x = s <;> simp [hx]
    rw [← e]
    exact m3
  · have h1 : Chg (Mine nb mb v) w w1 := Chg.of_grown hg (fun k _ e => .inr (.inr e))
    have h2 := h1.setCell (p := ⟨nb, 9, none⟩) (.inl rfl) (.slice (some ⟨g, 0, none⟩) (n + 1) cap)
    exact h2.trans (Chg.of_grown hg3 (fun k _ e => .inr (.inl (by cases e; rfl))))
  · rcases hat with hat | hat
    · exact .inl (by rw [hat]; rfl)
    · exact .inr ⟨g, rfl, by omega⟩

set_option maxHeartbeats 400000 in
theorem peer_new {base nb mb : Nat} {w : World} {v : Value} {ds : List ByteArray} (h : Bld base nb mb w v ds) {s : ByteArray} (hp : Pl.pos ds s = none) (hlen : ds.length ≤ 1048576) :
    Calls Try.prog 24 #[.pointer (some ⟨nb, 0, none⟩), .string s] w fun e w' => e = .returned (.int .i64 ds.length) ∧
      ∃ v', Bld base nb mb w' v' (ds ++ [s]) ∧ Chg (Mine nb mb v) w w' ∧ (v'.ownBlock = v.ownBlock ∨ ∃ g, v'.ownBlock = some g ∧ w.heap.size ≤ g) := by
  have hl := h.isMap.lookup (P := Try.prog) (t := 49) Try.underlying9 Try.underlying49 (zero3 w) s true
  have e1 : idxFn ds s = none := by simp [idxFn, hp]
  rw [e1] at hl
  simp only [Option.getD_none, Option.isSome_none, if_true] at hl
  obtain ⟨a, c, rfl⟩ := (row_of_owns h.owns).len
  have c9 := h.cellIds
  have f9 := h.frz
  have c10 := h.cellIdx
  have hown := h.owns
  have hmap := h.isMap
  have hle := h.le
  have hn1 := h.nbLt
  have hn2 := h.mbLt
  have hne := h.ne
  obtain ⟨i0, hi, hz0, hz1, hz2⟩ := info_parts info9
  have HP := hidP hp
  have H := hidP h
  generalize hn : ds.length = n at *
  have HN := hidP hn
  clear h hp e1 hn
  go_enter Try.func24, Try.ntmps24
  go_wp2_with (first
      | (at_builtin; refine wpList_append_lies _ rfl _ _ 31 rfl base 9 i0 (.string ⟨#[]⟩) 1 16 Try.underlying31 hi hz0 hz1 hz2 rfl (by decide) (.slice a n c) n (ds.map Value.string) rfl (hown.alloc _) ⟨w.heap.size, 0, none⟩ 1 1 [.string s] rfl rfl ?c1 ?c2 (by decide) ?c3 ?c4 ?c5 _ rfl ?_))
  case c1 => exact cell_one_new _ _ _
  case c2 => intro u hu; simp at hu; subst hu; rfl
  case c3 => unfold maxLen; omega
  case c4 => omega
  case c5 => simp; omega
  intro g cap w1 hown1 hgrow hat hlt
  have hrow : ∀ k, (Value.slice a n c).ownBlock = some k → base ≤ k ∧ k < w.heap.size := hown.lt
  have hnbr : some nb ≠ (Value.slice a n c).ownBlock := fun e => by have := (hrow nb e.symm).1; omega
  have hmbr : some mb ≠ (Value.slice a n c).ownBlock := fun e => by have := (hrow mb e.symm).1; omega
  have hg2 : w.grownBy w1 (Value.slice a n c).ownBlock := (World.grownBy_alloc w _ _).trans hgrow
  have c9' : w1.cell? ⟨nb, 9, none⟩ = some (.slice a n c) := hg2.cell c9 hnbr
  have f9' : w1.frozen? ⟨nb, 9, none⟩ = false := (hg2.frozen_far ⟨nb, 9, none⟩ (by simp; omega) hnbr).trans f9
  have c10' : w1.cell? ⟨nb, 10, none⟩ = some (.map (some mb)) := hg2.cell c10 hnbr
  have m1 : SM.IsMap w1 mb (idxFn ds) := hmap.grown hg2 hmbr
  have m2 : SM.IsMap (w1.setCell ⟨nb, 9, none⟩ (.slice (some ⟨g, 0, none⟩) (n + 1) cap)) mb (idxFn ds) := m1.setCell (Ne.symm hne) _
  have HA := hidP hat
  have HR := hidP hrow
  have HG := hidP hg2
  clear hat hrow hgrow hg2 hl c9 f9 c10 hown hmap hnbr hmbr m1 hi hz0 hz1 hz2
  go_wp2_with (first
      | (at_mapUpdate; refine SM.wp_update _ rfl _ _ _ 49 rfl 9 3 Try.underlying9 Try.underlying49 mb (idxFn ds) rfl m2 s _ rfl rfl ?_))
  intro w2 m3 hg3 hsz
  have HG3 := hidP hg3
  have HS := hidP hsz
  clear hg3 hsz
  go_wp2
  go_ret
  refine ⟨rfl, _, bld_grow H.out HP.out HN.out hown1 hlt HA.out HG.out c10' f9' c9' m3 HG3.out HS.out⟩

set_option maxHeartbeats 400000 in
theorem zzPeer_old {base nb mb : Nat} {w : World} {v : Value} {ds : List ByteArray} (h : Bld base nb mb w v ds) {s : ByteArray} {i : Nat} (hp : Pl.pos ds s = some i) :
    Calls Try.prog 15 #[.pointer (some ⟨nb, 0, none⟩), .string s] w fun e w' => e = .returned (.int .i64 i) ∧ w' = w := by
  have HC := hidP (peer_old h hp)
  clear h hp
  go_enter Try.func15, Try.ntmps15
  go_wp2_with fail
  refine HC.out.mono ?_
  rintro e w' ⟨rfl, rfl⟩
  go_wp2
  go_ret
  exact ⟨rfl, rfl⟩

set_option maxHeartbeats 400000 in
theorem zzPeer_new {base nb mb : Nat} {w : World} {v : Value} {ds : List ByteArray} (h : Bld base nb mb w v ds) {s : ByteArray} (hp : Pl.pos ds s = none) (hlen : ds.length ≤ 1048576) :
    Calls Try.prog 15 #[.pointer (some ⟨nb, 0, none⟩), .string s] w fun e w' => e = .returned (.int .i64 ds.length) ∧
      ∃ v', Bld base nb mb w' v' (ds ++ [s]) ∧ Chg (Mine nb mb v) w w' ∧ (v'.ownBlock = v.ownBlock ∨ ∃ g, v'.ownBlock = some g ∧ w.heap.size ≤ g) := by
  have HC := hidP (peer_new h hp hlen)
  clear h hp
  go_enter Try.func15, Try.ntmps15
  go_wp2_with fail
  refine HC.out.mono ?_
  rintro e w' ⟨rfl, v', hr⟩
  have HR := hidP hr
  clear hr
  go_wp2
  go_ret
  exact ⟨rfl, v', HR.out⟩

set_option maxHeartbeats 400000 in
theorem new_any (w : World) : Calls Try.prog 14 #[] w fun e w' => e = .returned (.pointer (some ⟨w.heap.size + 1, 0, none⟩)) ∧
    w' = (w.alloc (.map #[] 0)).alloc (.cells #[.int .i64 0, .int .i64 0, .int .i64 0, .int .i64 0, .int .i64 0, .int .i64 0, .int .i64 0, .int .i64 0, .int .i64 0, .slice none 0 0, .map (some w.heap.size), .slice none 0 0] 56) := by
  have hmm := @run_makeMap Try.prog
  go_enter Try.func14, Try.ntmps14
  go_wp2
  go_ret
  exact ⟨rfl, rfl⟩

theorem bld_new (w : World) : Bld (w.heap.size + 2) (w.heap.size + 1) w.heap.size
    ((w.alloc (.map #[] 0)).alloc (.cells #[.int .i64 0, .int .i64 0, .int .i64 0, .int .i64 0, .int .i64 0, .int .i64 0, .int .i64 0, .int .i64 0, .int .i64 0, .slice none 0 0, .map (some w.heap.size), .slice none 0 0] 56)) (.slice none 0 0) [] := by
  have hb : ((w.alloc (.map #[] 0)).alloc (.cells #[.int .i64 0, .int .i64 0, .int .i64 0, .int .i64 0, .int .i64 0, .int .i64 0, .int .i64 0, .int .i64 0, .int .i64 0, .slice none 0 0, .map (some w.heap.size), .slice none 0 0] 56)).heap[w.heap.size + 1]? =
      some (.cells #[.int .i64 0, .int .i64 0, .int .i64 0, .int .i64 0, .int .i64 0, .int .i64 0, .int .i64 0, .int .i64 0, .int .i64 0, .slice none 0 0, .map (some w.heap.size), .slice none 0 0] 56) := heap_alloc2_new w _ _
  refine ⟨by omega, by omega, by simp, by omega, ?_, ?_, ?_, World.ownsRow_nil _ _ _ _, ?_⟩
  · unfold World.cell?; rw [hb]; rfl
  · unfold World.frozen?; rw [hb]; rfl
  · unfold World.cell?; rw [hb]; rfl
  · have h := (SM.made w).alloc (.cells #[.int .i64 0, .int .i64 0, .int .i64 0, .int .i64 0, .int .i64 0, .int .i64 0, .int .i64 0, .int .i64 0, .int .i64 0, .slice none 0 0, .map (some w.heap.size), .slice none 0 0] 56)
    have e : (fun _ => none) = idxFn [] := by funext x; rfl
    rw [← e]
    exact h

set_option maxHeartbeats 400000 in
theorem ids_any {base nb mb : Nat} {w : World} {v : Value} {ds : List ByteArray} (h : Bld base nb mb w v ds) :
    Calls Try.prog 17 #[.pointer (some ⟨nb, 0, none⟩)] w fun e w' => e = .returned v ∧ w' = w := by
  have c9 := h.cellIds
  clear h
  go_enter Try.func17, Try.ntmps17
  go_wp2
  go_ret
  exact ⟨rfl, rfl⟩

set_option maxHeartbeats 400000 in
theorem index_any {base nb mb : Nat} {w : World} {v : Value} {ds : List ByteArray} (h : Bld base nb mb w v ds) {s : ByteArray} {i : Nat} (hp : Pl.pos ds s = some i) :
    Calls Try.prog 18 #[.pointer (some ⟨nb, 0, none⟩), .string s] w fun e w' => e = .returned (.tuple #[.int .i64 i, .bool true]) ∧ w' = w := by
  have hl := h.isMap.lookup (P := Try.prog) (t := 49) Try.underlying9 Try.underlying49 (zero3 w) s true
  have e1 : idxFn ds s = some (.int .i64 i) := by simp [idxFn, hp]
  rw [e1] at hl
  simp only [Option.getD_some, Option.isSome_some, if_true] at hl
  have c10 := h.cellIdx
  clear h hp e1
  go_enter Try.func18, Try.ntmps18
  go_wp2
  go_ret2
  exact ⟨rfl, rfl⟩

end Go.Proofs.Qxb6616555a
