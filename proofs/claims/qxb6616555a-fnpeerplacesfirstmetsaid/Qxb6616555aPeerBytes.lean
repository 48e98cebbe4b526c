/-
  THE WALKS of the two bounds' tests: zzBytes_FnPeerPlacesFirstMet (13), zzBytes_FnPeerRepeatStable (19).
-/
import Derived.Test.Qxb6616555aPeer
namespace Go.Proofs.Qxb6616555a
open Go.RowKit

/-- What the bounds' test tells where it says yes. -/
def Small (ids : List ByteArray) : Prop := ids.length ≤ 1048576 ∧ ∀ (j : Nat) s, ids[j]? = some s → s.size ≤ 1048576

def SmallX (ids : List ByteArray) (x : ByteArray) : Prop := Small ids ∧ x.size ≤ 1048576

/-- A bool comes back; where it is true, p holds. -/
def Says (p : Prop) (e : Ending) : Prop := ∃ r, e = .returned (.bool r) ∧ (r = true → p)

set_option maxHeartbeats 400000 in
theorem bytes13_nil (a : Option Addr) (c : Nat) (w : World) : Calls Try.prog 13 #[.slice a 0 c] w fun e w' => e = .returned (.bool true) ∧ w' = w := by
  go_enter Try.func13, Try.ntmps13
  go_wp2
  go_loop [4] (fun i => i = .int .i64 0) (fun _ => 0)
  case atStart => rfl
  case round =>
    subst hrel
    go_wp2
    go_ret
    exact ⟨rfl, rfl⟩

set_option maxHeartbeats 400000 in
theorem bytes13_row (b off cap : Nat) (ds : List ByteArray) (w : World) (hl : ds.length ≤ 9223372036854775807) (hs : ∀ (i : Nat) t, ds[i]? = some t → t.size ≤ 9223372036854775807) (hc : ∀ (i : Nat) t, ds[i]? = some t → w.cell? ⟨b, off + i, none⟩ = some (.string t)) :
    Calls Try.prog 13 #[.slice (some ⟨b, off, none⟩) ds.length cap] w fun e w' => Says (Small ds) e ∧ w' = w := by
  generalize hn : ds.length = n
  have HN := hidP hn
  rw [hn] at hl
  clear hn
  by_cases hb : 1048576 < n
  · go_enter Try.func13, Try.ntmps13
    go_wp2
    go_ret
    exact ⟨⟨false, rfl, by intro e; cases e⟩, rfl⟩
  have hb' : n ≤ 1048576 := by omega
  clear hb
  go_enter Try.func13, Try.ntmps13
  go_wp2
  go_loop [3, 4] (fun z i => ∃ (k : Nat) (t : Int), k ≤ n ∧ i = .int .i64 k ∧ z = .int .i64 t ∧ 0 ≤ t ∧ t ≤ 1048576 ∧ ∀ (j : Nat), j < k → ∀ s, ds[j]? = some s → s.size ≤ 1048576) (fun _ i => n - (intOf i).toNat)
  case atStart => exact ⟨0, n, Nat.zero_le _, rfl, by simp, by omega, by omega, by intro j hj; omega⟩
  case round =>
    obtain ⟨k, t, hk, rfl, rfl, ht0, ht1, hf⟩ := hrel
    have HF := hidP hf
    clear hf
    by_cases hlt : k < n
    · obtain ⟨x, hx⟩ : ∃ x, ds[k]? = some x := ⟨ds[k]'(by rw [HN.out]; exact hlt), by rw [List.getElem?_eq_getElem]⟩
      have hck := hc k x hx
      have hsx := hs k x hx
      have HX := hidP hx
      clear hx
      by_cases h1 : 1048576 < x.size
      · go_wp2
        go_ret
        exact ⟨⟨false, rfl, by intro e; cases e⟩, rfl⟩
      · have h1' : x.size ≤ 1048576 := by omega
        clear h1 hsx
        by_cases h2 : 1048576 < t + x.size
        · go_wp2
          go_ret
          exact ⟨⟨false, rfl, by intro e; cases e⟩, rfl⟩
        · go_wp2
          go_round
          case rel =>
            refine ⟨k + 1, t + x.size, by omega, by go_num, rfl, by omega, by omega, fun j hj s hjs => ?_⟩
            by_cases hjk : j = k
            · subst hjk; rw [HX.out] at hjs; cases hjs; exact h1'
            · exact HF.out j (by omega) s hjs
          case measure => simp [intOf]; omega
    · go_wp2
      go_ret
      refine ⟨⟨true, rfl, fun _ => ⟨by rw [HN.out]; exact hb', fun j s hjs => ?_⟩⟩, rfl⟩
      have hjl : j < ds.length := by
        rcases Nat.lt_or_ge j ds.length with h | h
        · exact h
        · rw [List.getElem?_eq_none h] at hjs; cases hjs
      exact HF.out j (by have := HN.out; omega) s hjs

theorem bytes13 {w : World} {v : Value} {ds : List ByteArray} (h : Row w v ds) (hl : ds.length ≤ 9223372036854775807) (hs : ∀ (i : Nat) t, ds[i]? = some t → t.size ≤ 9223372036854775807) :
    Calls Try.prog 13 #[v] w fun e w' => Says (Small ds) e ∧ w' = w := by
  rcases h with ⟨a, c, rfl, rfl⟩ | ⟨b, off, cap, rfl, hc⟩
  · exact (bytes13_nil a c w).mono fun e w' ⟨he, hw⟩ => ⟨⟨true, he, fun _ => ⟨by simp, by intro j s h; simp at h⟩⟩, hw⟩
  · exact bytes13_row b off cap ds w hl hs hc

set_option maxHeartbeats 400000 in
theorem bytes19_nil (a : Option Addr) (c : Nat) (x : ByteArray) (w : World) (hx : x.size ≤ 9223372036854775807) : Calls Try.prog 19 #[.slice a 0 c, .string x] w fun e w' => Says (SmallX [] x) e ∧ w' = w := by
  by_cases h1 : 1048576 < x.size
  · go_enter Try.func19, Try.ntmps19
    go_wp2
    go_loop [5, 6] (fun z i => z = .int .i64 0 ∧ i = .int .i64 0) (fun _ _ => 0)
    case atStart => exact ⟨rfl, rfl⟩
    case round =>
      obtain ⟨rfl, rfl⟩ := hrel
      go_wp2
      go_ret
      exact ⟨⟨false, rfl, by intro e; cases e⟩, rfl⟩
  · have h2 : x.size ≤ 1048576 := by omega
    clear h1 hx
    go_enter Try.func19, Try.ntmps19
    go_wp2
    go_loop [5, 6] (fun z i => z = .int .i64 0 ∧ i = .int .i64 0) (fun _ _ => 0)
    case atStart => exact ⟨rfl, rfl⟩
    case round =>
      obtain ⟨rfl, rfl⟩ := hrel
      go_wp2
      go_ret
      exact ⟨⟨true, rfl, fun _ => ⟨⟨by simp, by intro j s h; simp at h⟩, h2⟩⟩, rfl⟩

set_option maxHeartbeats 400000 in
theorem bytes19_row (b off cap : Nat) (ds : List ByteArray) (y : ByteArray) (w : World) (hl : ds.length ≤ 9223372036854775807) (hy : y.size ≤ 9223372036854775807) (hs : ∀ (i : Nat) t, ds[i]? = some t → t.size ≤ 9223372036854775807) (hc : ∀ (i : Nat) t, ds[i]? = some t → w.cell? ⟨b, off + i, none⟩ = some (.string t)) :
    Calls Try.prog 19 #[.slice (some ⟨b, off, none⟩) ds.length cap, .string y] w fun e w' => Says (SmallX ds y) e ∧ w' = w := by
  generalize hn : ds.length = n
  have HN := hidP hn
  rw [hn] at hl
  clear hn
  by_cases hb : 1048576 < n
  · go_enter Try.func19, Try.ntmps19
    go_wp2
    go_ret
    exact ⟨⟨false, rfl, by intro e; cases e⟩, rfl⟩
  have hb' : n ≤ 1048576 := by omega
  clear hb
  go_enter Try.func19, Try.ntmps19
  go_wp2
  go_loop [5, 6] (fun z i => ∃ (k : Nat) (t : Int), k ≤ n ∧ i = .int .i64 k ∧ z = .int .i64 t ∧ 0 ≤ t ∧ t ≤ 1048576 ∧ ∀ (j : Nat), j < k → ∀ s, ds[j]? = some s → s.size ≤ 1048576) (fun _ i => n - (intOf i).toNat)
  case atStart => exact ⟨0, n, Nat.zero_le _, rfl, by simp, by omega, by omega, by intro j hj; omega⟩
  case round =>
    obtain ⟨k, t, hk, rfl, rfl, ht0, ht1, hf⟩ := hrel
    have HF := hidP hf
    clear hf
    by_cases hlt : k < n
    · obtain ⟨x, hx⟩ : ∃ x, ds[k]? = some x := ⟨ds[k]'(by rw [HN.out]; exact hlt), by rw [List.getElem?_eq_getElem]⟩
      have hck := hc k x hx
      have hsx := hs k x hx
      have HX := hidP hx
      clear hx
      by_cases h1 : 1048576 < x.size
      · go_wp2
        go_ret
        exact ⟨⟨false, rfl, by intro e; cases e⟩, rfl⟩
      · have h1' : x.size ≤ 1048576 := by omega
        clear h1 hsx
        by_cases h2 : 1048576 < t + x.size
        · go_wp2
          go_ret
          exact ⟨⟨false, rfl, by intro e; cases e⟩, rfl⟩
        · go_wp2
          go_round
          case rel =>
            refine ⟨k + 1, t + x.size, by omega, by go_num, rfl, by omega, by omega, fun j hj s hjs => ?_⟩
            by_cases hjk : j = k
            · subst hjk; rw [HX.out] at hjs; cases hjs; exact h1'
            · exact HF.out j (by omega) s hjs
          case measure => simp [intOf]; omega
    · by_cases h1 : 1048576 < y.size
      · go_wp2
        go_ret
        exact ⟨⟨false, rfl, by intro e; cases e⟩, rfl⟩
      · have h1' : y.size ≤ 1048576 := by omega
        clear h1 hy
        by_cases h2 : 1048576 < t + y.size
        · go_wp2
          go_ret
          exact ⟨⟨false, rfl, by intro e; cases e⟩, rfl⟩
        · go_wp2
          go_ret
          refine ⟨⟨true, rfl, fun _ => ⟨⟨by rw [HN.out]; exact hb', fun j s hjs => ?_⟩, h1'⟩⟩, rfl⟩
          have hjl : j < ds.length := by
            rcases Nat.lt_or_ge j ds.length with h | h
            · exact h
            · rw [List.getElem?_eq_none h] at hjs; cases hjs
          exact HF.out j (by have := HN.out; omega) s hjs

theorem bytes19 {w : World} {v : Value} {ds : List ByteArray} {y : ByteArray} (h : Row w v ds) (hl : ds.length ≤ 9223372036854775807) (hy : y.size ≤ 9223372036854775807) (hs : ∀ (i : Nat) t, ds[i]? = some t → t.size ≤ 9223372036854775807) :
    Calls Try.prog 19 #[v, .string y] w fun e w' => Says (SmallX ds y) e ∧ w' = w := by
  rcases h with ⟨a, c, rfl, rfl⟩ | ⟨b, off, cap, rfl, hc⟩
  · exact bytes19_nil a c y w hy
  · exact bytes19_row b off cap ds y w hl hy hs hc

end Go.Proofs.Qxb6616555a
