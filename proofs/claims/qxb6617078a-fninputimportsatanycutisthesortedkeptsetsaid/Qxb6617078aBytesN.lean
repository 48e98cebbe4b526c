/-
  THE WALKS of the bounds' tests of the two laws on InputImports: zzBytes (15), zzBytes (7).
-/
import Derived.Test.Qxb6617078aKit
namespace Go.Proofs.Qxb6617078a
open Go.RowKit

def Small3 (a b c : List ByteArray) : Prop := Small a ∧ Small b ∧ Small c

set_option maxHeartbeats 2000000 in
theorem bytes15 {w : World} {v1 v2 v3 : Value} {d1 d2 d3 : List ByteArray} (h1 : Row w v1 d1) (hl1 : d1.length ≤ 9223372036854775807) (hs1 : ∀ (i : Nat) t, d1[i]? = some t → t.size ≤ 9223372036854775807) (h2 : Row w v2 d2) (hl2 : d2.length ≤ 9223372036854775807) (hs2 : ∀ (i : Nat) t, d2[i]? = some t → t.size ≤ 9223372036854775807) (h3 : Row w v3 d3) (hl3 : d3.length ≤ 9223372036854775807) (hs3 : ∀ (i : Nat) t, d3[i]? = some t → t.size ≤ 9223372036854775807) :
    Calls Try.prog 15 #[v1, v2, v3] w fun e w' => Says (Small3 d1 d2 d3) e ∧ w' = w := by
  obtain ⟨a1, cap1, rfl, hc1⟩ := h1
  obtain ⟨a2, cap2, rfl, hc2⟩ := h2
  obtain ⟨a3, cap3, rfl, hc3⟩ := h3
  have HC1 := hidP hc1
  have HS1 := hidP hs1
  have HC2 := hidP hc2
  have HS2 := hidP hs2
  have HC3 := hidP hc3
  have HS3 := hidP hs3
  clear hc1 hc2 hc3 hs1 hs2 hs3
  generalize hn1 : d1.length = n1 at *
  have HN1 := hidP hn1
  clear hn1
  generalize hn2 : d2.length = n2 at *
  have HN2 := hidP hn2
  clear hn2
  generalize hn3 : d3.length = n3 at *
  have HN3 := hidP hn3
  clear hn3
  by_cases hb1 : 1048576 < n1
  · go_enter Try.func15, Try.ntmps15
    go_wp2_with fail
    go_ret
    exact ⟨⟨false, rfl, by intro e; cases e⟩, rfl⟩
  have hb1' : n1 ≤ 1048576 := by omega
  clear hb1 hl1
  go_enter Try.func15, Try.ntmps15
  go_wp2_with fail
  go_loop [7, 8] (fun z i => ∃ (k : Nat) (t : Int), k ≤ n1 ∧ i = .int .i64 k ∧ z = .int .i64 t ∧ 0 ≤ t ∧ t ≤ 1048576 ∧ ∀ (j : Nat), j < k → ∀ s, d1[j]? = some s → s.size ≤ 1048576) (fun _ i => n1 - (intOf i).toNat)
  case atStart => exact ⟨0, n1, Nat.zero_le _, rfl, by first | rfl | simp, by omega, by omega, by intro j hj; omega⟩
  case round =>
    obtain ⟨k, t1, hk, rfl, rfl, ht0, ht1, hf⟩ := hrel
    have HF1 := hidP hf
    clear hf
    by_cases hlt : k < n1
    · obtain ⟨x, hx⟩ : ∃ x, d1[k]? = some x := ⟨d1[k]'(by rw [HN1.out]; exact hlt), by rw [List.getElem?_eq_getElem]⟩
      obtain ⟨b, off, rfl, hck⟩ := HC1.out k x hx
      have hsx := HS1.out k x hx
      have HX := hidP hx
      clear hx
      by_cases h1 : 1048576 < x.size
      · go_wp2_with fail
        go_ret
        exact ⟨⟨false, rfl, by intro e; cases e⟩, rfl⟩
      · have h1' : x.size ≤ 1048576 := by omega
        clear h1 hsx
        by_cases h2 : 1048576 < t1 + x.size
        · go_wp2_with fail
          go_ret
          exact ⟨⟨false, rfl, by intro e; cases e⟩, rfl⟩
        · go_wp2_with fail
          go_round
          case rel =>
            refine ⟨k + 1, t1 + x.size, by omega, by go_num, rfl, by omega, by omega, fun j hj s hjs => ?_⟩
            by_cases hjk : j = k
            · subst hjk; rw [HX.out] at hjs; cases hjs; exact h1'
            · exact HF1.out j (by omega) s hjs
          case measure => simp [intOf]; omega
    have HD1 := hidP (show ∀ (j : Nat) s, d1[j]? = some s → s.size ≤ 1048576 from fun j s hjs => HF1.out j (by have := HN1.out; have := getElem?_lt hjs; omega) s hjs)
    clear HF1 HC1 HS1
    by_cases g1 : 1048576 < n2
    · go_wp2_with fail
      go_ret
      exact ⟨⟨false, rfl, by intro e; cases e⟩, rfl⟩
    have hb2' : n2 ≤ 1048576 := by omega
    clear g1 hl2
    by_cases g2 : 1048576 < t1 + n2
    · go_wp2_with fail
      go_ret
      exact ⟨⟨false, rfl, by intro e; cases e⟩, rfl⟩
    go_wp2_with fail
    clear hk hlt
    go_loop [7, 9] (fun z i => ∃ (k : Nat) (t : Int), k ≤ n2 ∧ i = .int .i64 k ∧ z = .int .i64 t ∧ 0 ≤ t ∧ t ≤ 1048576 ∧ ∀ (j : Nat), j < k → ∀ s, d2[j]? = some s → s.size ≤ 1048576) (fun _ i => n2 - (intOf i).toNat)
    case atStart => exact ⟨0, t1 + n2, Nat.zero_le _, rfl, by first | rfl | simp, by omega, by omega, by intro j hj; omega⟩
    case round =>
      obtain ⟨k, t2, hk, rfl, rfl, ht0, ht1, hf⟩ := hrel
      have HF2 := hidP hf
      clear hf
      by_cases hlt : k < n2
      · obtain ⟨x, hx⟩ : ∃ x, d2[k]? = some x := ⟨d2[k]'(by rw [HN2.out]; exact hlt), by rw [List.getElem?_eq_getElem]⟩
        obtain ⟨b, off, rfl, hck⟩ := HC2.out k x hx
        have hsx := HS2.out k x hx
        have HX := hidP hx
        clear hx
        by_cases h1 : 1048576 < x.size
        · go_wp2_with fail
          go_ret
          exact ⟨⟨false, rfl, by intro e; cases e⟩, rfl⟩
        · have h1' : x.size ≤ 1048576 := by omega
          clear h1 hsx
          by_cases h2 : 1048576 < t2 + x.size
          · go_wp2_with fail
            go_ret
            exact ⟨⟨false, rfl, by intro e; cases e⟩, rfl⟩
          · go_wp2_with fail
            go_round
            case rel =>
              refine ⟨k + 1, t2 + x.size, by omega, by go_num, rfl, by omega, by omega, fun j hj s hjs => ?_⟩
              by_cases hjk : j = k
              · subst hjk; rw [HX.out] at hjs; cases hjs; exact h1'
              · exact HF2.out j (by omega) s hjs
            case measure => simp [intOf]; omega
      have HD2 := hidP (show ∀ (j : Nat) s, d2[j]? = some s → s.size ≤ 1048576 from fun j s hjs => HF2.out j (by have := HN2.out; have := getElem?_lt hjs; omega) s hjs)
      clear HF2 HC2 HS2
      by_cases g1 : 1048576 < n3
      · go_wp2_with fail
        go_ret
        exact ⟨⟨false, rfl, by intro e; cases e⟩, rfl⟩
      have hb3' : n3 ≤ 1048576 := by omega
      clear g1 hl3
      by_cases g2 : 1048576 < t2 + n3
      · go_wp2_with fail
        go_ret
        exact ⟨⟨false, rfl, by intro e; cases e⟩, rfl⟩
      go_wp2_with fail
      clear hk hlt
      go_loop [7, 10] (fun z i => ∃ (k : Nat) (t : Int), k ≤ n3 ∧ i = .int .i64 k ∧ z = .int .i64 t ∧ 0 ≤ t ∧ t ≤ 1048576 ∧ ∀ (j : Nat), j < k → ∀ s, d3[j]? = some s → s.size ≤ 1048576) (fun _ i => n3 - (intOf i).toNat)
      case atStart => exact ⟨0, t2 + n3, Nat.zero_le _, rfl, by first | rfl | simp, by omega, by omega, by intro j hj; omega⟩
      case round =>
        obtain ⟨k, t3, hk, rfl, rfl, ht0, ht1, hf⟩ := hrel
        have HF3 := hidP hf
        clear hf
        by_cases hlt : k < n3
        · obtain ⟨x, hx⟩ : ∃ x, d3[k]? = some x := ⟨d3[k]'(by rw [HN3.out]; exact hlt), by rw [List.getElem?_eq_getElem]⟩
          obtain ⟨b, off, rfl, hck⟩ := HC3.out k x hx
          have hsx := HS3.out k x hx
          have HX := hidP hx
          clear hx
          by_cases h1 : 1048576 < x.size
          · go_wp2_with fail
            go_ret
            exact ⟨⟨false, rfl, by intro e; cases e⟩, rfl⟩
          · have h1' : x.size ≤ 1048576 := by omega
            clear h1 hsx
            by_cases h2 : 1048576 < t3 + x.size
            · go_wp2_with fail
              go_ret
              exact ⟨⟨false, rfl, by intro e; cases e⟩, rfl⟩
            · go_wp2_with fail
              go_round
              case rel =>
                refine ⟨k + 1, t3 + x.size, by omega, by go_num, rfl, by omega, by omega, fun j hj s hjs => ?_⟩
                by_cases hjk : j = k
                · subst hjk; rw [HX.out] at hjs; cases hjs; exact h1'
                · exact HF3.out j (by omega) s hjs
              case measure => simp [intOf]; omega
        have HD3 := hidP (show ∀ (j : Nat) s, d3[j]? = some s → s.size ≤ 1048576 from fun j s hjs => HF3.out j (by have := HN3.out; have := getElem?_lt hjs; omega) s hjs)
        clear HF3 HC3 HS3
        go_wp2_with fail
        go_ret
        exact ⟨⟨true, rfl, fun _ => ⟨⟨by rw [HN1.out]; exact hb1', HD1.out⟩, ⟨by rw [HN2.out]; exact hb2', HD2.out⟩, ⟨by rw [HN3.out]; exact hb3', HD3.out⟩⟩⟩, rfl⟩

set_option maxHeartbeats 2000000 in
theorem bytes7 {w : World} {v1 v2 v3 : Value} {d1 d2 d3 : List ByteArray} {x : Int} (h1 : Row w v1 d1) (hl1 : d1.length ≤ 9223372036854775807) (hs1 : ∀ (i : Nat) t, d1[i]? = some t → t.size ≤ 9223372036854775807) (h2 : Row w v2 d2) (hl2 : d2.length ≤ 9223372036854775807) (hs2 : ∀ (i : Nat) t, d2[i]? = some t → t.size ≤ 9223372036854775807) (h3 : Row w v3 d3) (hl3 : d3.length ≤ 9223372036854775807) (hs3 : ∀ (i : Nat) t, d3[i]? = some t → t.size ≤ 9223372036854775807) :
    Calls Try.prog 7 #[v1, v2, v3, .int .i64 x] w fun e w' => Says (Small3 d1 d2 d3) e ∧ w' = w := by
  obtain ⟨a1, cap1, rfl, hc1⟩ := h1
  obtain ⟨a2, cap2, rfl, hc2⟩ := h2
  obtain ⟨a3, cap3, rfl, hc3⟩ := h3
  have HC1 := hidP hc1
  have HS1 := hidP hs1
  have HC2 := hidP hc2
  have HS2 := hidP hs2
  have HC3 := hidP hc3
  have HS3 := hidP hs3
  clear hc1 hc2 hc3 hs1 hs2 hs3
  generalize hn1 : d1.length = n1 at *
  have HN1 := hidP hn1
  clear hn1
  generalize hn2 : d2.length = n2 at *
  have HN2 := hidP hn2
  clear hn2
  generalize hn3 : d3.length = n3 at *
  have HN3 := hidP hn3
  clear hn3
  by_cases hb1 : 1048576 < n1
  · go_enter Try.func7, Try.ntmps7
    go_wp2_with fail
    go_ret
    exact ⟨⟨false, rfl, by intro e; cases e⟩, rfl⟩
  have hb1' : n1 ≤ 1048576 := by omega
  clear hb1 hl1
  go_enter Try.func7, Try.ntmps7
  go_wp2_with fail
  go_loop [9, 10] (fun z i => ∃ (k : Nat) (t : Int), k ≤ n1 ∧ i = .int .i64 k ∧ z = .int .i64 t ∧ 0 ≤ t ∧ t ≤ 1048576 ∧ ∀ (j : Nat), j < k → ∀ s, d1[j]? = some s → s.size ≤ 1048576) (fun _ i => n1 - (intOf i).toNat)
  case atStart => exact ⟨0, n1, Nat.zero_le _, rfl, by first | rfl | simp, by omega, by omega, by intro j hj; omega⟩
  case round =>
    obtain ⟨k, t1, hk, rfl, rfl, ht0, ht1, hf⟩ := hrel
    have HF1 := hidP hf
    clear hf
    by_cases hlt : k < n1
    · obtain ⟨x, hx⟩ : ∃ x, d1[k]? = some x := ⟨d1[k]'(by rw [HN1.out]; exact hlt), by rw [List.getElem?_eq_getElem]⟩
      obtain ⟨b, off, rfl, hck⟩ := HC1.out k x hx
      have hsx := HS1.out k x hx
      have HX := hidP hx
      clear hx
      by_cases h1 : 1048576 < x.size
      · go_wp2_with fail
        go_ret
        exact ⟨⟨false, rfl, by intro e; cases e⟩, rfl⟩
      · have h1' : x.size ≤ 1048576 := by omega
        clear h1 hsx
        by_cases h2 : 1048576 < t1 + x.size
        · go_wp2_with fail
          go_ret
          exact ⟨⟨false, rfl, by intro e; cases e⟩, rfl⟩
        · go_wp2_with fail
          go_round
          case rel =>
            refine ⟨k + 1, t1 + x.size, by omega, by go_num, rfl, by omega, by omega, fun j hj s hjs => ?_⟩
            by_cases hjk : j = k
            · subst hjk; rw [HX.out] at hjs; cases hjs; exact h1'
            · exact HF1.out j (by omega) s hjs
          case measure => simp [intOf]; omega
    have HD1 := hidP (show ∀ (j : Nat) s, d1[j]? = some s → s.size ≤ 1048576 from fun j s hjs => HF1.out j (by have := HN1.out; have := getElem?_lt hjs; omega) s hjs)
    clear HF1 HC1 HS1
    by_cases g1 : 1048576 < n2
    · go_wp2_with fail
      go_ret
      exact ⟨⟨false, rfl, by intro e; cases e⟩, rfl⟩
    have hb2' : n2 ≤ 1048576 := by omega
    clear g1 hl2
    by_cases g2 : 1048576 < t1 + n2
    · go_wp2_with fail
      go_ret
      exact ⟨⟨false, rfl, by intro e; cases e⟩, rfl⟩
    go_wp2_with fail
    clear hk hlt
    go_loop [9, 11] (fun z i => ∃ (k : Nat) (t : Int), k ≤ n2 ∧ i = .int .i64 k ∧ z = .int .i64 t ∧ 0 ≤ t ∧ t ≤ 1048576 ∧ ∀ (j : Nat), j < k → ∀ s, d2[j]? = some s → s.size ≤ 1048576) (fun _ i => n2 - (intOf i).toNat)
    case atStart => exact ⟨0, t1 + n2, Nat.zero_le _, rfl, by first | rfl | simp, by omega, by omega, by intro j hj; omega⟩
    case round =>
      obtain ⟨k, t2, hk, rfl, rfl, ht0, ht1, hf⟩ := hrel
      have HF2 := hidP hf
      clear hf
      by_cases hlt : k < n2
      · obtain ⟨x, hx⟩ : ∃ x, d2[k]? = some x := ⟨d2[k]'(by rw [HN2.out]; exact hlt), by rw [List.getElem?_eq_getElem]⟩
        obtain ⟨b, off, rfl, hck⟩ := HC2.out k x hx
        have hsx := HS2.out k x hx
        have HX := hidP hx
        clear hx
        by_cases h1 : 1048576 < x.size
        · go_wp2_with fail
          go_ret
          exact ⟨⟨false, rfl, by intro e; cases e⟩, rfl⟩
        · have h1' : x.size ≤ 1048576 := by omega
          clear h1 hsx
          by_cases h2 : 1048576 < t2 + x.size
          · go_wp2_with fail
            go_ret
            exact ⟨⟨false, rfl, by intro e; cases e⟩, rfl⟩
          · go_wp2_with fail
            go_round
            case rel =>
              refine ⟨k + 1, t2 + x.size, by omega, by go_num, rfl, by omega, by omega, fun j hj s hjs => ?_⟩
              by_cases hjk : j = k
              · subst hjk; rw [HX.out] at hjs; cases hjs; exact h1'
              · exact HF2.out j (by omega) s hjs
            case measure => simp [intOf]; omega
      have HD2 := hidP (show ∀ (j : Nat) s, d2[j]? = some s → s.size ≤ 1048576 from fun j s hjs => HF2.out j (by have := HN2.out; have := getElem?_lt hjs; omega) s hjs)
      clear HF2 HC2 HS2
      by_cases g1 : 1048576 < n3
      · go_wp2_with fail
        go_ret
        exact ⟨⟨false, rfl, by intro e; cases e⟩, rfl⟩
      have hb3' : n3 ≤ 1048576 := by omega
      clear g1 hl3
      by_cases g2 : 1048576 < t2 + n3
      · go_wp2_with fail
        go_ret
        exact ⟨⟨false, rfl, by intro e; cases e⟩, rfl⟩
      go_wp2_with fail
      clear hk hlt
      go_loop [9, 12] (fun z i => ∃ (k : Nat) (t : Int), k ≤ n3 ∧ i = .int .i64 k ∧ z = .int .i64 t ∧ 0 ≤ t ∧ t ≤ 1048576 ∧ ∀ (j : Nat), j < k → ∀ s, d3[j]? = some s → s.size ≤ 1048576) (fun _ i => n3 - (intOf i).toNat)
      case atStart => exact ⟨0, t2 + n3, Nat.zero_le _, rfl, by first | rfl | simp, by omega, by omega, by intro j hj; omega⟩
      case round =>
        obtain ⟨k, t3, hk, rfl, rfl, ht0, ht1, hf⟩ := hrel
        have HF3 := hidP hf
        clear hf
        by_cases hlt : k < n3
        · obtain ⟨x, hx⟩ : ∃ x, d3[k]? = some x := ⟨d3[k]'(by rw [HN3.out]; exact hlt), by rw [List.getElem?_eq_getElem]⟩
          obtain ⟨b, off, rfl, hck⟩ := HC3.out k x hx
          have hsx := HS3.out k x hx
          have HX := hidP hx
          clear hx
          by_cases h1 : 1048576 < x.size
          · go_wp2_with fail
            go_ret
            exact ⟨⟨false, rfl, by intro e; cases e⟩, rfl⟩
          · have h1' : x.size ≤ 1048576 := by omega
            clear h1 hsx
            by_cases h2 : 1048576 < t3 + x.size
            · go_wp2_with fail
              go_ret
              exact ⟨⟨false, rfl, by intro e; cases e⟩, rfl⟩
            · go_wp2_with fail
              go_round
              case rel =>
                refine ⟨k + 1, t3 + x.size, by omega, by go_num, rfl, by omega, by omega, fun j hj s hjs => ?_⟩
                by_cases hjk : j = k
                · subst hjk; rw [HX.out] at hjs; cases hjs; exact h1'
                · exact HF3.out j (by omega) s hjs
              case measure => simp [intOf]; omega
        have HD3 := hidP (show ∀ (j : Nat) s, d3[j]? = some s → s.size ≤ 1048576 from fun j s hjs => HF3.out j (by have := HN3.out; have := getElem?_lt hjs; omega) s hjs)
        clear HF3 HC3 HS3
        go_wp2_with fail
        go_ret
        exact ⟨⟨true, rfl, fun _ => ⟨⟨by rw [HN1.out]; exact hb1', HD1.out⟩, ⟨by rw [HN2.out]; exact hb2', HD2.out⟩, ⟨by rw [HN3.out]; exact hb3', HD3.out⟩⟩⟩, rfl⟩
end Go.Proofs.Qxb6617078a
