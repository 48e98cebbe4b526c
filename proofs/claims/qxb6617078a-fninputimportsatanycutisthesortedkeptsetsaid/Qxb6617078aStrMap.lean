/-
  A MAP KEYED BY STRINGS, as a plain function from keys to values: made, looked up, written. Of no program: P is a letter.
-/
import Derived.Maps.OwnSet
namespace Go.Proofs.Qxb6617078a.SM
open Go.ChangeMaps (setBlock heap_setBlock_same heap_setBlock_other)

/-- Is the key v the string s? -/
def isKey (v : Value) (s : ByteArray) : Bool :=
  match v with
  | .string t => decide (t = s)
  | _ => false
theorem isKey_string (t s : ByteArray) : isKey (.string t) s = decide (t = s) := rfl

/-- What the entries hold at key s. -/
def atKey : List MapEntry → ByteArray → Option Value
  | [], _ => none
  | e :: es, s => if isKey e.key s = true then some e.val else atKey es s

/-- BLOCK b OF w IS A MAP KEYED BY STRINGS THAT HOLDS f s AT EACH KEY s. -/
def IsMap (w : World) (b : Nat) (f : ByteArray → Option Value) : Prop :=
  ∃ es clock, w.heap[b]? = some (.map es clock) ∧ (∀ e ∈ es.toList, ∃ t, e.key = .string t) ∧ ∀ s, atKey es.toList s = f s

theorem find_new (s : ByteArray) (v : Value) : ∀ (l : List MapEntry) (i : Nat), (∀ e ∈ l, ∃ t, e.key = .string t) →
    ∃ r, Instr.findNow .string (.string s) l i = some r ∧ r.map (·.2) = atKey l s ∧
      ∀ j u, r = some (j, u) → i ≤ j ∧ (∃ e, l[j - i]? = some e ∧ e.key = .string s) ∧
        ∀ t, atKey (l.modify (j - i) fun e => { e with key := .string s, val := v }) t = if t = s then some v else atKey l t
  | [], i, _ => ⟨none, rfl, rfl, by intro j u h; cases h⟩
  | e :: es, i, hk => by
    obtain ⟨u, hu⟩ := hk e (by simp)
    obtain ⟨r, h1, h2, h3⟩ := find_new s v es (i + 1) (fun x hx => hk x (by simp [hx]))
    by_cases hs : s = u
    · subst hs
      have hb : (s == s) = true := (MapKept.bytes_beq s s).2 rfl
      refine ⟨some (i, e.val), by simp [Instr.findNow, Instr.sameNow, hu, hb], by simp [atKey, hu, isKey_string], ?_⟩
      intro j x h
      cases h
      refine ⟨Nat.le_refl _, ⟨e, by simp, hu⟩, fun t => ?_⟩
      simp only [Nat.sub_self, List.modify_zero_cons, atKey, hu, isKey_string]
      by_cases ht : t = s
      · simp [ht]
      · simp [ht, Ne.symm ht]
    · have hb : (s == u) = false := by
        cases hc : (s == u)
        · rfl
        · exact absurd ((MapKept.bytes_beq s u).1 hc) hs
      refine ⟨r, ?_, ?_, ?_⟩
      · simp [Instr.findNow, Instr.sameNow, hu, hb, h1]
      · simp [atKey, hu, isKey_string, Ne.symm hs, h2]
      · intro j x h
        obtain ⟨h4, ⟨e', h5, h6⟩, h7⟩ := h3 j x h
        have e1 : j - i = (j - (i + 1)) + 1 := by omega
        refine ⟨by omega, ⟨e', by rw [e1]; simpa using h5, h6⟩, fun t => ?_⟩
        rw [e1, List.modify_succ_cons]
        simp only [atKey, hu, isKey_string]
        by_cases ht : u = t
        · subst ht
          simp [Ne.symm hs]
        · simp [ht, h7]

theorem atKey_push (v : Value) (s : ByteArray) (c : Nat) : ∀ (l : List MapEntry), atKey l s = none → ∀ t, atKey (l ++ [⟨.string s, v, c⟩]) t = if t = s then some v else atKey l t
  | [], _, t => by
    simp only [List.nil_append, atKey, isKey_string]
    by_cases h : t = s
    · simp [h]
    · simp [h, Ne.symm h]
  | e :: es, h, t => by
    simp only [List.cons_append, atKey] at h ⊢
    by_cases he : isKey e.key s = true
    · rw [if_pos he] at h; cases h
    · rw [if_neg he] at h
      rw [atKey_push v s c es h t]
      by_cases ht : isKey e.key t = true
      · have hts : ¬ t = s := by intro e1; subst e1; exact he ht
        simp [ht, hts]
      · simp [ht]

section
variable {P : Program} {w : World} {b : Nat} {f : ByteArray → Option Value} {t k e : TypeId}

theorem IsMap.lt (h : IsMap w b f) : b < w.heap.size := by
  obtain ⟨es, c, hb, _⟩ := h
  exact (Array.getElem?_eq_some_iff.1 hb).1

/-- The block is as it was: so is the map. -/
theorem IsMap.kept {w' : World} (h : IsMap w b f) (hb : w'.heap[b]? = w.heap[b]?) : IsMap w' b f := by
  obtain ⟨es, c, h1, h2⟩ := h
  exact ⟨es, c, hb.trans h1, h2⟩

theorem IsMap.alloc (h : IsMap w b f) (o : Obj) : IsMap (w.alloc o) b f := h.kept (RowKit.Below.heap_alloc w o b h.lt)
theorem IsMap.drew (h : IsMap w b f) : IsMap w.drew b f := h
theorem IsMap.setCell (h : IsMap w b f) {a : Addr} (ha : b ≠ a.block) (u : Value) : IsMap (w.setCell a u) b f := h.kept (RowKit.Below.heap_setCell w a u b ha)
theorem IsMap.grown {w' : World} {row : Option Nat} (h : IsMap w b f) (hg : w.grownBy w' row) (hne : some b ≠ row) : IsMap w' b f := h.kept (hg.block b h.lt hne)
theorem IsMap.below {w' : World} {B : Nat} (h : IsMap w b f) (hg : RowKit.Below B w w') (hB : b < B) : IsMap w' b f := h.kept (hg.block b hB)

theorem made (w : World) : IsMap (w.alloc (.map #[] 0)) w.heap.size fun _ => none :=
  ⟨#[], 0, (MapKept.heap_alloc w _).1, by simp, fun _ => rfl⟩

/-- 'm[s]', and 'v, ok := m[s]'. -/
theorem IsMap.lookup (h : IsMap w b f) (hk : P.underlying k = some .string) (ht : P.underlying t = some (.map k e)) {z : Value} (hz : (zeroValue e).run P w = .ok z w) (s : ByteArray) (c : Bool) :
    (Instr.lookup t (.map (some b)) (.string s) c).run P w = .ok (if c then .tuple #[(f s).getD z, .bool (f s).isSome] else (f s).getD z) w := by
  obtain ⟨es, clock, hb, hs, hf⟩ := h
  obtain ⟨r, h1, h2, _⟩ := find_new s z es.toList 0 hs
  have hchk : ∀ em : Bool, (Instr.checkKey em 10000 k (.string s)).run P w = .ok () w := fun em => MapKept.run_checkKey hk (by simp [MapKept.IsKey]) em 9999
  have hfind := MapKept.run_findKey (w := w) hk h1
  rw [hf] at h2
  cases r with
  | none =>
    simp at h2
    rw [← h2]
    simp [Instr.lookup, run_underlying ht, MapKept.run_getObj_map hb, hchk, hfind, hz, Result.andThen]
  | some p =>
    obtain ⟨j, u⟩ := p
    simp at h2
    rw [← h2]
    simp [Instr.lookup, run_underlying ht, MapKept.run_getObj_map hb, hchk, hfind, Result.andThen]

/-- 'm[s] = v'. -/
theorem IsMap.update (h : IsMap w b f) (hk : P.underlying k = some .string) (ht : P.underlying t = some (.map k e)) (s : ByteArray) (v : Value) :
    ∃ w', (Instr.mapUpdate t (.map (some b)) (.string s) v).run P w = .ok () w' ∧ IsMap w' b (fun x => if x = s then some v else f x) ∧ w.grownBy w' (some b) ∧ w'.heap.size = w.heap.size := by
  obtain ⟨es, clock, hb, hs, hf⟩ := h
  obtain ⟨r, h1, h2, h3⟩ := find_new s v es.toList 0 hs
  have hchk : ∀ em : Bool, (Instr.checkKey em 10000 k (.string s)).run P w = .ok () w := fun em => MapKept.run_checkKey hk (by simp [MapKept.IsKey]) em 9999
  have hfind := MapKept.run_findKey (w := w) hk h1
  have hgrow : ∀ o : Obj, w.grownBy (setBlock w b o) (some b) := fun o => ⟨rfl, rfl, rfl, by simp [setBlock], fun i _ hi => heap_setBlock_other hb _ (fun e => hi (by rw [e]))⟩
  cases r with
  | none =>
    refine ⟨setBlock w b (.map (es.push ⟨.string s, v, clock⟩) (clock + 1)), ?_, ⟨_, _, heap_setBlock_same hb _, ?_, ?_⟩, hgrow _, by simp [setBlock]⟩
    · simp [Instr.mapUpdate, run_underlying ht, MapKept.run_getObj_map hb, hchk, hfind, MapKept.run_setObj_map _ hb, Result.andThen, setBlock]
    · intro x hx
      simp only [Array.toList_push, List.mem_append, List.mem_singleton] at hx
      rcases hx with hx | rfl
      · exact hs x hx
      · exact ⟨s, rfl⟩
    · intro x
      rw [Array.toList_push, atKey_push v s clock _ (by rw [← h2]; rfl), hf]
  | some p =>
    obtain ⟨j, u⟩ := p
    obtain ⟨_, ⟨e0, h5, h6⟩, h7⟩ := h3 j u rfl
    simp only [Nat.sub_zero] at h5 h7
    have h5' : es[j]? = some e0 := by simpa using h5
    have hst : (Instr.keyThatStays (.string s) (.string s)).run P w = .ok (.string s) w := MapKept.run_keyThatStays (d := .string) (by simp [MapKept.IsKey])
    refine ⟨setBlock w b (.map (es.modify j fun e => { e with key := .string s, val := v }) clock), ?_, ⟨_, _, heap_setBlock_same hb _, ?_, ?_⟩, hgrow _, by simp [setBlock]⟩
    · simp [Instr.mapUpdate, run_underlying ht, MapKept.run_getObj_map hb, hchk, hfind, MapKept.run_setObj_map _ hb, Result.andThen, setBlock, h5', h6, hst]
    · intro x hx
      rw [Array.toList_modify] at hx
      rw [List.mem_iff_getElem?] at hx
      obtain ⟨i, hi⟩ := hx
      rw [List.getElem?_modify] at hi
      by_cases hij : j = i
      · subst hij
        simp [h5'] at hi
        exact ⟨s, by rw [← hi]⟩
      · simp [hij] at hi
        exact hs x (List.mem_iff_getElem?.2 ⟨i, by simpa using hi⟩)
    · intro x
      rw [Array.toList_modify, h7, hf]
end

section
variable {P : Program} (w : World) {ops : Array Oper} {rest : List Oper} {o : Oper} {a : Act} {Q : Exit → Act → World → Prop}

/-- 'm[s] = v' at the operation. -/
theorem wp_update (hg : o.guard = none) (m x v : Operand) (t : TypeId) (hop : o.op = Op.mapUpdate t m x v)
    (k e : TypeId) (hk : P.underlying k = some .string) (ht : P.underlying t = some (.map k e)) (b : Nat) (f : ByteArray → Option Value) (hm : a.eval m = .map (some b)) (hown : IsMap w b f)
    (s : ByteArray) (val : Value) (hx : a.eval x = .string s) (hv : a.eval v = val)
    (hK : ∀ w', IsMap w' b (fun x => if x = s then some val else f x) → w.grownBy w' (some b) → w'.heap.size = w.heap.size → wpList P ops Q rest (a.put o.dst undef) w') :
    wpList P ops Q (o :: rest) a w := by
  refine wpList_plain hg fun K' hK' => ?_
  obtain ⟨w', hrun, r1, r2, r3⟩ := hown.update hk ht s val
  unfold Oper.wp
  simp [execOp, hop, hm, hx, hv, hrun, Result.andThen]
  exact hK' _ _ (hK w' r1 r2 r3)

/-- a literal's entry at the operation. -/
theorem wp_insert (hg : o.guard = none) (m x v : Operand) (t : TypeId) (hop : o.op = Op.insert t m x v)
    (k e : TypeId) (hk : P.underlying k = some .string) (ht : P.underlying t = some (.map k e)) (b : Nat) (f : ByteArray → Option Value) (hm : a.eval m = .map (some b)) (hown : IsMap w b f)
    (s : ByteArray) (val : Value) (hx : a.eval x = .string s) (hv : a.eval v = val)
    (hK : ∀ w', IsMap w' b (fun x => if x = s then some val else f x) → w.grownBy w' (some b) → w'.heap.size = w.heap.size → wpList P ops Q rest (a.put o.dst undef) w') :
    wpList P ops Q (o :: rest) a w := by
  refine wpList_plain hg fun K' hK' => ?_
  obtain ⟨w', hrun, r1, r2, r3⟩ := hown.update hk ht s val
  unfold Oper.wp
  simp [execOp, hop, hm, hx, hv, hrun, Result.andThen]
  exact hK' _ _ (hK w' r1 r2 r3)

/-- 'm[s]' at the operation. -/
theorem wp_lookup (hg : o.guard = none) (m x : Operand) (t : TypeId) (c : Bool) (hop : o.op = Op.lookup t m x c)
    (k e : TypeId) (hk : P.underlying k = some .string) (ht : P.underlying t = some (.map k e)) {z : Value} (hz : (zeroValue e).run P w = .ok z w) (b : Nat) (f : ByteArray → Option Value) (hm : a.eval m = .map (some b)) (hown : IsMap w b f)
    (s : ByteArray) (hx : a.eval x = .string s)
    (hK : wpList P ops Q rest (a.put o.dst (if c then .tuple #[(f s).getD z, .bool (f s).isSome] else (f s).getD z)) w) :
    wpList P ops Q (o :: rest) a w := by
  refine wpList_plain hg fun K' hK' => ?_
  have hrun := hown.lookup hk ht hz s c
  unfold Oper.wp
  simp only [execOp, hop, hm, hx]
  simp [hrun, Result.andThen]
  exact hK' _ _ hK
end
end Go.Proofs.Qxb6617078a.SM
