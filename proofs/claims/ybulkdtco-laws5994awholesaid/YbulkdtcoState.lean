import Derived.Test.YbulkdtcoModel
namespace Go.Proofs.Ybulkdtco
open Go.RowKit Go.Maps

/-- How an element reads: as itself. -/
def R0 (v : Value) : Option (DataW Value × List MemPlace) := some (.held v, [])
def host (k : ByteArray) (d : Int) : Array Value := #[.string k, .int .u64 d, .map none, .map none]
def HostIs (w : World) (v : Value) (k : ByteArray) (o : Int × Bool) : Prop :=
  if o.2 = true then v = .pointer none else ∃ hb, v = .pointer (some ⟨hb, 0, none⟩) ∧ w.heap[hb]? = some (.cells (host k o.1) 35 (0, 0))

/-- Block m holds the map that n stores made. -/
def Says (w : World) (m n : Nat) (e : Nat → Ent) : Prop :=
  ∃ D : DataW Value, w.ownsMap Yba.prog 9 R0 m n D ∧ IsMap D ∧ ∀ s : ByteArray, (last e s n = none → ∀ z, D.atKey (.string s.data.toList) z = z) ∧ ∀ o, last e s n = some o → ∃ v, (∀ z, D.atKey (.string s.data.toList) z = .held v) ∧ HostIs w v s o

theorem zero31 (w : World) : (zeroValue 31).run Yba.prog w = .ok (.pointer none) w := by kernel_rfl

theorem says_look {w : World} {m n : Nat} {e : Nat → Ent} (h : Says w m n e) (c : Bool) (s : ByteArray) (hs : s.size ≤ maxLen) :
    ∃ v, (Instr.lookup 23 (.map (some m)) (.string s) c).run Yba.prog w = .ok (if c then .tuple #[v, .bool (last e s n).isSome] else v) w ∧ (last e s n = none → v = .pointer none) ∧ ∀ o, last e s n = some o → HostIs w v s o := by
  obtain ⟨D, ⟨es, clock, hb, F, hn, rfl⟩, hD, hall⟩ := h
  obtain ⟨h1, h2⟩ := hall s
  rcases Maps.fit_look c (string_keyed Yba.underlying9) Yba.underlying23 (zero31 w) hb F (WideMaps.keyOf_string_mk Yba.underlying9 hs) with ⟨hrun, _, hat⟩ | ⟨e0, y, _, _, hrun, hRv, hat, _⟩
  · cases hl : last e s n with
    | none => exact ⟨.pointer none, by rw [hrun]; rfl, fun _ => rfl, fun o ho => by cases ho⟩
    | some o =>
      obtain ⟨v, hv, _⟩ := h2 o hl
      have := hv .nil
      rw [hat] at this
      cases this
  · cases hl : last e s n with
    | none =>
      have := h1 hl .nil
      rw [hat] at this
      simp [R0] at hRv
      rw [← hRv] at this
      cases this
    | some o =>
      obtain ⟨v, hv, hh⟩ := h2 o hl
      have := hv .nil
      rw [hat] at this
      simp [R0] at hRv
      rw [← hRv] at this
      cases this
      exact ⟨e0.val, by rw [hrun]; rfl, (fun h => by cases h), (fun o' ho => by cases ho; exact hh)⟩

theorem HostIs.kept {w w' : World} {v : Value} {k : ByteArray} {o : Int × Bool} (h : HostIs w v k o) (hk : ∀ (b : Nat) (cs : Array Value), w.heap[b]? = some (.cells cs 35 (0, 0)) → w'.heap[b]? = some (.cells cs 35 (0, 0))) : HostIs w' v k o := by
  unfold HostIs at h ⊢
  split
  · rename_i h0; rw [if_pos h0] at h; exact h
  · rename_i h0
    rw [if_neg h0] at h
    obtain ⟨hb, e1, e2⟩ := h
    exact ⟨hb, e1, hk _ _ e2⟩

theorem says_below {w w' : World} {m n : Nat} {e : Nat → Ent} (h : Says w m n e) (k : Below w.heap.size w w') : Says w' m n e := by
  have kb : ∀ {b : Nat} {o : Obj}, w.heap[b]? = some o → w'.heap[b]? = some o := fun {b o} hb => by rw [k.block b (Array.getElem?_eq_some_iff.1 hb).1]; exact hb
  obtain ⟨D, ⟨es, clock, hb, F, hn, hD0⟩, hD, hall⟩ := h
  refine ⟨D, ⟨es, clock, kb hb, F, hn, hD0⟩, hD, fun s => ⟨(hall s).1, fun o ho => ?_⟩⟩
  obtain ⟨v, hv, hh⟩ := (hall s).2 o ho
  exact ⟨v, hv, hh.kept (fun b cs hb => kb hb)⟩

theorem says_made (w : World) (e : Nat → Ent) : Says (w.alloc (.map #[] 0)) w.heap.size 0 e :=
  ⟨.map [], World.ownsMap_made w _ _ _, isMap_empty, fun s => ⟨fun _ z => rfl, fun o ho => by simp [last] at ho⟩⟩

/-- DeliveredOf at a queue whose map is nil. -/
theorem del_nil (q : Nat) (k : ByteArray) (w : World) (hq : w.cell? ⟨q, 0, none⟩ = some (.map none)) :
    Calls Yba.prog 5 #[.pointer (some ⟨q, 0, none⟩), .string k] w fun x w' => x = .returned (.int .u64 0) ∧ w' = w := by
  have hz := zero31 w
  have hr : (Instr.lookup 23 (.map none) (.string k) false).run Yba.prog w = .ok (.pointer none) w := by kernel_rfl
  go_enter Yba.func5, Yba.ntmps5
  go_wp2
  go_ret
  exact ⟨rfl, rfl⟩

theorem del_any (q m n : Nat) (e : Nat → Ent) (k : ByteArray) (w : World) (hk : k.size ≤ maxLen) (hq : w.cell? ⟨q, 0, none⟩ = some (.map (some m))) (h : Says w m n e) :
    Calls Yba.prog 5 #[.pointer (some ⟨q, 0, none⟩), .string k] w fun x w' => x = .returned (.int .u64 (valOf (last e k n))) ∧ w' = w := by
  obtain ⟨v, hrun, h1, h2⟩ := says_look h false k hk
  simp only [Bool.false_eq_true, if_false] at hrun
  cases hl : last e k n with
  | none =>
    obtain rfl := h1 hl
    go_enter Yba.func5, Yba.ntmps5
    go_wp2
    go_ret
    exact ⟨rfl, rfl⟩
  | some o =>
    obtain ⟨d, nl⟩ := o
    have hh := h2 _ hl
    cases nl with
    | true =>
      have hv : v = .pointer none := by simpa [HostIs] using hh
      subst hv
      go_enter Yba.func5, Yba.ntmps5
      go_wp2
      go_ret
      exact ⟨rfl, rfl⟩
    | false =>
      obtain ⟨hb, rfl, hbl⟩ : ∃ hb, v = .pointer (some ⟨hb, 0, none⟩) ∧ w.heap[hb]? = some (.cells (host k d) 35 (0, 0)) := by simpa [HostIs] using hh
      have c1 : w.cell? ⟨hb, 1, none⟩ = some (.int .u64 d) := by simp [World.cell?, hbl, host]
      clear hbl hh h1 h2
      go_enter Yba.func5, Yba.ntmps5
      go_wp2
      go_ret
      exact ⟨rfl, rfl⟩
end Go.Proofs.Ybulkdtco
