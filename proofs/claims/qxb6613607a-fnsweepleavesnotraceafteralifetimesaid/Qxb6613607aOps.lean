/-
  Seat b6613607a: the walks of the small functions over a verifier: newVerifier (13), putCount (14), hasCount (10), countsLen (11), nextSweep (8).
-/
import Derived.Test.Qxb6613607aVer
namespace Go.Proofs.Qxb6613607a
open Go.RowKit Go.Maps Go.WideMaps

variable {vb bm n : Nat} {life next : Int} {D : DataW Unit}

theorem next_any (w : World) (h : VS w vb bm life next n D) :
    Calls Try.prog 8 #[.pointer (some ⟨vb, 0, none⟩)] w fun e w' => e = .returned (.int .i64 next) ∧ w' = w := by
  have c6 := h.c6
  go_enter Try.func8, Try.ntmps8
  go_wp2
  go_ret
  exact ⟨rfl, rfl⟩

theorem len_any (w : World) (h : VS w vb bm life next n D) :
    Calls Try.prog 11 #[.pointer (some ⟨vb, 0, none⟩)] w fun e w' => e = .returned (.int .i64 (Maps.size D)) ∧ w' = w := by
  have c5 := h.c5
  have hown := h.2
  go_enter Try.func11, Try.ntmps11
  go_wp2_with (first
    | (at_len; refine wpList_len_own _ rfl _ 45 rfl 9 48 Try.underlying45 _ bm n D rfl hown ?_)
    | go_in)
  go_ret
  exact ⟨rfl, rfl⟩

theorem zero48 (w : World) : (zeroValue 48).run Try.prog w = .ok (.pointer none) w := by kernel_rfl

/-- 'v, ok := m[k]' whatever the zero value reads as: SOME value, and 'ok' is 'has D kl'. -/
theorem look_run {w : World} (hown : w.ownsMap Try.prog 9 (Rd w) bm n D) {key : Value} {kl : Lit} (hkey : keyOf Try.prog 9 key = some kl) :
    ∃ v, (Instr.lookup 45 (.map (some bm)) key true).run Try.prog w = .ok (.tuple #[.pointer v, .bool (Maps.has D kl)]) w := by
  obtain ⟨es, clock, hb, F, _, rfl⟩ := hown
  rcases Maps.fit_look true law9 Try.underlying45 (zero48 w) hb F hkey with ⟨hrun, _, hat⟩ | ⟨e0, y, _, _, hrun, hRv, hat, _⟩
  · exact ⟨none, by rw [Maps.has_false_of_atKey hat]; exact hrun⟩
  · obtain ⟨b, e, hv, _, _⟩ := Rd_inv hRv
    exact ⟨some ⟨b, 0, none⟩, by rw [Maps.has_true_of_atKey hat, ← hv]; exact hrun⟩

theorem has_any (w : World) (h : VS w vb bm life next n D) (key : ByteArray) (hk : key.size ≤ maxLen) :
    Calls Try.prog 10 #[.pointer (some ⟨vb, 0, none⟩), .string key] w fun e w' => e = .returned (.bool (Maps.has D (.string key.data.toList))) ∧ w' = w := by
  have c5 := h.c5
  obtain ⟨v, hrun⟩ := look_run h.2 (keyOf_string_mk Try.underlying9 hk)
  generalize Maps.has D (.string key.data.toList) = r at hrun ⊢
  go_enter Try.func10, Try.ntmps10
  go_wp2
  go_ret
  exact ⟨rfl, rfl⟩

set_option maxRecDepth 100000 in
theorem new_any (w : World) (life next : Int) :
    Calls Try.prog 13 #[.int .i64 life, .int .i64 next, .slice none 0 0] w fun e w' => e = .returned (.pointer (some ⟨w.heap.size + 1, 0, none⟩)) ∧ VS w' (w.heap.size + 1) w.heap.size life next 0 (.map []) ∧ Below w.heap.size w w' := by
  have hmm := @run_makeMap Try.prog
  go_enter Try.func13, Try.ntmps13
  go_wp2
  go_ret
  refine ⟨rfl, ⟨?_, owns_stay (World.ownsMap.alloc (World.ownsMap_made w Try.prog 9 (Rd w)) _) (fun _ _ hz => Rd_kept ((World.grownBy_alloc w _ none).andThen (World.grownBy_alloc _ _ none) (fun j hj => by cases hj)) (fun r hr => by cases hr) hz)⟩, ((Below.refl _ _).alloc (Nat.le_refl _) _).alloc (by simp) _⟩
  have := (MapKept.heap_alloc (w.alloc (.map #[] 0)) (vcells life next w.heap.size)).1
  simpa [vcells] using this

/-- A counts block that is new. -/
def ccells (x : Int) : Obj := .cells #[.int .i64 x, .int .u32 0, .int .u64 0, .int .u64 0, .int .u64 0, .int .u64 0, .int .u64 0, .int .u64 0, .int .u64 0, .int .u64 0, .int .u64 0, .int .u64 0, .int .u64 0, .int .u64 0, .int .u64 0, .int .u64 0, .int .u64 0, .int .u64 0] 53

theorem expAt_new (w : World) (x : Int) : expAt (w.alloc (ccells x)) w.heap.size = some x := by
  have := (MapKept.heap_alloc w (ccells x)).1
  unfold expAt
  rw [this]
  rfl

set_option maxRecDepth 100000 in
theorem put_any (w : World) (h : VS w vb bm life next n D) (hn : n < maxLen) (key : ByteArray) (hk : key.size ≤ maxLen) (x : Int) :
    Calls Try.prog 14 #[.pointer (some ⟨vb, 0, none⟩), .string key, .int .i64 x] w fun e w' => e = .returned (.tuple #[]) ∧ VS w' vb bm life next (n + 1) (D.put (.string key.data.toList) (.lit (.int .i64 x))) ∧ w.grownBy w' (some bm) := by
  have c5 := h.c5
  have h1 : VS (w.alloc (ccells x)) vb bm life next n D := h.kept (World.grownBy_alloc w _ none) (by simp) (by simp) (by simp)
  have hown := h1.2
  have hkey := keyOf_string_mk Try.underlying9 hk
  have hval := Rd_mk (expAt_new w x)
  go_enter Try.func14, Try.ntmps14
  go_wp2_with (first
    | (at_mapUpdate; refine wpList_mapUpdate_own _ rfl _ _ _ 45 rfl 9 48 law9 Try.underlying45 _ bm n D rfl hown hn _ _ _ rfl rfl hkey _ [] hval ?_; intro w1 hown1 hgrow1)
    | go_in)
  go_end0
  exact ⟨rfl, h1.mapped hgrow1 (fun _ _ hz => Rd_kept hgrow1 (fun r hr => by cases hr; exact h1.expm) hz) hown1, (World.grownBy_alloc w _ _).andThen hgrow1 (fun j hj => .inr hj)⟩

end Go.Proofs.Qxb6613607a
