/-
  Seat b6613607a: what a verifier is in memory ('VS'), the reading of a map's element through its block ('Rd'), and the laws that carry both from world to world.
-/
import Derived.Test.Qxb6613607aRows
import Derived.Maps.RangeWalk
import Derived.WalkKit
namespace Go.Proofs.Qxb6613607a
open Go.RowKit Go.Maps
open Go.WideElems (Fit rg)

/-- The expiry that a counts block (type 53) holds in its first cell. -/
def expAt (w : World) (b : Nat) : Option Int :=
  match w.heap[b]? with
  | some (.cells c t _) => if t = 53 then (match (c[0]? : Option Value) with | some (Value.int .i64 e) => some e | _ => none) else none
  | _ => none

/-- How an element (a pointer to counts) reads: as the expiry behind it. -/
def Rd (w : World) (v : Value) : Option (DataW Unit × List MemPlace) :=
  match v with
  | .pointer (some ⟨b, 0, none⟩) => (expAt w b).map fun e => (.lit (.int .i64 e), [])
  | _ => none

theorem Rd_mk {w : World} {b : Nat} {e : Int} (h : expAt w b = some e) : Rd w (.pointer (some ⟨b, 0, none⟩)) = some (.lit (.int .i64 e), []) := by
  simp [Rd, h]

theorem Rd_inv {w : World} {v : Value} {z : DataW Unit × List MemPlace} (h : Rd w v = some z) :
    ∃ b e, v = .pointer (some ⟨b, 0, none⟩) ∧ expAt w b = some e ∧ z = (.lit (.int .i64 e), []) := by
  unfold Rd at h
  split at h
  · rename_i b
    cases hx : expAt w b with
    | none => rw [hx] at h; cases h
    | some e => rw [hx] at h; cases h; exact ⟨b, e, rfl, hx, rfl⟩
  · cases h

theorem expAt_lt {w : World} {b : Nat} {e : Int} (h : expAt w b = some e) : b < w.heap.size := by
  unfold expAt at h
  cases hb : w.heap[b]? with
  | none => rw [hb] at h; cases h
  | some o => exact (Array.getElem?_eq_some_iff.1 hb).1

theorem expAt_cell {w : World} {b : Nat} {e : Int} (h : expAt w b = some e) : w.cell? ⟨b, 0, none⟩ = some (.int .i64 e) := by
  unfold expAt at h
  unfold World.cell?
  cases hb : w.heap[b]? with
  | none => rw [hb] at h; cases h
  | some o =>
    rw [hb] at h
    cases o <;> simp at h
    obtain ⟨_, h⟩ := h
    split at h
    · rename_i hc
      cases h
      simpa using hc
    · cases h

/-- What is kept of the heap keeps the expiries. -/
theorem expAt_kept {w w' : World} {row : Option Nat} (hg : w.grownBy w' row) (hr : ∀ r, row = some r → expAt w r = none) {b : Nat} {e : Int} (h : expAt w b = some e) : expAt w' b = some e := by
  have hb := hg.block b (expAt_lt h) (fun e1 => by rw [hr b e1.symm] at h; cases h)
  unfold expAt at h ⊢
  rw [hb]; exact h

theorem Rd_kept {w w' : World} {row : Option Nat} (hg : w.grownBy w' row) (hr : ∀ r, row = some r → expAt w r = none) {v : Value} {z : DataW Unit × List MemPlace} (h : Rd w v = some z) : Rd w' v = some z := by
  obtain ⟨b, e, rfl, he, rfl⟩ := Rd_inv h
  exact Rd_mk (expAt_kept hg hr he)

theorem owns_stay {w w0 w1 : World} {bm n : Nat} {D : DataW Unit} (h : w.ownsMap Try.prog 9 (Rd w0) bm n D) (hs : ∀ v z, Rd w0 v = some z → Rd w1 v = some z) : w.ownsMap Try.prog 9 (Rd w1) bm n D := by
  obtain ⟨es, clock, hb, F, hsz, rfl⟩ := h
  obtain ⟨F1, hmap, _⟩ := F.stay (fun x _ z hz => hs x.val z hz)
  exact ⟨es, clock, hb, F1, hsz, by rw [hmap]⟩

theorem expAt_map {w : World} {b : Nat} {es : Array MapEntry} {clock : Nat} (h : w.heap[b]? = some (.map es clock)) : expAt w b = none := by simp [expAt, h]

theorem owns_expAt {w : World} {P : Program} {k : TypeId} {R : Value → Option (DataW Unit × List MemPlace)} {b n : Nat} {D : DataW Unit} (h : w.ownsMap P k R b n D) : expAt w b = none := by
  obtain ⟨es, clock, hb, _⟩ := h
  exact expAt_map hb

/-- A Verifier's block. -/
def vcells (life next : Int) (bm : Nat) : Obj := .cells #[.int .i64 life, .slice none 0 0, .nilFunc, .int .i32 0, .int .u32 0, .map (some bm), .int .i64 next] 47

/-- THE STATE OF A VERIFIER: its struct in block vb, its map in block bm, read through the counts blocks as 'key ↦ expiry'. -/
def VS (w : World) (vb bm : Nat) (life next : Int) (n : Nat) (D : DataW Unit) : Prop :=
  w.heap[vb]? = some (vcells life next bm) ∧ w.ownsMap Try.prog 9 (Rd w) bm n D

variable {w w' : World} {vb bm n : Nat} {life next : Int} {D : DataW Unit}

theorem VS.lt (h : VS w vb bm life next n D) : vb < w.heap.size := (Array.getElem?_eq_some_iff.1 h.1).1
theorem VS.c0 (h : VS w vb bm life next n D) : w.cell? ⟨vb, 0, none⟩ = some (.int .i64 life) := by simp [World.cell?, h.1, vcells]
theorem VS.c5 (h : VS w vb bm life next n D) : w.cell? ⟨vb, 5, none⟩ = some (.map (some bm)) := by simp [World.cell?, h.1, vcells]
theorem VS.c6 (h : VS w vb bm life next n D) : w.cell? ⟨vb, 6, none⟩ = some (.int .i64 next) := by simp [World.cell?, h.1, vcells]
theorem VS.f6 (h : VS w vb bm life next n D) : w.frozen? ⟨vb, 6, none⟩ = false := by simp [World.frozen?, h.1, vcells]
theorem VS.exp (h : VS w vb bm life next n D) : expAt w vb = none := by simp [expAt, h.1, vcells]
theorem VS.expm (h : VS w vb bm life next n D) : expAt w bm = none := owns_expAt h.2
theorem VS.ne (h : VS w vb bm life next n D) : vb ≠ bm := by
  obtain ⟨es, clock, hb, _⟩ := h.2
  intro e
  rw [← e, h.1] at hb
  cases hb

theorem VS.kept (h : VS w vb bm life next n D) {row : Option Nat} (hg : w.grownBy w' row) (h1 : some vb ≠ row) (h2 : some bm ≠ row) (h3 : ∀ r, row = some r → expAt w r = none) : VS w' vb bm life next n D :=
  ⟨(hg.block vb h.lt h1).trans h.1, owns_stay (h.2.kept hg h2) (fun _ _ hz => Rd_kept hg h3 hz)⟩

/-- The map block alone has turned. -/
theorem VS.mapped (h : VS w vb bm life next n D) {w0 : World} {n' : Nat} {D' : DataW Unit} (hg : w.grownBy w' (some bm)) (hR : ∀ v z, Rd w0 v = some z → Rd w' v = some z) (ho : w'.ownsMap Try.prog 9 (Rd w0) bm n' D') : VS w' vb bm life next n' D' :=
  ⟨(hg.block vb h.lt (fun e => h.ne (by cases e; rfl))).trans h.1, owns_stay ho hR⟩

theorem setCell_grown (w : World) (a : Addr) (u : Value) : w.grownBy (w.setCell a u) (some a.block) :=
  ⟨rfl, rfl, rfl, by simp [World.setCell], fun k _ hk => Below.heap_setCell _ _ _ _ (fun e => hk (by rw [e]))⟩

/-- The next sweep's time is stored. -/
theorem VS.stored (h : VS w vb bm life next n D) (x : Int) : VS (w.setCell ⟨vb, 6, none⟩ (.int .i64 x)) vb bm life x n D := by
  refine ⟨?_, owns_stay (h.2.setCell (a := ⟨vb, 6, none⟩) (fun e => h.ne e.symm) _) (fun _ _ hz => Rd_kept (setCell_grown w ⟨vb, 6, none⟩ _) (fun r hr => by cases hr; exact h.exp) hz)⟩
  have := h.1
  simp [World.setCell, Array.getElem?_modify, this, vcells]

theorem law9 : Keyed Try.prog 9 := string_keyed Try.underlying9

end Go.Proofs.Qxb6613607a
