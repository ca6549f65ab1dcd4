/-
  Seat b6613607a: the walk of (*Verifier).sweep (15) and of ZZsweep (7): what is not due stays; what is due loses just the entries that have expired, in whatever order the range hands them out.
-/
import Derived.Test.Qxb6613607aOps
namespace Go.Proofs.Qxb6613607a
open Go.RowKit Go.Maps Go.WideMaps

/-- The number that an element reads as. -/
def num : DataW Unit → Int
  | .lit (.int _ e) => e
  | _ => 0

/-- Those entries that have not expired at 'now'. -/
def alive (now : Int) (es : List (Lit × DataW Unit)) : List (Lit × DataW Unit) := es.filter fun p => decide (now < num p.2)

/-- THOSE ENTRIES OF THE MAP AS IT CAME THAT HAVE NOT EXPIRED, OR ARE STILL TO COME. -/
def Fs (now : Int) (es0 : List (Lit × DataW Unit)) (left : Lit → Bool) : DataW Unit := .map (es0.filter fun p => decide (now < num p.2) || left p.1)

section
variable {now : Int} {es0 : List (Lit × DataW Unit)} {left : Lit → Bool}

theorem Fs_start (hkeys : ∀ p ∈ es0, WideAt.IsKeyLit p.1) : Fs now es0 (Maps.has (.map es0)) = .map es0 := by
  unfold Fs
  rw [List.filter_eq_self.2 (fun p hp => by
    have : Maps.has (DataW.map es0) p.1 = true := List.any_eq_true.2 ⟨p, hp, WideAt.sameKey_self (hkeys p hp)⟩
    simp [this])]

theorem Fs_end (hl : ∀ kl, left kl = false) : Fs now es0 left = .map (alive now es0) := by
  unfold Fs alive
  congr 1
  exact List.filter_congr (fun p _ => by simp [hl])

theorem at_came (hap : es0.Pairwise (fun p q => p.1 ≠ q.1)) {kl : Lit} (hk : WideAt.IsKeyLit kl) (hlk : left kl = true) {d : DataW Unit} (hat : ∀ zd, (Fs now es0 left).atKey kl zd = d) : ∀ p ∈ es0, p.1 = kl → p.2 = d := by
  intro p hp hpk
  have hm : (kl, p.2) ∈ es0.filter fun p => decide (now < num p.2) || left p.1 := List.mem_filter.2 ⟨by rw [← hpk]; exact hp, by simp [hlk]⟩
  exact (WideAt.atKey_mem .nil hk (hap.filter _) hm).symm.trans (hat .nil)

theorem Fs_struck (hap : es0.Pairwise (fun p q => p.1 ≠ q.1)) {kl : Lit} (hk : WideAt.IsKeyLit kl) (hlk : left kl = true) {c : Int} (hc0 : c ≤ now) (hat : ∀ zd, (Fs now es0 left).atKey kl zd = .lit (.int .i64 c)) : (Fs now es0 left).del kl = Fs now es0 (fun z => left z && !z.sameKey kl) := by
  have hc := at_came hap hk hlk hat
  show DataW.map ((es0.filter fun p => decide (now < num p.2) || left p.1).filter fun p => !p.1.sameKey kl) = _
  unfold Fs
  rw [List.filter_filter]
  congr 1
  refine List.filter_congr (fun p hp => ?_)
  have hn : ¬ now < c := by omega
  cases hs : p.1.sameKey kl
  · simp [hs]
  · simp [hs, hc p hp (WideAt.sameKey_eq hs), num, hn]

theorem Fs_stays (hap : es0.Pairwise (fun p q => p.1 ≠ q.1)) {kl : Lit} (hk : WideAt.IsKeyLit kl) (hlk : left kl = true) {c : Int} (hc0 : now < c) (hat : ∀ zd, (Fs now es0 left).atKey kl zd = .lit (.int .i64 c)) : Fs now es0 left = Fs now es0 (fun z => left z && !z.sameKey kl) := by
  have hc := at_came hap hk hlk hat
  unfold Fs
  congr 1
  refine List.filter_congr (fun p hp => ?_)
  cases hs : p.1.sameKey kl
  · simp [hs]
  · simp [hs, hc p hp (WideAt.sameKey_eq hs), num, hc0]
end

variable {vb bm n : Nat} {life next : Int} {D : DataW Unit}

/-- Not due: nothing turns. -/
theorem sweep_no (w : World) (h : VS w vb bm life next n D) (now : Int) (hd : now < next) :
    Calls Try.prog 15 #[.pointer (some ⟨vb, 0, none⟩), .int .i64 now] w fun e w' => e = .returned (.tuple #[]) ∧ w' = w := by
  have c6 := h.c6
  go_enter Try.func15, Try.ntmps15
  go_wp2
  exact bodyPost_ret (results_none rfl _ _ _) rfl ⟨rfl, rfl⟩

theorem keyOf_string_inv {key : Value} {kl : Lit} (h : keyOf Try.prog 9 key = some kl) : ∃ s : ByteArray, key = .string s := by
  cases key <;> simp [keyOf, Try.underlying9, mapKey] at h
  exact ⟨_, rfl⟩

set_option maxRecDepth 100000 in
theorem sweep_due (w : World) (es0 : List (Lit × DataW Unit)) (h : VS w vb bm life next n (.map es0)) (now : Int) (hd : ¬ now < next) :
    Calls Try.prog 15 #[.pointer (some ⟨vb, 0, none⟩), .int .i64 now] w fun e w' => e = .returned (.tuple #[]) ∧ VS w' vb bm life (wrap64 (now + life)) n (.map (alive now es0)) ∧ ∃ wm, w.grownBy wm (some bm) ∧ wm.grownBy w' (some vb) := by
  have c6 := h.c6
  have c5 := h.c5
  have hown := h.2
  obtain ⟨es1, e1, hap, hkeys⟩ := hown.entries law9
  cases e1
  go_enter Try.func15, Try.ntmps15
  go_wp2_with (first
    | (at_range; refine wpList_range_own _ rfl _ 45 rfl 9 48 law9 Try.underlying45 _ bm n _ rfl hown ?_; intro w0 hrg0 hg0 hs0)
    | go_in)
  go_loopw [4] (fun _ wr => ∃ (left : Lit → Bool) (cnt : Nat), wr.ranges Try.prog 9 (Rd w) bm w.heap.size n (Fs now es0 left) left cnt ∧ w.grownBy wr (some bm))
    (fun _ wr => wr.rangeLeft bm w.heap.size)
  case atStart => exact ⟨_, _, by rw [Fs_start hkeys]; exact hrg0, hg0.but _⟩
  case round =>
    obtain ⟨left, cnt, hrg, hgw⟩ := hrel
    go_wp2_with (first
      | (at_next; refine wpList_next_ranges _ rfl _ rfl 9 law9 (Rd w) Value.string (fun b : Nat => Value.pointer (some ⟨b, 0, none⟩)) (fun key kl hkey => keyOf_string_inv hkey) (fun v y hv => by obtain ⟨b, e, rfl, _⟩ := Rd_inv hv; exact ⟨b, rfl⟩) bm w.heap.size n _ _ _ rfl hrg ?_ ?_)
      | go_in)
    · -- NOTHING IS LEFT
      intro _ hl0
      have hR : ∀ v z, Rd w v = some z → Rd wr v = some z := fun _ _ hz => Rd_kept hgw (fun r hr => by cases hr; exact h.expm) hz
      have hvs : VS wr vb bm life next n (.map (alive now es0)) := h.mapped hgw hR (by rw [← Fs_end hl0]; exact hrg.owns)
      have k0 := hvs.c0
      have k6 := hvs.c6
      have f6 := hvs.f6
      clear hR hrg hl0 hrg0 hown c6 c5
      go_wp2
      go_end0
      exact ⟨rfl, hvs.stored _, wr, hgw, setCell_grown wr ⟨vb, 6, none⟩ _⟩
    · -- AN ENTRY HAS COME
      intro x b kl y1 y2 w1 cnt1 hkx hlx hv hat hrg1 hlt hg1 hs1 hen
      have hgw1 := hgw.andThen hg1 (fun j hj => by cases hj; exact Or.inl (Nat.le_refl _))
      obtain ⟨b', e, hb', he, hy⟩ := Rd_inv hv
      cases hy
      cases hb'
      have cb : w1.cell? ⟨b, 0, none⟩ = some (.int .i64 e) := expAt_cell (expAt_kept hgw1 (fun r hr => by cases hr; exact h.expm) he)
      have c5' : w1.cell? ⟨vb, 5, none⟩ = some (.map (some bm)) := by
        rw [← c5]; exact World.cell?_of_block (a := ⟨vb, 5, none⟩) (hgw1.block vb h.lt (fun e => h.ne (by cases e; rfl)))
      have hkl : WideAt.IsKeyLit kl := law9.key hkx
      clear hv c5 c6 hg1 hs1 hrg0
      go_wp2_with (first
        | (at_delete; refine wpList_delete_ranges _ rfl _ _ 45 9 rfl 48 law9 Try.underlying45 _ bm w.heap.size n _ _ _ rfl hrg1 _ _ rfl hkx ?_; intro w2 cnt2 hrg2 hle hturn; go_frame)
        | go_in)
      · -- IT HAS EXPIRED: struck
        have hc0 : e ≤ now := by assumption
        rw [strike_twice] at hrg2
        go_roundw
        case rel => exact ⟨_, cnt2, by rw [← Fs_struck hap hkl hlx hc0 hat]; exact hrg2, hgw1.andThen hturn.grown (fun j hj => by cases hj; exact Or.inr rfl)⟩
        case measure => rw [hrg2.left_eq, hrg.left_eq]; omega
      · -- IT HAS NOT: it stays
        have hc0 : now < e := by assumption
        go_roundw
        case rel => exact ⟨_, cnt1, by rw [← Fs_stays hap hkl hlx hc0 hat]; exact hrg1, hgw1⟩
        case measure => rw [hrg1.left_eq, hrg.left_eq]; exact hlt

/-- ZZsweep, not due. -/
theorem zsweep_no (w : World) (h : VS w vb bm life next n D) (now : Int) (hd : now < next) :
    Calls Try.prog 7 #[.pointer (some ⟨vb, 0, none⟩), .int .i64 now] w fun e w' => e = .returned (.tuple #[]) ∧ w' = w := by
  go_enter Try.func7, Try.ntmps7
  go_wp2_with (first
    | (go_at_call 15; refine (sweep_no _ h _ hd).mono ?_; rintro e w' ⟨rfl, rfl⟩)
    | go_in)
  go_end0
  exact ⟨rfl, rfl⟩

/-- ZZsweep, due. -/
theorem zsweep_due (w : World) (es0 : List (Lit × DataW Unit)) (h : VS w vb bm life next n (.map es0)) (now : Int) (hd : ¬ now < next) :
    Calls Try.prog 7 #[.pointer (some ⟨vb, 0, none⟩), .int .i64 now] w fun e w' => e = .returned (.tuple #[]) ∧ VS w' vb bm life (wrap64 (now + life)) n (.map (alive now es0)) ∧ ∃ wm, w.grownBy wm (some bm) ∧ wm.grownBy w' (some vb) := by
  go_enter Try.func7, Try.ntmps7
  go_wp2_with (first
    | (go_at_call 15; refine (sweep_due _ _ h _ hd).mono ?_; rintro e w' ⟨rfl, hvs, hgr⟩)
    | go_in)
  go_end0
  exact ⟨rfl, hvs, hgr⟩

end Go.Proofs.Qxb6613607a
