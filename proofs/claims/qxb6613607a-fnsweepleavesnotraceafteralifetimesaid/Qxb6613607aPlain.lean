/-
  Seat b6613607a: THE PLAIN LAW, no Go in sight: a map filled from a list of entries holds each key's LAST entry; how many of them pass a test; is a key there behind a filter.
-/
import Derived.Test.Qxb6613607aWith
namespace Go.Proofs.Qxb6613607a
open Go.RowKit Go.Maps Go.WideMaps
open Go.WideShapes (insert_perm)

/-- A store, on the list of entries. -/
def putL (es : List (Lit × DataW Unit)) (p : Lit × DataW Unit) : List (Lit × DataW Unit) := DataW.insert p (es.filter fun q => !q.1.sameKey p.1)

theorem fold_list : ∀ (ps es : List (Lit × DataW Unit)), ps.foldl (fun m p => m.put p.1 p.2) (DataW.map es) = .map (ps.foldl putL es)
  | [], _ => rfl
  | p :: r, es => fold_list r (putL es p)

/-- The entries of a list that no later one of the same key overwrites. -/
def lasts : List (Lit × DataW Unit) → List (Lit × DataW Unit)
  | [] => []
  | p :: r => if r.any (fun q => q.1.sameKey p.1) then lasts r else p :: lasts r

/-- Every key is a string. -/
def StrKeys (ps : List (Lit × DataW Unit)) : Prop := ∀ p ∈ ps, ∃ l, p.1 = .string l

theorem same_comm (a b : Lit) : a.sameKey b = b.sameKey a := by
  cases a <;> cases b <;> simp only [Lit.sameKey]
  · exact Bool.beq_comm
  · rename_i q x q' y
    rw [decide_eq_decide]
    exact ⟨fun h => ⟨h.1.symm, h.2.symm⟩, fun h => ⟨h.1.symm, h.2.symm⟩⟩
  · exact Bool.beq_comm

theorem any_same_comm (r : List (Lit × DataW Unit)) (k : Lit) : (r.any fun q => k.sameKey q.1) = r.any fun q => q.1.sameKey k := by
  congr 1; funext q; exact same_comm _ _

theorem perm_fold : ∀ (ps es : List (Lit × DataW Unit)), (ps.foldl putL es).Perm (es.filter (fun q => !ps.any (fun p => q.1.sameKey p.1)) ++ lasts ps)
  | [], es => by
    have h0 : es.filter (fun q => !([] : List (Lit × DataW Unit)).any (fun p => q.1.sameKey p.1)) = es := List.filter_eq_self.2 (fun _ _ => rfl)
    rw [h0]
    simp [lasts]
  | p :: r, es => by
    have ih := perm_fold r (putL es p)
    refine ih.trans ?_
    have h1 : ((putL es p).filter (fun q => !r.any (fun x => q.1.sameKey x.1))).Perm ((p :: es.filter fun q => !q.1.sameKey p.1).filter (fun q => !r.any (fun x => q.1.sameKey x.1))) := (insert_perm p _).filter _
    refine (h1.append_right _).trans ?_
    have h2 : (es.filter fun q => !q.1.sameKey p.1).filter (fun q => !r.any (fun x => q.1.sameKey x.1)) = es.filter (fun q => !(p :: r).any (fun x => q.1.sameKey x.1)) := by
      rw [List.filter_filter]
      refine List.filter_congr (fun q _ => ?_)
      rw [List.any_cons]
      cases q.1.sameKey p.1 <;> cases r.any (fun x => q.1.sameKey x.1) <;> rfl
    have h3 : lasts (p :: r) = if r.any (fun q => q.1.sameKey p.1) then lasts r else p :: lasts r := rfl
    rw [List.filter_cons, h2, any_same_comm, h3]
    cases hr : r.any (fun q => q.1.sameKey p.1)
    · simpa using (List.perm_middle (a := p) (l₁ := es.filter (fun q => !(p :: r).any (fun x => q.1.sameKey x.1))) (l₂ := lasts r)).symm
    · simp

/-- The entries of a map filled from a list. -/
def mkL (ps : List (Lit × DataW Unit)) : List (Lit × DataW Unit) := ps.foldl putL []
theorem mk_eq (ps : List (Lit × DataW Unit)) : mk ps = .map (mkL ps) := fold_list ps []
theorem mkL_perm (ps : List (Lit × DataW Unit)) : (mkL ps).Perm (lasts ps) := perm_fold ps []

/-- How many of a list pass the test. -/
def cnt (f : Lit × DataW Unit → Bool) (l : List (Lit × DataW Unit)) : Nat := (l.filter f).length

theorem cnt_mkL (f : Lit × DataW Unit → Bool) (ps : List (Lit × DataW Unit)) : ((mkL ps).filter f).length = cnt f (lasts ps) := ((mkL_perm ps).filter f).length_eq

theorem cnt_step (f : Lit × DataW Unit → Bool) (ps : List (Lit × DataW Unit)) (i : Nat) (p : Lit × DataW Unit) (h : ps[i]? = some p) :
    cnt f (lasts (ps.drop i)) = (if (ps.drop (i + 1)).any (fun q => q.1.sameKey p.1) then 0 else if f p then 1 else 0) + cnt f (lasts (ps.drop (i + 1))) := by
  obtain ⟨hi, e⟩ := List.getElem?_eq_some_iff.1 h
  rw [List.drop_eq_getElem_cons hi, e]
  show cnt f (if (ps.drop (i + 1)).any (fun q => q.1.sameKey p.1) then lasts (ps.drop (i + 1)) else p :: lasts (ps.drop (i + 1))) = _
  cases (ps.drop (i + 1)).any (fun q => q.1.sameKey p.1)
  · cases hf : f p <;> simp [cnt, hf]; omega
  · simp

theorem mem_lasts : ∀ (ps : List (Lit × DataW Unit)) (q : Lit × DataW Unit), q ∈ lasts ps ↔ ∃ i, ps[i]? = some q ∧ (ps.drop (i + 1)).any (fun x => x.1.sameKey q.1) = false
  | [], q => by simp [lasts]
  | p :: r, q => by
    have ih := mem_lasts r q
    have key : q ∈ lasts (p :: r) ↔ (q = p ∧ r.any (fun x => x.1.sameKey p.1) = false) ∨ q ∈ lasts r := by
      show q ∈ (if r.any (fun x => x.1.sameKey p.1) then lasts r else p :: lasts r) ↔ _
      cases r.any (fun x => x.1.sameKey p.1) <;> simp
    rw [key, ih]
    constructor
    · rintro (⟨rfl, h⟩ | ⟨i, h1, h2⟩)
      · exact ⟨0, rfl, h⟩
      · exact ⟨i + 1, h1, h2⟩
    · rintro ⟨i, h1, h2⟩
      cases i with
      | zero =>
        simp only [List.getElem?_cons_zero, Option.some.injEq] at h1
        subst h1
        exact Or.inl ⟨rfl, h2⟩
      | succ i => exact Or.inr ⟨i, h1, h2⟩

theorem any_drop {ps : List (Lit × DataW Unit)} {i j : Nat} {q : Lit × DataW Unit} (f : Lit × DataW Unit → Bool) (hj : ps[j]? = some q) (hij : i ≤ j) (hf : f q = true) : (ps.drop i).any f = true := by
  refine List.any_eq_true.2 ⟨q, ?_, hf⟩
  refine List.mem_of_getElem? (i := j - i) ?_
  rw [List.getElem?_drop, show i + (j - i) = j by omega]
  exact hj

/-- IS THE KEY OF A LAST ENTRY THERE BEHIND A FILTER? Just if that entry passes. -/
theorem has_last (f : Lit × DataW Unit → Bool) (ps : List (Lit × DataW Unit)) (hk : StrKeys ps) (i : Nat) (p : Lit × DataW Unit) (h : ps[i]? = some p) (hl : (ps.drop (i + 1)).any (fun q => q.1.sameKey p.1) = false) :
    Maps.has (.map ((mkL ps).filter f)) p.1 = f p := by
  have hself : p.1.sameKey p.1 = true := by
    obtain ⟨l, e⟩ := hk p (List.mem_of_getElem? h)
    rw [e]; simp [Lit.sameKey]
  show ((mkL ps).filter f).any (fun q => q.1.sameKey p.1) = f p
  have hp : p ∈ mkL ps := (mkL_perm ps).mem_iff.2 ((mem_lasts ps p).2 ⟨i, h, hl⟩)
  cases hf : f p
  · rw [List.any_eq_false]
    intro q hq hs
    obtain ⟨hq1, hq2⟩ := List.mem_filter.1 hq
    obtain ⟨j, hj, hjl⟩ := (mem_lasts ps q).1 ((mkL_perm ps).mem_iff.1 hq1)
    rcases Nat.lt_trichotomy i j with hij | hij | hij
    · rw [any_drop (fun x => x.1.sameKey p.1) hj hij hs] at hl; cases hl
    · subst hij; rw [h] at hj; cases hj; rw [hf] at hq2; cases hq2
    · rw [same_comm] at hs
      rw [any_drop (fun x => x.1.sameKey q.1) h hij hs] at hjl; cases hjl
  · exact List.any_eq_true.2 ⟨p, List.mem_filter.2 ⟨hp, hf⟩, hself⟩

theorem StrRow.drewN {w : World} {a : Option Addr} {ss : List ByteArray} (h : StrRow w a ss) (q : Nat) : StrRow (w.drewN q) a ss := h

theorem wrap_small {x : Int} (h1 : -9223372036854775808 ≤ x) (h2 : x ≤ 9223372036854775807) : wrap64 x = x := by unfold wrap64; omega

/-! ### keys and expiries -/
theorem pairs_drop : ∀ (ss : List ByteArray) (zs : List Int) (k : Nat), ss.length = zs.length → (pairs ss zs).drop k = pairs (ss.drop k) (zs.drop k)
  | [], [], _, _ => by simp [pairs]
  | [], _ :: _, _, h => by simp at h
  | _ :: _, [], _, h => by simp at h
  | s :: ss, z :: zs, 0, _ => rfl
  | s :: ss, z :: zs, k + 1, h => pairs_drop ss zs k (by simpa using h)

theorem pairs_keys : ∀ (ss : List ByteArray) (zs : List Int), StrKeys (pairs ss zs)
  | [], _ => by intro p hp; simp [pairs] at hp
  | _ :: _, [] => by intro p hp; simp [pairs] at hp
  | s :: ss, z :: zs => by
    intro p hp
    rcases List.mem_cons.1 (show p ∈ (Lit.string s.data.toList, DataW.lit (Lit.int .i64 z)) :: pairs ss zs from hp) with rfl | h
    · exact ⟨_, rfl⟩
    · exact pairs_keys ss zs p h

theorem pairs_any : ∀ (ss : List ByteArray) (zs : List Int) (s : ByteArray), ss.length = zs.length → (pairs ss zs).any (fun q => q.1.sameKey (.string s.data.toList)) = ss.any (fun t => t.toList == s.toList)
  | [], [], _, _ => rfl
  | [], _ :: _, _, h => by simp at h
  | _ :: _, [], _, h => by simp at h
  | t :: ss, z :: zs, s, h => by
    show ((t.data.toList == s.data.toList) || (pairs ss zs).any _) = ((t.toList == s.toList) || ss.any _)
    rw [pairs_any ss zs s (by simpa using h), ByteArray.toList_eq, ByteArray.toList_eq]

theorem later_pairs (ss : List ByteArray) (zs : List Int) (k : Nat) (s : ByteArray) (h : ss.length = zs.length) : ((pairs ss zs).drop k).any (fun q => q.1.sameKey (.string s.data.toList)) = laterB ss k s := by
  rw [pairs_drop ss zs k h, pairs_any _ _ _ (by simp [h])]
  rfl

/-- The test of a sweep: whatever was not swept stays; what was swept at 'at' stays if it expires later. -/
def keepF (sw : Bool) (t : Int) (p : Lit × DataW Unit) : Bool := !sw || decide (t < num p.2)

theorem keep_none (t : Int) (es : List (Lit × DataW Unit)) : es.filter (keepF false t) = es := List.filter_eq_self.2 (fun _ _ => rfl)
theorem keep_all (t : Int) (es : List (Lit × DataW Unit)) : es.filter (keepF true t) = alive t es := List.filter_congr (fun _ _ => by simp [keepF])
theorem alive_alive (t1 t2 : Int) (h : t1 ≤ t2) (es : List (Lit × DataW Unit)) : alive t2 (alive t1 es) = alive t2 es := by
  unfold alive
  rw [List.filter_filter]
  refine List.filter_congr (fun p _ => ?_)
  by_cases h2 : t2 < num p.2
  · have : t1 < num p.2 := by omega
    simp [h2, this]
  · simp [h2]

section
variable (sw : Bool) (t : Int) (ss : List ByteArray) (zs : List Int)
/-- How many are kept from place i on. -/
def keptN (i : Nat) : Nat := cnt (keepF sw t) (lasts ((pairs ss zs).drop i))
/-- What the map holds in the end. -/
def endD : DataW Unit := .map ((mkL (pairs ss zs)).filter (keepF sw t))

variable {ss zs}
theorem keptN_later (hl : ss.length = zs.length) {i : Nat} (hi : i < ss.length) (h : laterB ss (i + 1) (ss.getD i ByteArray.empty) = true) : keptN sw t ss zs i = keptN sw t ss zs (i + 1) := by
  unfold keptN
  rw [cnt_step _ _ _ _ (pairs_get ss zs i hl hi), later_pairs ss zs _ _ hl, h]
  simp
theorem keptN_last (hl : ss.length = zs.length) {i : Nat} (hi : i < ss.length) (h : laterB ss (i + 1) (ss.getD i ByteArray.empty) = false) :
    keptN sw t ss zs i = (if (!sw || decide (t < zs.getD i 0)) = true then 1 else 0) + keptN sw t ss zs (i + 1) := by
  unfold keptN
  rw [cnt_step _ _ _ _ (pairs_get ss zs i hl hi), later_pairs ss zs _ _ hl, h]
  rfl
theorem keptN_end (hl : ss.length = zs.length) : keptN sw t ss zs ss.length = 0 := by
  unfold keptN
  rw [List.drop_of_length_le (by rw [pairs_length ss zs hl]; exact Nat.le_refl _)]
  rfl
theorem has_end (hl : ss.length = zs.length) {i : Nat} (hi : i < ss.length) (h : laterB ss (i + 1) (ss.getD i ByteArray.empty) = false) :
    Maps.has (endD sw t ss zs) (.string (ss.getD i ByteArray.empty).data.toList) = (!sw || decide (t < zs.getD i 0)) :=
  has_last (keepF sw t) (pairs ss zs) (pairs_keys ss zs) i _ (pairs_get ss zs i hl hi) (by rw [later_pairs ss zs _ _ hl]; exact h)
theorem size_end : Maps.size (endD sw t ss zs) = keptN sw t ss zs 0 := cnt_mkL (keepF sw t) (pairs ss zs)
end

theorem keptN_le (sw : Bool) (t : Int) (ss : List ByteArray) (zs : List Int) (hl : ss.length = zs.length) (i : Nat) : keptN sw t ss zs i ≤ ss.length := by
  have h1 : ∀ l : List (Lit × DataW Unit), (lasts l).length ≤ l.length := by
    intro l
    induction l with
    | nil => simp [lasts]
    | cons p r ih =>
      show (if r.any (fun q => q.1.sameKey p.1) then lasts r else p :: lasts r).length ≤ _
      split
      · simp; omega
      · simp; omega
  unfold keptN cnt
  have h2 := List.length_filter_le (keepF sw t) (lasts ((pairs ss zs).drop i))
  have h3 := h1 ((pairs ss zs).drop i)
  have h4 := pairs_length ss zs hl
  simp at h3
  omega

end Go.Proofs.Qxb6613607a
