/-
  Seat b6613607a: the walk of zzVerifierWith (6): a verifier whose map holds, for each key, the expiry of its last entry.
-/
import Derived.Test.Qxb6613607aLast
import Derived.Deep.RegionHeld3
namespace Go.Proofs.Qxb6613607a
open Go.RowKit Go.Maps Go.WideMaps

/-- A map filled from a list of entries, the later over the earlier. -/
def mk (ps : List (Lit × DataW Unit)) : DataW Unit := ps.foldl (fun m p => m.put p.1 p.2) (.map [])

/-- Keys and expiries as the map's entries. -/
def pairs : List ByteArray → List Int → List (Lit × DataW Unit)
  | s :: ss, z :: zs => (.string s.data.toList, .lit (.int .i64 z)) :: pairs ss zs
  | _, _ => []

theorem pairs_length : ∀ (ss : List ByteArray) (zs : List Int), ss.length = zs.length → (pairs ss zs).length = ss.length
  | [], _, _ => by simp [pairs]
  | s :: ss, [], h => by simp at h
  | s :: ss, z :: zs, h => by simp [pairs, pairs_length ss zs (by simpa using h)]

theorem pairs_get : ∀ (ss : List ByteArray) (zs : List Int) (k : Nat), ss.length = zs.length → k < ss.length → (pairs ss zs)[k]? = some (.string (ss.getD k ByteArray.empty).data.toList, .lit (.int .i64 (zs.getD k 0)))
  | [], _, _, _, h => by simp at h
  | s :: ss, [], _, h, _ => by simp at h
  | s :: ss, z :: zs, 0, _, _ => by simp [pairs]
  | s :: ss, z :: zs, k + 1, h, hk => by
    have := pairs_get ss zs k (by simpa using h) (by simpa using hk)
    simpa [pairs] using this

theorem mk_step (ss : List ByteArray) (zs : List Int) (k : Nat) (h : ss.length = zs.length) (hk : k < ss.length) :
    mk ((pairs ss zs).take (k + 1)) = (mk ((pairs ss zs).take k)).put (.string (ss.getD k ByteArray.empty).data.toList) (.lit (.int .i64 (zs.getD k 0))) := by
  have h1 := pairs_get ss zs k h hk
  rw [List.take_add_one, h1]
  simp [mk, List.foldl_append]

theorem VS.drew {w : World} {vb bm n : Nat} {life next : Int} {D : DataW Unit} (h : VS w vb bm life next n D) : VS w.drew vb bm life next n D := h
theorem VS.drewN {w : World} {vb bm n : Nat} {life next : Int} {D : DataW Unit} (h : VS w vb bm life next n D) (q : Nat) : VS (w.drewN q) vb bm life next n D := h

theorem far_cell {w w1 : World} {bm b o : Nat} {v : Value} (hg : w.grownBy w1 (some bm)) (hb : b < bm) (hs : bm ≤ w.heap.size) (h : w.cell? ⟨b, o, none⟩ = some v) : w1.cell? ⟨b, o, none⟩ = some v :=
  (World.cell?_of_block (a := ⟨b, o, none⟩) (hg.block b (by omega) (fun e => by cases e; omega))).trans h

set_option maxHeartbeats 1000000 in
theorem with_any (a1 a2 : Option Addr) (cap1 cap2 : Nat) (ss : List ByteArray) (zs : List Int) (w : World) (hs : StrRow w a1 ss) (hz : IntRow w a2 zs) (hl : ss.length = zs.length) (h4 : ss.length ≤ 4096)
    (hsz : ∀ s ∈ ss, s.size ≤ maxLen) (life next : Int) :
    Calls Try.prog 6 #[.int .i64 life, .int .i64 next, .slice a1 ss.length cap1, .slice a2 zs.length cap2] w fun e w' =>
      e = .returned (.pointer (some ⟨w.heap.size + 1, 0, none⟩)) ∧ VS w' (w.heap.size + 1) w.heap.size life next ss.length (mk (pairs ss zs)) ∧ Below w.heap.size w w' := by
  have HP : Hid ((pairs ss zs).length = ss.length) := pairs_length ss zs hl
  have HL : Hid (ss.length = zs.length) := hl
  obtain ⟨len, hlen⟩ : ∃ len, len = ss.length := ⟨_, rfl⟩
  have HN : Hid (len = ss.length) := hlen
  rw [← hl, ← hlen]
  rw [← hlen] at h4
  clear hlen hl
  go_enter Try.func6, Try.ntmps6
  go_wp2_with (first
    | (go_at_call 13; refine (new_any _ _ _).mono ?_; rintro e w0 ⟨rfl, hv0, hb0⟩)
    | go_in)
  go_loopw [10] (fun t wr => ∃ k : Nat, k ≤ len ∧ t = .int .i64 k ∧ VS wr (w.heap.size + 1) w.heap.size life next k (mk ((pairs ss zs).take k)) ∧ Below w.heap.size w wr)
    (fun t _ => len - (intOf t).toNat)
  case atStart => exact ⟨0, by omega, by go_num, hv0, hb0⟩
  case round =>
    obtain ⟨k, hk, rfl, hvs, hbw⟩ := hrel
    by_cases hkl : k < len
    · have hks : k < ss.length := by rw [← HN.out]; exact hkl
      have hkz : k < zs.length := by rw [← HL.out]; exact hks
      have hsk : (ss.getD k ByteArray.empty).size ≤ maxLen := hsz _ (by rw [List.getD, List.getElem?_eq_getElem hks]; exact List.getElem_mem hks)
      obtain ⟨b1, o1, rfl, hlt1, hc1⟩ := hs k hks
      obtain ⟨b2, o2, rfl, hlt2, hc2⟩ := hz k hkz
      have k1 := (hbw.cell (p := ⟨b1, o1 + k, none⟩) hlt1).trans (hc1 k hks)
      have k2 := (hbw.cell (p := ⟨b2, o2 + k, none⟩) hlt2).trans (hc2 k hkz)
      have HM : Hid (mk ((pairs ss zs).take (k + 1)) = (mk ((pairs ss zs).take k)).put (.string (ss.getD k ByteArray.empty).data.toList) (.lit (.int .i64 (zs.getD k 0)))) := mk_step ss zs k HL.out hks
      generalize ss.getD k ByteArray.empty = s at k1 hsk HM
      generalize zs.getD k 0 = z at k2 HM
      generalize mk ((pairs ss zs).take k) = D0 at HM hvs
      have hn : k < maxLen := by unfold maxLen; omega
      have i1 : (0 : Int) ≤ (k : Int) := by omega
      have i2 : (k : Int) < (len : Int) := by omega
      clear hc1 hc2 hs hz hsz hb0 hv0 hks hkz HP
      go_wp2
      go_region_held3 (fun w' => w'.cell? ⟨b1, o1 + k, none⟩ = some (.string s) ∧ w'.cell? ⟨b2, o2 + k, none⟩ = some (.int .i64 z)) (go_keep)
        (first | (go_at_call 14; refine (put_any _ hvs.drew hn _ hsk _).mono ?_; rintro e w1 ⟨rfl, hvs1, hg1⟩; have q1 := far_cell hg1 hlt1 hbw.size k1; have q2 := far_cell hg1 hlt2 hbw.size k2))
      go_wp2
      go_roundw
      case rel => exact ⟨k + 1, by omega, by go_num, by rw [HM.out]; exact hvs1, hbw.drew.grown hg1 hbw.size (fun j hj => by cases hj; exact Nat.le_refl _)⟩
      case measure => simp [intOf]; omega
    · have hke : k = len := by omega
      have e1 : (pairs ss zs).take k = pairs ss zs := List.take_of_length_le (by rw [HP.out, ← HN.out]; omega)
      rw [e1, hke] at hvs
      have HV : Hid (VS wr (w.heap.size + 1) w.heap.size life next len (mk (pairs ss zs))) := hvs
      clear hvs hke e1 hs hz hv0 hb0 hsz
      go_wp2
      go_ret
      exact ⟨rfl, HV.out, hbw⟩

end Go.Proofs.Qxb6613607a
