/-
  Seat b6613607a: the walk of FnSweepLeavesNoTraceAfterALifetime (4): what is not in the law's domain returns true at once.
-/
import Derived.Test.Qxb6613607aTwo
import Derived.Test.Qxb6613607aBytes
namespace Go.Proofs.Qxb6613607a
open Go.RowKit Go.Maps Go.WideMaps
set_option linter.unusedVariables false

set_option maxHeartbeats 2000000 in
set_option maxRecDepth 100000 in
theorem walk4_early (a1 a2 : Option Addr) (cap1 cap2 : Nat) (ss : List ByteArray) (zs : List Int) (life next t1 t2 : Int) (w : World) (hs : StrRow w a1 ss) (hz : IntRow w a2 zs)
    (hl1 : ss.length ≤ maxLen) (hl2 : zs.length ≤ maxLen) (hsz : ∀ s ∈ ss, s.size ≤ maxLen) (hlife : life ≤ 9223372036854775807) (ht2 : t2 ≤ 9223372036854775807) (hbad : ¬ (ss.length ≤ 4096 ∧ ss.length = zs.length ∧ 0 < life ∧ 0 ≤ t1 ∧ t1 ≤ t2 ∧ life ≤ t2 - t1)) :
    Calls Try.prog 4 #[.int .i64 life, .int .i64 next, .slice a1 ss.length cap1, .slice a2 zs.length cap2, .int .i64 t1, .int .i64 t2] w fun e w' => e = .returned (.bool true) ∧ Below w.heap.size w w' := by
  have hby := bytes12 a1 a2 cap1 cap2 zs.length ss w hs hl1 hl2 hsz life next t1 t2
  obtain ⟨len, hlen⟩ : ∃ len, len = ss.length := ⟨_, rfl⟩
  obtain ⟨len2, hlen2⟩ : ∃ len2, len2 = zs.length := ⟨_, rfl⟩
  have HN : Hid (len = ss.length) := hlen
  have HN2 : Hid (len2 = zs.length) := hlen2
  rw [← hlen, ← hlen2] at hby
  rw [← hlen] at hl1 ⊢
  rw [← hlen2] at hl2 ⊢
  rw [← hlen, ← hlen2] at hbad
  have HB : Hid (¬ (len ≤ 4096 ∧ len = len2 ∧ 0 < life ∧ 0 ≤ t1 ∧ t1 ≤ t2 ∧ life ≤ t2 - t1)) := hbad
  clear hbad
  clear hlen hlen2
  by_cases h1 : len ≤ 4096
  · by_cases h2 : len2 ≤ 4096
    · have hdone := True.intro
      unfold maxLen at hl1 hl2
      go_enter Try.func4, Try.ntmps4
      go_wp2_with (first
        | (go_at_call 12; refine hby.mono ?_; rintro e w' ⟨⟨r, rfl, hr⟩, rfl⟩; cases r)
        | go_in)
      · go_ret; exact ⟨rfl, Below.refl _ _⟩
      · have hsh := hr (by simp)
        clear hby hr
        go_loop [13, 14] (fun c t => ∃ (n : Int) (k : Nat), 0 ≤ n ∧ n ≤ 1048576 ∧ k ≤ len ∧ c = .int .i64 n ∧ t = .int .i64 k) (fun _ t => len - (intOf t).toNat)
        case atStart => exact ⟨_, 0, by omega, by omega, by omega, rfl, rfl⟩
        case round =>
          obtain ⟨n, k, hn0, hn1, hk, rfl, rfl⟩ := hrel
          by_cases hkl : k < len
          · have hks : k < ss.length := by rw [← HN.out]; exact hkl
            have hsk := hsh k hks
            obtain ⟨b1, o1, rfl, hlt1, hc1⟩ := hs k hks
            have k1 := hc1 k hks
            generalize ss.getD k ByteArray.empty = s at k1 hsk
            clear hc1 hs hz hsz hks hsh HB hdone
            have i1 : (0 : Int) ≤ (k : Int) := by omega
            have i2 : (k : Int) < (len : Int) := by omega
            go_wp2
            · go_ret; exact ⟨rfl, Below.refl _ _⟩
            · go_round
              case rel => exact ⟨_, k + 1, by omega, by omega, by omega, rfl, by go_num⟩
              case measure => simp [intOf]; omega
          · clear hs hz hsz hsh hdone
            by_cases g1 : len = len2
            · subst g1
              by_cases g2 : 0 < life
              · by_cases g3 : 0 ≤ t1
                · by_cases g4 : t1 ≤ t2
                  · by_cases g5 : life ≤ t2 - t1
                    · exact absurd ⟨h1, rfl, g2, g3, g4, g5⟩ HB.out
                    · clear HB
                      go_wp2
                      go_ret; exact ⟨rfl, Below.refl _ _⟩
                  · clear HB
                    go_wp2
                    go_ret; exact ⟨rfl, Below.refl _ _⟩
                · clear HB
                  go_wp2
                  go_ret; exact ⟨rfl, Below.refl _ _⟩
              · clear HB
                go_wp2
                go_ret; exact ⟨rfl, Below.refl _ _⟩
            · clear HB
              have g1' : ((len : Int) != (len2 : Int)) = true := by simp; omega
              go_wp2
              go_ret; exact ⟨rfl, Below.refl _ _⟩
    · clear HB
      go_enter Try.func4, Try.ntmps4
      go_wp2_with (first
        | (go_at_call 12; refine hby.mono ?_; rintro e w' ⟨⟨r, rfl, hr⟩, rfl⟩; cases r)
        | go_in)
      all_goals (go_ret; exact ⟨rfl, Below.refl _ _⟩)
  · clear HB
    go_enter Try.func4, Try.ntmps4
    go_wp2_with (first
      | (go_at_call 12; refine hby.mono ?_; rintro e w' ⟨⟨r, rfl, hr⟩, rfl⟩; cases r)
      | go_in)
    all_goals (go_ret; exact ⟨rfl, Below.refl _ _⟩)

end Go.Proofs.Qxb6613607a
