/-
  Seat b6613607a: the walk of FnSweepLeavesNoTraceAfterALifetime (4): in the law's domain, case F.
-/
import Derived.Test.Qxb6613607aTwo
import Derived.Test.Qxb6613607aBytes
namespace Go.Proofs.Qxb6613607a
open Go.RowKit Go.Maps Go.WideMaps
set_option linter.unusedVariables false

set_option maxHeartbeats 2000000 in
set_option maxRecDepth 100000 in
theorem walk4_first (a1 a2 : Option Addr) (cap1 cap2 : Nat) (ss : List ByteArray) (zs : List Int) (life next t1 t2 : Int) (w : World) (hs : StrRow w a1 ss) (hz : IntRow w a2 zs)
    (hl1 : ss.length ≤ maxLen) (hl2 : zs.length ≤ maxLen) (hsz : ∀ s ∈ ss, s.size ≤ maxLen) (hlife : life ≤ 9223372036854775807) (ht2 : t2 ≤ 9223372036854775807) (h4 : ss.length ≤ 4096) (g1 : ss.length = zs.length) (g2 : 0 < life) (g3 : 0 ≤ t1) (g4 : t1 ≤ t2) (g5 : life ≤ t2 - t1) (hd : next ≤ t1) :
    Calls Try.prog 4 #[.int .i64 life, .int .i64 next, .slice a1 ss.length cap1, .slice a2 zs.length cap2, .int .i64 t1, .int .i64 t2] w fun e w' => e = .returned (.bool true) ∧ Below w.heap.size w w' := by
  have hby := bytes12 a1 a2 cap1 cap2 zs.length ss w hs hl1 hl2 hsz life next t1 t2
  have hwith := with_any a1 a2 cap1 cap2 ss zs w hs hz g1 h4 hsz life next
  have hwith2 : ∀ w0, Below w.heap.size w w0 → _ := fun w0 hb => with_any a1 a2 cap1 cap2 ss zs w0 (hs.below hb) (hz.below hb) g1 h4 hsz life next
  rw [mk_eq] at hwith
  simp only [mk_eq] at hwith2
  obtain ⟨len, hlen⟩ : ∃ len, len = ss.length := ⟨_, rfl⟩
  obtain ⟨len2, hlen2⟩ : ∃ len2, len2 = zs.length := ⟨_, rfl⟩
  have HN : Hid (len = ss.length) := hlen
  have HN2 : Hid (len2 = zs.length) := hlen2
  rw [← hlen, ← hlen2] at hby hwith
  simp only [← hlen, ← hlen2] at hwith2
  rw [← hlen] at hl1 ⊢
  rw [← hlen2] at hl2 ⊢
  have G1 : Hid (ss.length = zs.length) := g1
  rw [← hlen, ← hlen2] at g1
  rw [← hlen] at h4
  clear hlen hlen2
  subst g1
  have h1 : len ≤ 4096 := h4
  have h2 : len ≤ 4096 := h4
  unfold maxLen at hl1 hl2
  go_enter Try.func4, Try.ntmps4
  go_wp2_with (first
    | (go_at_call 12; refine hby.mono ?_; rintro e w' ⟨⟨r, rfl, hr⟩, rfl⟩; cases r)
    | go_in)
  · go_ret; exact ⟨rfl, Below.refl _ _⟩
  · have hsh := hr (by simp)
    clear hby hr
    go_loop [13, 14] (fun c t => ∃ (n : Int) (k : Nat), 0 ≤ n ∧ n ≤ 1048576 ∧ k ≤ len ∧ c = .int .i64 n ∧ t = .int .i64 k) (fun _ t => len - (intOf t).toNat)
    case atStart => exact ⟨_, 0, by omega, by omega, by omega, rfl, rfl⟩
    case round =>
      obtain ⟨n, k, hn0, hn1, hk, rfl, rfl⟩ := hrel
      by_cases hkl : k < len
      · have hks : k < ss.length := by rw [← HN.out]; exact hkl
        have hsk := hsh k hks
        obtain ⟨b1, o1, rfl, hlt1, hc1⟩ := hs k hks
        have k1 := hc1 k hks
        generalize ss.getD k ByteArray.empty = s at k1 hsk
        clear hc1 hs hz hsz hks hsh hwith hwith2 G1
        have i1 : (0 : Int) ≤ (k : Int) := by omega
        have i2 : (k : Int) < (len : Int) := by omega
        go_wp2
        · go_ret; exact ⟨rfl, Below.refl _ _⟩
        · go_round
          case rel => exact ⟨_, k + 1, by omega, by omega, by omega, rfl, by go_num⟩
          case measure => simp [intOf]; omega
      · clear hsh
        go_wp2_with (first
          | (go_at_call 6; refine (hwith2 _ hb0).mono ?_; rintro e w1 ⟨rfl, hv2, hb1⟩; have hv1 := hv0.belowed hb1; have hlt := hv0.lt; have hbW := hb0.trans (hb1.mono hb0.size))
          | (go_at_call 6; refine hwith.mono ?_; rintro e w0 ⟨rfl, hv0, hb0⟩)
            | (go_at_call 7; refine (zsweep_due _ _ hS3 _ (by omega)).mono ?_; rintro e wA ⟨rfl, hvE2, wm, hg1, hg2⟩; have hvE := hT2.kept2 hS3 hg1 hg2 (by omega) (by omega) (by omega) (by omega); have hbA := swept hbY hg1 hg2 (by omega) (by omega))
            | (go_at_call 7; refine (zsweep_due _ _ hT1 _ (by omega)).mono ?_; rintro e wY ⟨rfl, hT2, wm, hg1, hg2⟩; rw [alive_alive _ _ g4] at hT2; have hS3 := hS2.kept2 hT1 hg1 hg2 (by omega) (by omega) (by omega) (by omega); have hbY := swept hbX hg1 hg2 (Nat.le_refl _) (Nat.le_succ _))
            | (go_at_call 7; refine (zsweep_due _ _ hv1 _ (by omega)).mono ?_; rintro e wX ⟨rfl, hT1, wm, hg1, hg2⟩; rw [wrap_small (by omega) (by omega)] at hT1; have hS2 := hv2.kept2 hv1 hg1 hg2 (by omega) (by omega) (by omega) (by omega); have hbX := swept hbW hg1 hg2 (Nat.le_refl _) (Nat.le_succ _))
          | (go_at_call 8; have hm2 := hm1; clear hm2; refine (next_any _ hvE2).mono ?_; rintro e wA ⟨rfl, rfl⟩)
          | (go_at_call 8; refine (next_any _ hvE).mono ?_; rintro e wA ⟨rfl, rfl⟩; have hm1 : Hid True := True.intro)
          | go_in)
        go_loopw [19, 20] (fun c t wr => ∃ (n k : Nat), k ≤ len ∧ n ≤ k ∧ c = .int .i64 n ∧ t = .int .i64 k ∧ Hid (n + keptN true t2 ss zs k = keptN true t2 ss zs 0) ∧ ∃ nq, wr = wA.drewN nq)
          (fun _ t _ => len - (intOf t).toNat)
        case atStart => exact ⟨0, 0, by omega, by omega, by go_num, by go_num, by simp [Hid], 0, rfl⟩
        case round =>
          obtain ⟨n, k, hk, hnk, rfl, rfl, HK, nq, rfl⟩ := hrel
          have hED : DataW.map (alive t2 (mkL (pairs ss zs))) = endD true t2 ss zs := by unfold endD; rw [keep_all]
          by_cases hkl : k < len
          · have hks : k < ss.length := by rw [← HN.out]; exact hkl
            have hkz : k < zs.length := by rw [← HN2.out]; exact hkl
            have hsk : (ss.getD k ByteArray.empty).size ≤ maxLen := hsz _ (by rw [List.getD, List.getElem?_eq_getElem hks]; exact List.getElem_mem hks)
            have hsA : StrRow (wA.drewN nq) a1 ss := StrRow.drewN (hs.below hbA) nq
            have hla := last_any a1 cap1 ss (wA.drewN nq) hsA (by rw [← HN.out]; exact h1) k hks
            rw [← HN.out] at hla
            obtain ⟨b1, o1, rfl, hlt1, hc1⟩ := hs k hks
            obtain ⟨b2, o2, rfl, hlt2, hc2⟩ := hz k hkz
            have k1 := (hbA.cell (p := ⟨b1, o1 + k, none⟩) hlt1).trans (hc1 k hks)
            have k2 := (hbA.cell (p := ⟨b2, o2 + k, none⟩) hlt2).trans (hc2 k hkz)
            have i1 : (0 : Int) ≤ (k : Int) := by omega
            have i2 : (k : Int) < (len : Int) := by omega
            by_cases hlat : laterB ss (k + 1) (ss.getD k ByteArray.empty) = true
            · have HK2 : Hid (n + keptN true t2 ss zs (k + 1) = keptN true t2 ss zs 0) := by rw [← keptN_later true t2 G1.out hks hlat]; exact HK
              rw [hlat] at hla
              clear hlat HK hc1 hc2 hs hz hsz hsA hED hwith hwith2
              go_wp2_with (first
                | (go_at_call 9; refine hla.mono ?_; rintro e wB ⟨rfl, nq2, rfl⟩)
                | go_in)
              go_roundw
              case rel => exact ⟨n, k + 1, by omega, by omega, rfl, by go_num, HK2, _, rfl⟩
              case measure => simp [intOf]; omega
            · have hlat' : laterB ss (k + 1) (ss.getD k ByteArray.empty) = false := by simpa using hlat
              have hH := has_end true t2 G1.out hks hlat'
              have hKL := keptN_last true t2 G1.out hks hlat'
              rw [hlat'] at hla
              rw [← hED] at hH
              clear hlat hlat' hED
              generalize ss.getD k ByteArray.empty = s at k1 hsk hH hc1
              generalize zs.getD k 0 = z at k2 hH hKL hc2
              by_cases hzt : (!true || decide (t2 < z)) = true
              · have HK2 : Hid ((n + 1) + keptN true t2 ss zs (k + 1) = keptN true t2 ss zs 0) := by have h := HK.out; rw [hKL, if_pos hzt] at h; show _ = _; omega
                rw [hzt] at hH
                have hha : ∀ q, Calls Try.prog 10 #[.pointer (some ⟨w'.heap.size + 1, 0, none⟩), .string s] (wA.drewN q) fun e w1 => e = .returned (.bool true) ∧ w1 = wA.drewN q := fun q => by
                  have := has_any (wA.drewN q) (hvE.drewN q) s hsk; rw [hH] at this; exact this
                have hha2 : ∀ q, Calls Try.prog 10 #[.pointer (some ⟨w0.heap.size + 1, 0, none⟩), .string s] (wA.drewN q) fun e w1 => e = .returned (.bool true) ∧ w1 = wA.drewN q := fun q => by
                  have := has_any (wA.drewN q) (hvE2.drewN q) s hsk; rw [hH] at this; exact this
                have hzt' : t2 < z := by simpa using hzt
                clear HK hH hKL hzt hc1 hc2 hs hz hsz hsA hwith hwith2
                go_wp2_with (first
                  | (go_at_call 9; refine hla.mono ?_; rintro e wB ⟨rfl, nq2, rfl⟩)
                  | (go_at_call 10; have hm4 := hm3; clear hm4; refine (hha2 _).mono ?_; rintro e wB ⟨rfl, rfl⟩)
                  | (go_at_call 10; refine (hha _).mono ?_; rintro e wB ⟨rfl, rfl⟩; have hm3 : Hid True := True.intro)
                  | go_in)
                go_roundw
                case rel => exact ⟨n + 1, k + 1, by omega, by omega, by go_num, by go_num, HK2, _, rfl⟩
                case measure => simp [intOf]; omega
              · have hzt' : ¬ t2 < z := by simpa using hzt
                have HK2 : Hid (n + keptN true t2 ss zs (k + 1) = keptN true t2 ss zs 0) := by have h := HK.out; rw [hKL, if_neg hzt] at h; show _ = _; omega
                rw [show (!true || decide (t2 < z)) = false by simpa using hzt] at hH
                have hha : ∀ q, Calls Try.prog 10 #[.pointer (some ⟨w'.heap.size + 1, 0, none⟩), .string s] (wA.drewN q) fun e w1 => e = .returned (.bool false) ∧ w1 = wA.drewN q := fun q => by
                  have := has_any (wA.drewN q) (hvE.drewN q) s hsk; rw [hH] at this; exact this
                have hha2 : ∀ q, Calls Try.prog 10 #[.pointer (some ⟨w0.heap.size + 1, 0, none⟩), .string s] (wA.drewN q) fun e w1 => e = .returned (.bool false) ∧ w1 = wA.drewN q := fun q => by
                  have := has_any (wA.drewN q) (hvE2.drewN q) s hsk; rw [hH] at this; exact this
                clear HK hH hKL hzt hc1 hc2 hs hz hsz hsA hwith hwith2
                go_wp2_with (first
                  | (go_at_call 9; refine hla.mono ?_; rintro e wB ⟨rfl, nq2, rfl⟩)
                  | (go_at_call 10; have hm4 := hm3; clear hm4; refine (hha2 _).mono ?_; rintro e wB ⟨rfl, rfl⟩)
                  | (go_at_call 10; refine (hha _).mono ?_; rintro e wB ⟨rfl, rfl⟩; have hm3 : Hid True := True.intro)
                  | go_in)
                go_roundw
                case rel => exact ⟨n, k + 1, by omega, by omega, rfl, by go_num, HK2, _, rfl⟩
                case measure => simp [intOf]; omega
          · have hke : k = ss.length := by rw [← HN.out]; omega
            have hsz0 : Maps.size (DataW.map (alive t2 (mkL (pairs ss zs)))) = n := by
              have h := HK.out
              rw [hke, keptN_end true t2 G1.out] at h
              rw [hED, size_end]; omega
            have hle : ∀ q, Calls Try.prog 11 #[.pointer (some ⟨w'.heap.size + 1, 0, none⟩)] (wA.drewN q) fun e w1 => e = .returned (.int .i64 (n : Int)) ∧ w1 = wA.drewN q := fun q => by
              have := len_any (wA.drewN q) (hvE.drewN q); rw [hsz0] at this; exact this
            have hle2 : ∀ q, Calls Try.prog 11 #[.pointer (some ⟨w0.heap.size + 1, 0, none⟩)] (wA.drewN q) fun e w1 => e = .returned (.int .i64 (n : Int)) ∧ w1 = wA.drewN q := fun q => by
              have := len_any (wA.drewN q) (hvE2.drewN q); rw [hsz0] at this; exact this
            clear HK hED hsz0 hke hs hz hsz hwith hwith2
            go_wp2_with (first
              | (go_at_call 11; have hm4 := hm3; clear hm4; refine (hle2 _).mono ?_; rintro e wB ⟨rfl, rfl⟩)
              | (go_at_call 11; refine (hle _).mono ?_; rintro e wB ⟨rfl, rfl⟩; have hm3 : Hid True := True.intro)
              | go_in)
            go_ret
            exact ⟨rfl, hbA.trans ⟨rfl, rfl, rfl, Nat.le_refl _, fun _ _ => rfl⟩⟩

end Go.Proofs.Qxb6613607a
