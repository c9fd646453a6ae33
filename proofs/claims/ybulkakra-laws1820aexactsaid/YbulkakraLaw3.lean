/-
  THE LAW, of seat b1820a: LawS1820AExact.
-/
import Derived.Test.YbulkakraLaw2
namespace Go.Proofs.Ybulkakra
open Go.RowKit
set_option linter.unusedSimpArgs false
set_option linter.unusedVariables false

/-- The boxes of the last loop. -/
theorem l3_all {w : World} {d bw : Nat} {wr : World} {u n : Nat} {W : Nat → Bool} (h : L3 w d bw wr u W) (hn : n = wr.heap.size) (WA : World) (hWA : WA = ((((wr.alloc (.cells #[.int .i64 (-1)] 3)).alloc (.cells #[.int .i64 0] 3)).alloc (.cells #[.bool true] 4)).alloc (.cells #[.pointer (some ⟨d, 0, none⟩)] 23)).alloc (.cells #[.int .u32 (u : Int)] 27)) :
    Calls Yba.prog 22 #[.func (.func 10) #[] #[.pointer (some ⟨n + 1 + 1, 0, none⟩), .pointer (some ⟨n, 0, none⟩), .pointer (some ⟨bw, 0, none⟩), .pointer (some ⟨n + 1, 0, none⟩)], .pointer (some ⟨n + 1 + 1 + 1, 0, none⟩), .pointer (some ⟨n + 1 + 1 + 1 + 1, 0, none⟩)] WA fun e w' => (∃ v, e = .returned v) ∧ w'.cell? ⟨n + 1 + 1, 0, none⟩ = some (.bool true) ∧ w'.cell? ⟨n + 1, 0, none⟩ = some (.int .i64 (cnt W 64 : Int)) ∧ Jk w w' := by
  obtain ⟨tg, N, m, hL, hm, hu, hsay⟩ := h
  obtain ⟨W1, e1⟩ : ∃ W1, W1 = wr.alloc (.cells #[.int .i64 (-1)] 3) := ⟨_, rfl⟩
  obtain ⟨W2, e2⟩ : ∃ W2, W2 = W1.alloc (.cells #[.int .i64 0] 3) := ⟨_, rfl⟩
  obtain ⟨W3, e3⟩ : ∃ W3, W3 = W2.alloc (.cells #[.bool true] 4) := ⟨_, rfl⟩
  obtain ⟨W4, e4⟩ : ∃ W4, W4 = W3.alloc (.cells #[.pointer (some ⟨d, 0, none⟩)] 23) := ⟨_, rfl⟩
  rw [← e1, ← e2, ← e3, ← e4] at hWA
  have s1 : W1.heap.size = n + 1 := by rw [e1, World.size_alloc, hn]
  have s2 : W2.heap.size = n + 1 + 1 := by rw [e2, World.size_alloc, s1]
  have s3 : W3.heap.size = n + 1 + 1 + 1 := by rw [e3, World.size_alloc, s2]
  have s4 : W4.heap.size = n + 1 + 1 + 1 + 1 := by rw [e4, World.size_alloc, s3]
  have s5 : WA.heap.size = n + 1 + 1 + 1 + 1 + 1 := by rw [hWA, World.size_alloc, s4]
  have j1 : Jk wr W1 := by rw [e1]; exact (Jk.refl _).alloc _
  have j12 : Jk W1 W2 := by rw [e2]; exact (Jk.refl _).alloc _
  have j23 : Jk W2 W3 := by rw [e3]; exact (Jk.refl _).alloc _
  have j34 : Jk W3 W4 := by rw [e4]; exact (Jk.refl _).alloc _
  have j45 : Jk W4 WA := by rw [hWA]; exact (Jk.refl _).alloc _
  have jA : Jk wr WA := j1.trans (j12.trans (j23.trans (j34.trans j45)))
  have k1 : Row WA n 1 (fun _ => .int .i64 (-1)) := by
    have := Row.new wr #[.int .i64 (-1)] 3 1 (fun _ => .int .i64 (-1)) (fun i hi => by obtain rfl : i = 0 := by omega
                                                                                       rfl)
    rw [← e1, ← hn] at this
    exact (j12.trans (j23.trans (j34.trans j45))).row this
  have k2 : Row WA (n + 1) 1 (fun _ => .int .i64 0) := by
    have := Row.new W1 #[.int .i64 0] 3 1 (fun _ => .int .i64 0) (fun i hi => by obtain rfl : i = 0 := by omega
                                                                                 rfl)
    rw [← e2, s1] at this
    exact (j23.trans (j34.trans j45)).row this
  have k3 : Row WA (n + 1 + 1) 1 (fun _ => .bool true) := by
    have := Row.new W2 #[.bool true] 4 1 (fun _ => .bool true) (fun i hi => by obtain rfl : i = 0 := by omega
                                                                               rfl)
    rw [← e3, s2] at this
    exact (j34.trans j45).row this
  have k4 : Row WA (n + 1 + 1 + 1) 1 (fun _ => .pointer (some ⟨d, 0, none⟩)) := by
    have := Row.new W3 #[.pointer (some ⟨d, 0, none⟩)] 23 1 (fun _ => .pointer (some ⟨d, 0, none⟩)) (fun i hi => by obtain rfl : i = 0 := by omega
                                                                                                                    rfl)
    rw [← e4, s3] at this
    exact j45.row this
  have k5 : Row WA (n + 1 + 1 + 1 + 1) 1 (fun _ => .int .u32 (u : Int)) := by
    have := Row.new W4 #[.int .u32 (u : Int)] 27 1 (fun _ => .int .u32 (u : Int)) (fun i hi => by obtain rfl : i = 0 := by omega
                                                                                                  rfl)
    rw [← hWA, s4] at this
    exact this
  obtain ⟨t5, ht5⟩ : ∃ t : Nat → Nat, ∀ b, t b = if b < n then tg b else 0 := ⟨fun b => if b < n then tg b else 0, fun _ => rfl⟩
  have hFA : Fr (fun _ => False) tg wr t5 WA := ⟨jA.os, jA.output, jA.size, fun b hb => by rw [ht5, if_pos (by omega)], fun b hb _ => jA.block b hb⟩
  have hbl := hL.row.lt (by omega)
  have htw := hL.tw
  have hlen := hL.len
  have hes := hL.es
  have hJ := hL.jk
  have hJs := hJ.size
  obtain ⟨C, hC⟩ := hL.st
  have z0 : ∀ b, n ≤ b → t5 b = 0 := fun b hb => by rw [ht5, if_neg (by omega)]
  refine (all22 t5 WA d (n + 1 + 1 + 1) (n + 1 + 1 + 1 + 1) n (n + 1) bw (n + 1 + 1) u N W ⟨C, hC.fr hFA (fun _ _ h => h)⟩ hL.wf (by omega) (by omega) hu hsay
    (k4 0 (by omega)).1 (k5 0 (by omega)).1 (k1 0 (by omega)).1 (k1 0 (by omega)).2 (k2 0 (by omega)).1 (k2 0 (by omega)).2 (k3 0 (by omega)).1 (jA.row hL.row)
    (z0 _ (by omega)) (z0 _ (by omega)) (z0 _ (by omega)) (by rw [ht5, if_pos (by omega)]; exact htw) (z0 _ (by omega)) (by omega) (by omega) (by omega) (by omega) (by omega) (by omega) (by omega)).mono ?_
  rintro e w' ⟨hv, hP⟩
  refine ⟨hv, hP.co, hP.cg, ⟨hP.os.trans (jA.os.trans hJ.os), hP.output.trans (jA.output.trans hJ.output), ?_, fun b hb => ?_⟩⟩
  · have := hP.size
    omega
  · have ht : t5 b = 0 := by rw [ht5, if_pos (by omega)]; exact hL.told b hb
    rw [hP.block b (by omega) (by omega) (by omega) (by omega) (by omega), jA.block b (by omega), hJ.block b hb]
set_option maxRecDepth 100000 in
set_option maxHeartbeats 1000000 in
theorem law3 (w : World) (a0 a1 : Option Addr) (l0 c0 l1 c1 : Nat) (X Y : Nat → Nat) (hX : InRow w a0 l0 X) (hY : InRow w a1 l1 Y) :
    Calls Yba.prog 3 #[.slice a0 l0 c0, .slice a1 l1 c1] w fun e w' => e = .returned (.bool true) ∧ Jk w w' := by
  by_cases h0 : 1024 < l0
  · have e1 : ((1024 : Int) < (l0 : Int)) := by omega
    go_enter Yba.func3, Yba.ntmps3
    go_wp2
    go_ret
    exact ⟨rfl, Jk.refl _⟩
  by_cases h1 : 1024 < l1
  · have e0 : ¬ ((1024 : Int) < (l0 : Int)) := by omega
    have e1 : ((1024 : Int) < (l1 : Int)) := by omega
    go_enter Yba.func3, Yba.ntmps3
    go_wp2
    go_ret
    exact ⟨rfl, Jk.refl _⟩
  have e0 : ¬ ((1024 : Int) < (l0 : Int)) := by omega
  have e1 : ¬ ((1024 : Int) < (l1 : Int)) := by omega
  have HX : Hid _ := hX
  have HY : Hid _ := hY
  clear hX hY
  go_enter Yba.func3, Yba.ntmps3
  go_wp2_with fail
  refine Calls.mono (new_any w) ?_
  rintro e w1 ⟨d, rfl, hNP⟩
  dsimp only
  obtain ⟨tg, hSt, hJ, hold, hdd⟩ := hNP
  have HN : Hid (St tg w1 d N0 [] ∧ Jk w w1 ∧ (∀ b, b < w.heap.size → tg b = 0) ∧ w.heap.size ≤ d) := ⟨hSt, hJ, hold, hdd⟩
  clear hSt hJ hold hdd
  go_upto_region 7 with fail
  generalize hbw : w1.heap.size = bw
  have HLI := li_start HN.out #[Value.bool false, Value.bool false, Value.bool false, Value.bool false, Value.bool false, Value.bool false, Value.bool false, Value.bool false, Value.bool false, Value.bool false, Value.bool false, Value.bool false, Value.bool false, Value.bool false, Value.bool false, Value.bool false, Value.bool false, Value.bool false, Value.bool false, Value.bool false, Value.bool false, Value.bool false, Value.bool false, Value.bool false, Value.bool false, Value.bool false, Value.bool false, Value.bool false, Value.bool false, Value.bool false, Value.bool false, Value.bool false, Value.bool false, Value.bool false, Value.bool false, Value.bool false, Value.bool false, Value.bool false, Value.bool false, Value.bool false, Value.bool false, Value.bool false, Value.bool false, Value.bool false, Value.bool false, Value.bool false, Value.bool false, Value.bool false, Value.bool false, Value.bool false, Value.bool false, Value.bool false, Value.bool false, Value.bool false, Value.bool false, Value.bool false, Value.bool false, Value.bool false, Value.bool false, Value.bool false, Value.bool false, Value.bool false, Value.bool false, Value.bool false] 25 (fun i hi => by
    have : ∀ i, i < 64 → (Array.replicate 64 (Value.bool false))[i]? = some (.bool false) := fun i hi => by simp [hi]
    exact this i hi)
  have H1 : Hid (L1 w d bw (w1.alloc (Obj.cells #[Value.bool false, Value.bool false, Value.bool false, Value.bool false, Value.bool false, Value.bool false, Value.bool false, Value.bool false, Value.bool false, Value.bool false, Value.bool false, Value.bool false, Value.bool false, Value.bool false, Value.bool false, Value.bool false, Value.bool false, Value.bool false, Value.bool false, Value.bool false, Value.bool false, Value.bool false, Value.bool false, Value.bool false, Value.bool false, Value.bool false, Value.bool false, Value.bool false, Value.bool false, Value.bool false, Value.bool false, Value.bool false, Value.bool false, Value.bool false, Value.bool false, Value.bool false, Value.bool false, Value.bool false, Value.bool false, Value.bool false, Value.bool false, Value.bool false, Value.bool false, Value.bool false, Value.bool false, Value.bool false, Value.bool false, Value.bool false, Value.bool false, Value.bool false, Value.bool false, Value.bool false, Value.bool false, Value.bool false, Value.bool false, Value.bool false, Value.bool false, Value.bool false, Value.bool false, Value.bool false, Value.bool false, Value.bool false, Value.bool false, Value.bool false] 25)) X 0 0) := by
    rw [hbw] at HLI
    exact ⟨_, N0, fun _ => false, HLI, by simp [N0], fun v _ _ => ⟨fun hh => absurd hh (has_zero N0_wf v 0), fun hh => absurd hh (inX_zero X _)⟩, fun c => by simp [inX_zero X c]⟩
  clear HLI HN
  have hl0 : l0 ≤ 1024 := by omega
  have hl1 : l1 ≤ 1024 := by omega
  clear h0 h1 e0 e1
  generalize w1.alloc _ = wS at *
  clear hbw
  go_loopg [30, 7] l0 (fun g t u wr => ∃ (i s : Nat), i ≤ l0 ∧ g = l0 - i ∧ t = .int .i64 (i : Int) ∧ u = .int .u32 (s : Int) ∧ L1 w d bw wr X i s)
  case atStart => exact ⟨0, 0, by omega, rfl, rfl, rfl, H1.out⟩
  case round =>
    obtain ⟨i, s, hi, hgk, rfl, rfl, hL⟩ := hrel
    by_cases hlt : i < l0
    · obtain ⟨bb, o, hae, hcell, hxl⟩ : ∃ bb o, a0 = some ⟨bb, o, none⟩ ∧ wr.cell? ⟨bb, o + i, none⟩ = some (.int .u16 (X i : Int)) ∧ X i < 65536 := by
        obtain ⟨tg', N', W', hLI, _⟩ := hL
        exact InRow.cell HX.out hLI.jk hlt
      have HS : Hid _ := l1_step hL (by omega) hxl
      have hcx := cx_lt (X i)
      have HA : Hid (∀ w', Calls Yba.prog 8 #[.int .u16 ((X i : Nat) : Int)] w' fun e w2 => e = .returned (.int .i64 (cx (X i) : Int)) ∧ w' = w2) := fun w' => alex_any w' (X i) hxl
      have hkw : IntKind.i64.wrap ((i : Int) + 1) = ((i + 1 : Nat) : Int) := by rw [IntKind.wrap_i64]; omega
      subst hae
      clear hL
      go_wp2_with fail
      refine Calls.mono HS.out ?_
      rintro e w2 ⟨r, rfl, hc6⟩
      dsimp only
      have HS6 : Hid _ := hc6
      clear hc6 HS
      go_wp2_with fail
      refine Calls.mono HS6.out ?_
      rintro e w3 ⟨s', rfl, ⟨u, hu⟩, hf, hL'⟩
      dsimp only
      have HL' : Hid _ := hL'
      clear hL' HS6
      go_wp2_with fail
      refine Calls.mono (HA.out _) ?_
      rintro e w4 ⟨rfl, rfl⟩
      dsimp only
      go_wp2
      go_roundg (l0 - (i + 1))
      case measure => omega
      case rel => exact ⟨i + 1, s', by omega, rfl, rfl, rfl, HL'.out⟩
    · have hil : i = l0 := by omega
      subst hil
      have H2 : Hid (L2 w d bw wr X Y i 0 s 0) := hL.two Y
      clear hL HX H1
      go_upto_region 14 with fail
      go_loopg [46, 10] l1 (fun g t u wr => ∃ (j s2 : Nat), j ≤ l1 ∧ g = l1 - j ∧ t = .int .i64 (j : Int) ∧ u = .int .u32 (s2 : Int) ∧ L2 w d bw wr X Y i j s s2)
      case atStart => exact ⟨0, 0, by omega, rfl, rfl, rfl, H2.out⟩
      case round =>
        clear H2 hgk
        rename_i wr0 
        obtain ⟨j, s2, hj, hgk, rfl, rfl, hL⟩ := hrel
        by_cases hlt2 : j < l1
        · obtain ⟨bb, o, hae, hcell, hxl⟩ : ∃ bb o, a1 = some ⟨bb, o, none⟩ ∧ wr.cell? ⟨bb, o + j, none⟩ = some (.int .u16 (Y j : Int)) ∧ Y j < 65536 := by
            obtain ⟨tg', N', W', hLI, _⟩ := hL
            exact InRow.cell HY.out hLI.jk hlt2
          have HS : Hid _ := l2_step hL (by omega) (by omega) hxl
          have hcx := cx_lt (Y j)
          have HA : Hid (∀ w', Calls Yba.prog 8 #[.int .u16 ((Y j : Nat) : Int)] w' fun e w2 => e = .returned (.int .i64 (cx (Y j) : Int)) ∧ w' = w2) := fun w' => alex_any w' (Y j) hxl
          have hkw : IntKind.i64.wrap ((j : Int) + 1) = ((j + 1 : Nat) : Int) := by rw [IntKind.wrap_i64]; omega
          subst hae
          clear hL
          go_wp2_with fail
          refine Calls.mono HS.out ?_
          rintro e w2 ⟨r, rfl, hc6⟩
          dsimp only
          have HS6 : Hid _ := hc6
          clear hc6 HS
          go_wp2_with fail
          refine Calls.mono HS6.out ?_
          rintro e w3 ⟨s', rfl, ⟨u, hu⟩, hf, hL'⟩
          dsimp only
          have HL' : Hid _ := hL'
          clear hL' HS6
          go_wp2_with fail
          refine Calls.mono (HA.out _) ?_
          rintro e w4 ⟨rfl, rfl⟩
          dsimp only
          go_wp2
          go_roundg (l1 - (j + 1))
          case measure => omega
          case rel => exact ⟨j + 1, s', by omega, rfl, rfl, rfl, HL'.out⟩
        · have HS : Hid _ := l2_end hL (by omega) (by omega)
          clear hL HY
          go_wp2_with fail
          refine Calls.mono HS.out ?_
          rintro e w2 ⟨u, W, rfl, hL3⟩
          dsimp only
          have HL3 : Hid (L3 w d bw w2 u W) := hL3
          have HR : Hid (Row w2 bw 64 (fun c => .bool (W c))) := by
            obtain ⟨tg', N', m, hLI, _⟩ := hL3
            exact hLI.row
          clear hL3 HS
          go_upto_region 22 with fail
          go_loopg [15, 14] 64 (fun g t v wr => ∃ (k : Nat), k ≤ 64 ∧ g = 64 - k ∧ t = .int .i64 (k : Int) ∧ v = .int .i64 (cnt W k : Int) ∧ wr = w2)
          case atStart => exact ⟨0, by omega, rfl, rfl, rfl, rfl⟩
          case round =>
            obtain ⟨k, hk, hgk3, rfl, rfl, rfl⟩ := hrel
            have hcn := cnt_le W k
            by_cases hlt3 : k < 64
            · obtain ⟨r1, r2⟩ := HR.out k hlt3
              have hlt4 : ((k : Nat) : Int) < 64 := by omega
              have hkw : IntKind.i64.wrap ((k : Int) + 1) = ((k + 1 : Nat) : Int) := by rw [IntKind.wrap_i64]; omega
              have HC : Hid (∀ v, W k = v → cnt W (k + 1) = cnt W k + if v then 1 else 0) := by rintro v rfl; rfl
              dsimp only at r1
              cases hW : W k with
              | true =>
                rw [hW] at r1
                have hcw : IntKind.i64.wrap ((cnt W k : Int) + 1) = ((cnt W (k + 1) : Nat) : Int) := by
                  rw [HC.out _ hW, IntKind.wrap_i64]; simp; omega
                go_wp2
                go_roundg (64 - (k + 1))
                case measure => omega
                case rel => exact ⟨k + 1, by omega, rfl, rfl, rfl, rfl⟩
              | false =>
                rw [hW] at r1
                have hcw : cnt W (k + 1) = cnt W k := by
                  rw [HC.out _ hW]; simp
                go_wp2
                go_roundg (64 - (k + 1))
                case measure => omega
                case rel => exact ⟨k + 1, by omega, rfl, rfl, by rw [hcw], rfl⟩
            · have hk64 : k = 64 := by omega
              subst hk64
              clear HR
              generalize hcnt : cnt W 64 = m at *
              obtain ⟨n, hn⟩ : ∃ n, n = wr.heap.size := ⟨_, rfl⟩
              have HA : Hid _ := l3_all HL3.out hn _ rfl
              rw [hcnt] at HA
              have HN : Hid _ := hn
              clear HL3 hn
              go_wp2_with fail
              refine Calls.mono (all9 _ _ _) ?_
              rintro e w5 ⟨rfl, rfl⟩
              dsimp only
              go_wp2_with fail
              rw [← HN.out]
              refine Calls.mono HA.out ?_
              rintro e w6 ⟨⟨v, rfl⟩, q1, q2, q3⟩
              dsimp only
              have HQ : Hid _ := q3
              clear q3 HA HN
              go_wp2
              go_ret
              exact ⟨rfl, HQ.out⟩
end Go.Proofs.Ybulkakra
