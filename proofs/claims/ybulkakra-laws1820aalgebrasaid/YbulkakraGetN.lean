/-
  nodes.get of seat b1820a.
-/
import Derived.Test.YbulkakraPutN
namespace Go.Proofs.Ybulkakra
open Go.RowKit
set_option linter.unusedSimpArgs false
set_option linter.unusedVariables false

/-- What a reader of node i finds. -/
structure NodeAt (w : World) (d nO c0 nC n i : Nat) (N : List Nd) : Prop where
  h0 : w.cell? ⟨d, 0, none⟩ = some (.slice (some ⟨nO, 0, none⟩) 1 c0)
  h2 : w.cell? ⟨nO, 0, none⟩ = some (.slice (some ⟨nC, 0, none⟩) n 65536)
  x0 : w.cell? ⟨nC, i * 3, none⟩ = some (.int .u32 (lev N i : Int))
  x1 : w.cell? ⟨nC, i * 3 + 1, none⟩ = some (.int .u32 (eoff N i : Int))
  x2 : w.cell? ⟨nC, i * 3 + 2, none⟩ = some (.int .u32 ((edg N i).length : Int))
theorem NodesV.at {tg : Nat → Nat} {w : World} {d : Nat} {C : Nat → Value} {N : List Nd} {nO nC c0 : Nat} {g h : Nat → Value} (v : NodesV tg w C N nO nC c0 g h) (hd : Row w d 1035 C) (hn : N.length ≤ 65536) {i : Nat} (hi : i < N.length) : NodeAt w d nO c0 nC N.length i N := by
  obtain ⟨a, b, c⟩ := v.val i hi
  exact ⟨by rw [(hd 0 (by omega)).1, v.c], by rw [(v.ro 0 v.one).1, v.g0], by rw [(v.rc (i * 3) (by omega)).1, a], by rw [(v.rc (i * 3 + 1) (by omega)).1, b], by rw [(v.rc (i * 3 + 2) (by omega)).1, c]⟩
theorem NodeAt.jk {w w' : World} {d nO c0 nC n i : Nat} {N : List Nd} (v : NodeAt w d nO c0 nC n i N) (k : Jk w w') : NodeAt w' d nO c0 nC n i N := ⟨k.cell v.h0, k.cell v.h2, k.cell v.x0, k.cell v.x1, k.cell v.x2⟩
/-- Where the edges of a node lie. -/
theorem edges_of (tg : Nat → Nat) (w : World) (d : Nat) (C : Nat → Value) (N : List Nd) (i : Nat) (hd : Row w d 1035 C) (hN : NodesOk tg w C N) (hE : EdgesOk tg w C N) (hn : N.length ≤ 65536) (he : esum N ≤ 65536) (hi : i < N.length) (h0 : 0 < (edg N i).length) :
    ∃ b o, EdAt w b o (edg N i) ∧ tg b = 6 ∧ Calls Yba.prog 29 #[.pointer (some ⟨d, 0, none⟩), .int .u32 (i : Int)] w fun e w' => e = .returned (.slice (some ⟨b, o, none⟩) (edg N i).length (edg N i).length) ∧ ∃ N, w' = w.drewN N := by
  obtain ⟨nO, nC, c0, g, h, v⟩ := hN
  have hb := eoff_bound N hi
  rcases hE with ⟨h1, _⟩ | ⟨eO, eC, c1, g2, h2, u⟩
  · omega
  · have hA := v.at hd hn hi
    refine ⟨eC, eoff N i * 2, fun j hj => ?_, u.tc, ?_⟩
    · obtain ⟨a, b⟩ := u.val i hi j hj
      rw [show eoff N i * 2 + j * 2 = (eoff N i + j) * 2 by omega, (u.rc ((eoff N i + j) * 2) (by omega)).1, a, (u.rc ((eoff N i + j) * 2 + 1) (by omega)).1, b]
      exact ⟨rfl, rfl⟩
    · exact edges_some w d 0 nO nC N.length c0 i eO eC (esum N) c1 (eoff N i) (edg N i).length hA.h0 hA.h2 hi hn hA.x1 hA.x2 (by rw [(hd 2 (by omega)).1, u.c]) (by rw [(u.ro 0 u.one).1, u.g0]) hb he h0
def GetP (tg : Nat → Nat) (w w' : World) (d : Nat) (C : Nat → Value) (N : List Nd) (S : List Ed) (l : Nat) (E : List Ed) (r : Nat) : Prop :=
  ∃ tg' C' N', Got N l E N' r ∧ StC tg' w' d C' N' S ∧ C' 1031 = C 1031 ∧ Fr (fun r => r = 1 ∨ (4 ≤ r ∧ r ≤ 7) ∨ 10 ≤ r) tg w tg' w'
theorem got_found {N : List Nd} {l i : Nat} {E : List Ed} (h2 : 2 ≤ i) (hi : i < N.length) (e1 : lev N i = l) (e2 : edg N i = E) : Got N l E N i :=
  .inl ⟨rfl, h2, hi, by rw [← e1, ← e2]; rfl⟩
theorem get_new {tg tg1 tg2 : Nat → Nat} {w w1 w2 w3 : World} {d : Nat} {C C1 C2 : Nat → Value} {N : List Nd} {S : List Ed} {l j : Nat} {E : List Ed} (hjj : hashN l E % 256 = j) (h : StC tg w d C N S) (hw : Wk N) (hJ : Jk w w1)
    (a1 : Row w2 d 1035 C1) (a2 : ∀ i, i ≠ 1 → i ≠ 2 → C1 i = C i) (a3 : NodesOk tg1 w2 C1 (N ++ [(l, E)])) (a4 : EdgesOk tg1 w2 C1 (N ++ [(l, E)]) ∧ ∀ e, ChunkAt tg w1 C e → ChunkAt tg1 w2 C1 e) (a5 : Fr (fun r => r = 1 ∨ (4 ≤ r ∧ r ≤ 7)) tg w1 tg1 w2)
    (b1 : Row w3 d 1035 C2) (b2 : ∀ i, i ≠ 3 + j * 2 → i ≠ 3 + j * 2 + 1 → C2 i = C1 i) (b3 : ∃ sb L c s, PartV tg2 w3 C2 (N ++ [(l, E)]) (j) sb L c s) (b4 : Fr (fun r => r = 1 ∨ r = 10 + j) tg1 w2 tg2 w3)
    (hnot : ∀ i, 2 ≤ i → i < N.length → nd N i ≠ (l, E)) : GetP tg w w3 d C N S l E N.length := by
  have hj : j < 256 := by rw [← hjj]; exact Nat.mod_lt _ (by omega)
  have hc : ∀ i, i ≠ 1 → i ≠ 2 → i ≠ 3 + j * 2 → i ≠ 3 + j * 2 + 1 → C2 i = C i := fun i e1 e2 e3 e4 => (b2 i e3 e4).trans (a2 i e1 e2)
  have F1 : Fr (fun r => r = 1 ∨ (4 ≤ r ∧ r ≤ 7) ∨ 10 ≤ r) tg w tg1 w2 := (hJ.fr _ tg).trans (a5.mono fun r h => by omega)
  have F2 : Fr (fun r => r = 1 ∨ (4 ≤ r ∧ r ≤ 7) ∨ 10 ≤ r) tg w tg2 w3 := F1.trans (b4.mono fun r h => by omega)
  have F3 : Fr (fun r => r = 1 ∨ (4 ≤ r ∧ r ≤ 7)) tg w tg1 w2 := (hJ.fr _ tg).trans a5
  have hdl := h.row.lt (by omega)
  refine ⟨tg2, C2, _, .inr ⟨rfl, rfl, hnot⟩, ⟨b1, (F2.tag _ hdl).trans h.t, ?_, ?_, ?_, ?_, ?_, ?_, ?_, ?_, ?_⟩, hc _ (by omega) (by omega) (by omega) (by omega), F2⟩
  · exact a3.fr b4 (by omega) (by omega) (b2 0 (by omega) (by omega)) (b2 1 (by omega) (by omega))
  · exact a4.1.fr b4 (by omega) (by omega) (b2 2 (by omega) (by omega))
  · intro k hk
    by_cases e : k = j
    · subst e
      exact b3
    · obtain ⟨sb, L, c, s, p⟩ := h.parts k hk
      have p1 := p.fr F3 (C' := C1) (by omega) (a2 _ (by omega) (by omega)) (a2 _ (by omega) (by omega))
      have p2 := p1.fr b4 (C' := C2) (by omega) (b2 _ (by omega) (by omega)) (b2 _ (by omega) (by omega))
      exact ⟨sb, L, c, s, p2.other (l, E) (by show hashN l E % 256 ≠ k; rw [hjj]; exact Ne.symm e)⟩
  · obtain ⟨cb, f, c⟩ := h.cache
    exact ⟨cb, f, (c.fr F2 (by omega) (hc _ (by omega) (by omega) (by omega) (by omega))).ext hw (List.prefix_append _ _)⟩
  · exact h.stack.fr F2 (by omega) (hc _ (by omega) (by omega) (by omega) (by omega))
  · rw [hc _ (by omega) (by omega) (by omega) (by omega)]; exact h.stop
  · rw [hc _ (by omega) (by omega) (by omega) (by omega)]; exact h.work
  · rw [hc _ (by omega) (by omega) (by omega) (by omega)]; exact h.cat
  · refine ⟨Nat.lt_of_lt_of_le h.pin.1 F2.size, fun e he => ?_⟩
    have h1 := (h.pin.2 e (by rw [← F2.tag _ h.pin.1]; exact he)).fr (hJ.fr (fun _ => False) tg) (fun h => h) rfl
    exact (a4.2 e h1).fr b4 (by omega) (b2 2 (by omega) (by omega))
theorem next_books {N : List Nd} {L h T p id l : Nat} {E : List Ed} {s : Nat → Slot} (HF : ∀ t, t < T → (s (prb L h t)).2 ≠ 0 ∧ nd N (s (prb L h t)).2 ≠ (l, E)) (hp : prb L h T = p) (hq : (s p).2 = id) (hz : ¬ id = 0) (hno : nd N id ≠ (l, E)) :
    ∀ t, t < T + 1 → (s (prb L h t)).2 ≠ 0 ∧ nd N (s (prb L h t)).2 ≠ (l, E) := by
  intro t ht
  rcases Nat.lt_or_ge t T with h0 | h0
  · exact HF t h0
  · have : t = T := by omega
    subst this
    rw [hp, hq]
    exact ⟨hz, hno⟩

set_option maxRecDepth 100000 in
set_option maxHeartbeats 400000 in
theorem get_weak (tg : Nat → Nat) (w : World) (d : Nat) (C : Nat → Value) (N : List Nd) (S : List Ed) (l b o c : Nat) (E : List Ed) (hS : StC tg w d C N S) (hw : Wk N) (hne : E ≠ []) (hl4 : E.length ≤ 4) (hlv : l < 4294967296) (hvv : ∀ e ∈ E, e.1 < 4294967296 ∧ e.2 < N.length) (hE : EdAt w b o E) (hb : b ≠ d) (hs : esum N + E.length ≤ 65536) (hNl : N.length < 65536) :
    Calls Yba.prog 47 #[.pointer (some ⟨d, 0, none⟩), .int .u32 (l : Int), .slice (some ⟨b, o, none⟩) E.length c] w fun e w' => ∃ r, e = .returned (.int .u32 ((r : Nat) : Int)) ∧ GetP tg w w' d C N S l E r := by
  have hl0 : 0 < E.length := by
    rcases Nat.eq_zero_or_pos E.length with h | h
    · exact absurd (List.eq_nil_of_length_eq_zero h) hne
    · exact h
  have hH : Hid _ := hash_any w l b o c E hlv hE (by omega) (fun e he => by
    obtain ⟨h1, h2⟩ := hvv e he
    exact ⟨by omega, by omega⟩)
  obtain ⟨h, hh⟩ : ∃ h, h = hashN l E := ⟨_, rfl⟩
  have hhl : h < 4294967296 := by rw [hh]; exact hashN_lt l E
  obtain ⟨j, hj⟩ : ∃ j, j = h % 256 := ⟨_, rfl⟩
  have hj256 : j < 256 := by rw [hj]; exact Nat.mod_lt _ (by omega)
  obtain ⟨sb, L, cc, s, v⟩ := hS.parts j hj256
  have h4 := v.tab.four
  have hfl := v.full
  have hsm := v.small
  have hcl := v.cle
  have k0 : w.cell? ⟨d, 3 + j * 2, none⟩ = some (.slice (some ⟨sb, 0, none⟩) L L) := by rw [(hS.row (3 + j * 2) (by omega)).1, v.c0]
  have HM : Hid _ := v.tab.mask
  have HV : Hid _ := v
  have HS : Hid _ := hS
  have HE : Hid _ := hE
  have HWf : Hid _ := hw
  rw [← hh] at hH
  have HH : Hid _ := hh
  have HJJ : Hid _ := hj
  have h2N := hw.two
  have hel0 : esum N ≤ 65536 := by omega
  have hel : Hid _ := hel0
  have hes : Hid (esum N + E.length ≤ 65536) := hs
  clear v hS hE hw hne hvv hh hs hel0
  go_enter Yba.func47, Yba.ntmps47
  go_wp2_with fail
  refine Calls.mono hH.out ?_
  rintro e w1 ⟨rfl, hJ1⟩
  dsimp only
  have HJ1 : Hid _ := hJ1
  have k1 := hJ1.cell k0
  clear hJ1
  go_wp2_with fail
  refine (part_any w1 d 3 h hhl).mono ?_
  rintro e w2 ⟨rfl, rfl⟩
  dsimp only
  rw [← hj]
  clear hj
  go_wp2_with fail
  refine (start_any w1 d (3 + j * 2) L L _ h k1 (by omega) (by omega) hhl HM.out).mono ?_
  rintro e w2 ⟨rfl, rfl⟩
  dsimp only
  go_wp2_with fail
  go_loopg [9] L (fun g t wr => ∃ T, T ≤ L ∧ g = L - T ∧ t = .int .i64 ((prb L h T : Nat) : Int) ∧ (∀ t, t < T → (s (prb L h t)).2 ≠ 0 ∧ nd N (s (prb L h t)).2 ≠ (l, E)) ∧ Jk w wr)
  case atStart => exact ⟨0, by omega, rfl, rfl, fun t ht => by omega, HJ1.out⟩
  case round =>
    obtain ⟨T, hTL, hgk, rfl, hf, hJ⟩ := hrel
    have hTlt : T < L := HV.out.tab.in_time (by omega) h (fun t ht => (hf t ht).1)
    have hpl : prb L h T < L := prb_lt (by omega)
    have k2 := hJ.cell k0
    have x1 := hJ.cell (HV.out.row (prb L h T * 2) (by omega)).1
    have x2 := hJ.cell (HV.out.row (prb L h T * 2 + 1) (by omega)).1
    rw [slF_0] at x1
    rw [slF_1] at x2
    have HF : Hid _ := hf
    have HR : Hid _ := prb_succ L h T
    have HJ : Hid _ := hJ
    clear hf hJ HJ1 k1
    by_cases hz : (s (prb L h T)).2 = 0
    · rw [hz] at x2
      have HZ : Hid _ := hz
      clear hz
      generalize hp : prb L h T = p at *
      have HPP : Hid _ := hp
      clear hp
      go_wp2_with fail
      have hSr := HS.out.jk HJ.out
      refine (nodes_add tg wr d b o c C N l E hSr.row hSr.t hSr.nodes hSr.edges (HJ.out.edAt HE.out) hb hl0 (by omega) hes.out hNl).mono ?_
      rintro e w2 ⟨rfl, tg1, C1, a1, a2, a3, a4, a5⟩
      dsimp only
      have hdl : d < wr.heap.size := hSr.row.lt (by omega)
      have v1 : PartV tg1 w2 C1 N j sb L cc s := (HV.out.fr (HJ.out.fr (fun r => r = 1 ∨ (4 ≤ r ∧ r ≤ 7)) tg) (by omega) rfl rfl).fr a5 (by omega) (a2 _ (by omega) (by omega)) (a2 _ (by omega) (by omega))
      have hput := put_any tg1 w2 d C1 N j sb L cc T s (l, E) a1 ((a5.tag _ hdl).trans hSr.t) hj256 v1 h2N hNl (by show (s (prb L (hashN l E) T)).2 = 0; rw [← HH.out, HPP.out]; exact HZ.out) (by intro t ht; show (s (prb L (hashN l E) t)).2 ≠ 0; rw [← HH.out]; exact (HF.out t ht).1)
      dsimp only at hput
      rw [← HH.out, HPP.out] at hput
      have HPut : Hid _ := hput
      have HA : Hid (Row w2 d 1035 C1 ∧ (∀ i, i ≠ 1 → i ≠ 2 → C1 i = C i) ∧ NodesOk tg1 w2 C1 (N ++ [(l, E)]) ∧ (EdgesOk tg1 w2 C1 (N ++ [(l, E)]) ∧ ∀ e, ChunkAt tg wr C e → ChunkAt tg1 w2 C1 e) ∧ Fr (fun r => r = 1 ∨ (4 ≤ r ∧ r ≤ 7)) tg wr tg1 w2) := ⟨a1, a2, a3, a4, a5⟩
      clear hSr a1 a2 a3 a4 a5 v1 hput
      go_wp2_with fail
      refine Calls.mono HPut.out ?_
      rintro e w3 ⟨rfl, tg2, C2, b1, b2, b3, b4⟩
      dsimp only
      have HB : Hid (Row w3 d 1035 C2 ∧ (∀ i, i ≠ 3 + j * 2 → i ≠ 3 + j * 2 + 1 → C2 i = C1 i) ∧ (∃ sb L c s, PartV tg2 w3 C2 (N ++ [(l, E)]) j sb L c s) ∧ Fr (fun r => r = 1 ∨ r = 10 + j) tg1 w2 tg2 w3) := ⟨b1, b2, b3, b4⟩
      clear b1 b2 b3 b4
      go_wp2
      go_ret
      obtain ⟨a1, a2, a3, a4, a5⟩ := HA.out
      obtain ⟨b1, b2, b3, b4⟩ := HB.out
      refine ⟨N.length, rfl, get_new (by rw [← HH.out]; exact HJJ.out.symm) HS.out HWf.out HJ.out a1 a2 a3 a4 a5 b1 b2 b3 b4 (fun i h1 h2 e => ?_)⟩
      have hNi : hN N i = h := by
        unfold hN lev edg
        rw [e, HH.out]
      have hold := HV.out.complete i h1 h2 (by rw [hNi]; exact HJJ.out.symm)
      rw [hNi] at hold
      refine HV.out.tab.none (x := h) (T := T) (id := i) (by rw [HPP.out]; exact HZ.out) (by omega) (fun t ht e2 => ?_) hold
      have := (HF.out t ht).2
      rw [e2] at this
      exact this e
    · have hz1 : (((s (prb L h T)).2 : Int) == 0) = false := by simp; exact hz
      have hz2 : decide (((s (prb L h T)).2 : Int) = 0) = false := by simp; exact hz
      have HSo : Hid _ := HV.out.sound (prb L h T) hpl hz
      have HZ : Hid _ := hz
      clear hz
      generalize hp : prb L h T = p at *
      have HPP : Hid _ := hp
      generalize hi2 : (s p).2 = id at *
      generalize hi1 : (s p).1 = hs1 at *
      have HQ2 : Hid _ := hi2
      clear hi2 hp hi1
      have kA : ∀ O, (wr.alloc O).cell? ⟨d, 3 + j * 2, none⟩ = some (.slice (some ⟨sb, 0, none⟩) L L) := fun O => cellA k2 O
      have hso := HSo.out
      obtain ⟨i2, i3, i4'⟩ := hso
      have i4 : Hid _ := i4'
      clear i4'
      by_cases hq : hs1 = h
      · subst hq
        have hbb : ((hs1 : Int) == (hs1 : Int)) = true := by simp
        obtain ⟨nO, nC, c0, g5, h5, vN⟩ := HS.out.nodes
        have HNA : Hid _ := (vN.at HS.out.row (by omega) i3).jk (HJ.out.alloc (.cells #[.int .u32 (hs1 : Int), .int .u32 (id : Int)] 139))
        have HX0 : Hid _ := HNA.out.x0
        have y1 : (wr.alloc (.cells #[.int .u32 (hs1 : Int), .int .u32 (id : Int)] 139)).cell? ⟨wr.heap.size, 1, none⟩ = some (.int .u32 (id : Int)) := by
          unfold World.cell?
          rw [heap_alloc_new]
          rfl
        have hJa := HJ.out.alloc (.cells #[.int .u32 (hs1 : Int), .int .u32 (id : Int)] 139)
        have kB := kA (.cells #[.int .u32 (hs1 : Int), .int .u32 (id : Int)] 139)
        clear vN
        go_upto_if 46 with fail
        have HJa : Hid _ := hJa
        clear hJa
        generalize hwa : wr.alloc (.cells #[.int .u32 (hs1 : Int), .int .u32 (id : Int)] 139) = wa at *
        clear hwa kA x1 x2 k2 HJ
        go_wp2_with fail
        refine (nodes_at wa d 0 nO nC N.length c0 id HNA.out.h0 HNA.out.h2 i3 (by omega)).mono ?_
        rintro e w2 ⟨rfl, rfl⟩
        dsimp only
        have hx0 := HX0.out
        by_cases hlev : lev N id = l
        · have hll : ((lev N id : Int) == (l : Int)) = true := by simp [hlev]
          have hed : 0 < (edg N id).length := by
            rcases Nat.eq_zero_or_pos (edg N id).length with e | e
            · exact absurd (List.eq_nil_of_length_eq_zero e) (HWf.out.ok id i2 i3).1
            · exact e
          have hSa := HS.out.jk HJa.out
          obtain ⟨eb, eo, hEA, htE, hCE⟩ := edges_of tg wa d C N id hSa.row hSa.nodes hSa.edges (by omega) hel.out i3 hed
          have HCE : Hid _ := hCE
          have HEA : Hid _ := hEA
          have HLV : Hid _ := hlev
          have hel4 := (HWf.out.ok id i2 i3).2.1
          clear hSa hEA hCE hlev
          generalize hlvv : lev N id = lv at *
          have HLN : Hid _ := hlvv
          clear hlvv
          go_wp2_with fail
          refine Calls.mono HCE.out ?_
          rintro e w3 ⟨rfl, M, rfl⟩
          dsimp only
          have HJb : Hid _ := HJa.out.drewN M
          have y2 : (wa.drewN M).cell? ⟨wr.heap.size, 1, none⟩ = some (.int .u32 (id : Int)) := y1
          have kC : (wa.drewN M).cell? ⟨d, 3 + j * 2, none⟩ = some (.slice (some ⟨sb, 0, none⟩) L L) := kB
          have HEq : Hid _ := eq_any (wa.drewN M) eb eo (edg N id).length b o c (edg N id) E HEA.out (HJb.out.edAt HE.out) (by omega) (by omega)
          go_wp2_with fail
          refine Calls.mono HEq.out ?_
          rintro e w5 ⟨rfl, hJc⟩
          dsimp only
          have HJc : Hid _ := HJb.out.trans hJc
          have y3 := hJc.cell y2
          have kD := hJc.cell kC
          clear hJc y1 y2 kB kC
          by_cases hEq : edg N id = E
          · have hde : decide (edg N id = E) = true := by simpa using hEq
            have HE2 : Hid _ := hEq
            clear hEq
            generalize decide (edg N id = E) = bb at *
            subst hde
            go_wp2
            go_ret
            exact ⟨id, rfl, tg, C, N, got_found i2 i3 (by rw [HLN.out]; exact HLV.out) HE2.out, HS.out.jk HJc.out, rfl, HJc.out.fr _ tg⟩
          · have hde : decide (edg N id = E) = false := by simpa using hEq
            have hno : Hid (nd N id ≠ (l, E)) := fun e => hEq (by unfold edg; rw [e])
            clear hEq
            generalize decide (edg N id = E) = bb at *
            subst hde
            go_wp2_with fail
            refine (next_any w5 d (3 + j * 2) L L _ p kD hpl (by omega) HM.out).mono ?_
            rintro e w9 ⟨rfl, rfl⟩
            dsimp only
            go_wp2
            go_roundg (L - (T + 1))
            case measure => omega
            case rel => exact ⟨T + 1, by omega, rfl, by rw [HR.out], next_books HF.out HPP.out HQ2.out HZ.out hno.out, HJc.out⟩
        · have hll : ((lev N id : Int) == (l : Int)) = false := by simp; omega
          have hno : Hid (nd N id ≠ (l, E)) := fun e => hlev (by unfold lev; rw [e])
          generalize hlvv : lev N id = lv at *
          go_wp2_with fail
          refine (next_any wa d (3 + j * 2) L L _ p kB hpl (by omega) HM.out).mono ?_
          rintro e w9 ⟨rfl, rfl⟩
          dsimp only
          go_wp2
          go_roundg (L - (T + 1))
          case measure => omega
          case rel => exact ⟨T + 1, by omega, rfl, by rw [HR.out], next_books HF.out HPP.out HQ2.out HZ.out hno.out, HJa.out⟩
      · have hbb : ((hs1 : Int) == (h : Int)) = false := by simp; omega
        have hno : Hid (nd N id ≠ (l, E)) := fun e => hq (by
          rw [i4.out, HH.out]
          unfold hN lev edg
          rw [e])
        go_wp2_with fail
        refine (next_any _ d (3 + j * 2) L L _ p (kA _) hpl (by omega) HM.out).mono ?_
        rintro e w9 ⟨rfl, rfl⟩
        dsimp only
        go_wp2
        go_roundg (L - (T + 1))
        case measure => omega
        case rel => exact ⟨T + 1, by omega, rfl, by rw [HR.out], next_books HF.out HPP.out HQ2.out HZ.out hno.out, HJ.out.alloc _⟩
theorem get_any (tg : Nat → Nat) (w : World) (d : Nat) (C : Nat → Value) (N : List Nd) (S : List Ed) (l b o c : Nat) (E : List Ed) (hS : StC tg w d C N S) (hw : Wf N) (hn : NOk N N.length l E) (hE : EdAt w b o E) (hb : b ≠ d) (hs : esum N + E.length ≤ 65536) (hNl : N.length < 65536) :
    Calls Yba.prog 47 #[.pointer (some ⟨d, 0, none⟩), .int .u32 (l : Int), .slice (some ⟨b, o, none⟩) E.length c] w fun e w' => ∃ r, e = .returned (.int .u32 ((r : Nat) : Int)) ∧ GetP tg w w' d C N S l E r :=
  get_weak tg w d C N S l b o c E hS hw.wk hn.ne (hang_inc_len (N := N) (l := l) (fun e he => hn.ed e he) hn.inc) (by have := hn.lv; omega) (fun e he => by
    obtain ⟨h1, h2, h3, _⟩ := hn.ed e he
    exact ⟨by omega, h3⟩) hE hb hs hNl
end Go.Proofs.Ybulkakra
