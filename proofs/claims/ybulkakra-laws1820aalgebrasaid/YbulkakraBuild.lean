/-
  build of seat b1820a, given a contract of Union.
-/
import Derived.Test.YbulkakraStack
namespace Go.Proofs.Ybulkakra
open Go.RowKit
set_option linter.unusedSimpArgs false
set_option linter.unusedVariables false

/-- What Union leaves. -/
def UP (tg : Nat → Nat) (w w' : World) (d : Nat) (N : List Nd) (S : List Ed) (c a b r : Nat) : Prop :=
  ∃ tg' N', St tg' w' d N' S ∧ Wf N' ∧ N <+: N' ∧ Tru N' 1 a b r ∧ N'.length ≤ N.length + c ∧ esum N' ≤ esum N + 4 * c ∧ Fr (fun r => 1 ≤ r) tg w tg' w'
/-- The contract of Union. -/
def UC (k f : Nat) : Prop := ∀ (tg : Nat → Nat) (w : World) (d : Nat) (N : List Nd) (S : List Ed) (a b : Nat), St tg w d N S → Wf N → a < N.length → b < N.length → 3 ≤ f + min (lev N a) (lev N b) → Kd N k f a b → N.length + cost k f ≤ 65000 → esum N + 4 * cost k f ≤ 65536 → S.length + 8 * f ≤ 1000 →
  Calls Yba.prog 6 #[.pointer (some ⟨d, 0, none⟩), .int .u32 (a : Int), .int .u32 (b : Int)] w fun e w' => ∃ r, e = .returned (.int .u32 ((r : Nat) : Int)) ∧ UP tg w w' d N S (cost k f) a b r
/-- What build leaves. -/
def BP (tg : Nat → Nat) (w w' : World) (d : Nat) (N : List Nd) (S0 : List Ed) (l c : Nat) (E : List Ed) (r : Nat) : Prop :=
  ∃ tg' N', St tg' w' d N' S0 ∧ Built N l c E N' r ∧ Fr (fun r => 1 ≤ r) tg w tg' w'
/-- The merge in memory. -/
structure Mg (tg : Nat → Nat) (w wr : World) (d : Nat) (N : List Nd) (S0 : List Ed) (l k c : Nat) (E' : List Ed) (P Q K G : List Ed) (J : Nat) (tg' : Nat → Nat) (N' : List Nd) : Prop where
  split : E' = P ++ Q
  g : G.length = J
  st : St tg' wr d N' (S0 ++ (K ++ (G ++ Q)))
  m : MInv N l k c P K J N'
  fr : Fr (fun r => 1 ≤ r) tg w tg' wr
theorem Mg.done {N0 N : List Nd} {l k c J : Nat} {E K : List Ed} (h : MInv N0 l k c E K J N) (hb : Bd E k) : J ≤ k := by
  obtain ⟨D, h1, h2, h3⟩ := hb
  have := pigeon D (K.map (·.1)) h1 (fun x hx => by
    obtain ⟨e, he, rfl⟩ := h3 x hx
    obtain ⟨y, hy, e1⟩ := h.sub e he
    exact List.mem_map.2 ⟨y, hy, e1⟩)
  have := h.len
  simp at *
  omega
theorem vE_at (A : List Ed) (e : Ed) (B : List Ed) : vE (A ++ e :: B) A.length = e.1 ∧ tE (A ++ e :: B) A.length = e.2 := by
  unfold vE tE
  simp
theorem srt_le {P Q : List Ed} {e : Ed} (h : Srt (P ++ e :: Q) (P ++ e :: Q).length) : ∀ y ∈ P, y.1 ≤ e.1 := by
  intro y hy
  obtain ⟨i, hi, rfl⟩ := List.getElem_of_mem hy
  have := h i P.length hi (by simp)
  rw [(vE_at P e Q).1] at this
  unfold vE at this
  rw [List.getD_eq_getElem?_getD, List.getElem?_append_left hi, List.getElem?_eq_getElem hi] at this
  exact this
/-- An edge of a new value is kept. -/
theorem Mg.keep_lt {N0 N : List Nd} {l k c J : Nat} {P Q K : List Ed} {e : Ed} (h : MInv N0 l k c P K J N) (hs : Srt (P ++ e :: Q) (P ++ e :: Q).length) (hn : ∀ K0 x t, K = K0 ++ [(x, t)] → x ≠ e.1) : ∀ y ∈ K, y.1 < e.1 := by
  intro y hy
  have hle : ∀ z ∈ K, z.1 ≤ e.1 := fun z hz => by
    obtain ⟨p, hp, e1⟩ := h.top z hz
    rw [← e1]
    exact srt_le hs p hp
  rcases List.eq_nil_or_concat K with rfl | ⟨K0, ⟨x, t⟩, rfl⟩
  · simp at hy
  · rw [List.concat_eq_append] at *
    have hx := hn K0 x t rfl
    have hx2 := hle (x, t) (by simp)
    rcases List.mem_append.1 hy with hy | hy
    · have := (List.pairwise_append.1 h.inc).2.2 y hy (x, t) (by simp)
      simp at this hx2
      omega
    · simp at hy
      subst hy
      simp at hx2 ⊢
      omega
theorem set_keep (S0 K G Q : List Ed) (e : Ed) : ∃ G', G'.length = G.length ∧ (S0 ++ (K ++ (G ++ e :: Q))).set (S0.length + K.length) e = S0 ++ ((K ++ [e]) ++ (G' ++ Q)) := by
  cases G with
  | nil =>
    refine ⟨[], rfl, ?_⟩
    rw [List.set_append_right _ _ (by omega), Nat.add_sub_cancel_left, List.set_append_right _ _ (by omega), Nat.sub_self]
    simp
  | cons g G =>
    refine ⟨G ++ [e], by simp, ?_⟩
    rw [List.set_append_right _ _ (by omega), Nat.add_sub_cancel_left, List.set_append_right _ _ (by omega), Nat.sub_self]
    simp
theorem set_join (S0 K G Q : List Ed) (e : Ed) (x t r : Nat) : (S0 ++ ((K ++ [(x, t)]) ++ (G ++ e :: Q))).set (S0.length + K.length) (x, r) = S0 ++ ((K ++ [(x, r)]) ++ ((G ++ [e]) ++ Q)) := by
  rw [List.append_assoc, List.set_append_right _ _ (by omega), Nat.add_sub_cancel_left, List.set_append_right _ _ (by omega), Nat.sub_self]
  simp

theorem Stk.jk {tg : Nat → Nat} {w w' : World} {C : Nat → Value} {S : List Ed} {sb cap : Nat} {f : Nat → Value} (h : Stk tg w C S sb cap f) (k : Jk w w') : Stk tg w' C S sb cap f := h.fr (k.fr (fun _ => False) tg) (fun h => h) rfl
theorem mg_keep {tg tg' : Nat → Nat} {w wr w2 : World} {d : Nat} {C' : Nat → Value} {N N' : List Nd} {S0 F' P Q' K G : List Ed} {e : Ed} {l k c f J kp sb' cap' : Nat} {fs' : Nat → Value} (hMg : Mg tg w wr d N S0 l k c F' P (e :: Q') K G J tg' N') (hC' : StC tg' wr d C' N' (S0 ++ (K ++ (G ++ e :: Q')))) (hk' : Stk tg' wr C' (S0 ++ (K ++ (G ++ e :: Q'))) sb' cap' fs') (hJ : Jk wr w2) (hw : Wf N) (hp : BPre N l k f F') (hs : Srt F' F'.length) (hkp : kp = S0.length + K.length) (hn : ∀ K0 x t, K = K0 ++ [(x, t)] → x ≠ e.1) :
    ∃ G', Mg tg w ((w2.setCell ⟨sb', kp * 2, none⟩ (.int .u32 (e.1 : Int))).setCell ⟨sb', kp * 2 + 1, none⟩ (.int .u32 (e.2 : Int))) d N S0 l k c F' (P ++ [e]) Q' (K ++ [e]) G' J tg' N' := by
  obtain ⟨G', hG1, hG2⟩ := set_keep S0 K G Q' e
  have hC2 := hC'.jk hJ
  have hk2 := hk'.jk hJ
  have hkl : kp < (S0 ++ (K ++ (G ++ e :: Q'))).length := by simp; omega
  have hrow := ((hk2.row.set (kp * 2) (.int .u32 (e.1 : Int))).set (kp * 2 + 1) (.int .u32 (e.2 : Int))).congr fun i _ => laid_set hkl e.1 e.2 i
  have hch : Chg (fun x => x = sb') w2 ((w2.setCell ⟨sb', kp * 2, none⟩ (.int .u32 (e.1 : Int))).setCell ⟨sb', kp * 2 + 1, none⟩ (.int .u32 (e.2 : Int))) := ((Chg.refl (fun x => x = sb') w2).set (a := ⟨sb', kp * 2, none⟩) (.inr rfl) _).set (a := ⟨sb', kp * 2 + 1, none⟩) (.inr rfl) _
  have hst := hC2.restack hk2 hch hrow (by simp)
  rw [hkp] at hst
  have e2 : ((e.1, e.2) : Ed) = e := rfl
  rw [e2, hG2] at hst
  refine ⟨G', by rw [hMg.split]; simp, by rw [hG1]; exact hMg.g, ⟨C', hkp ▸ hst⟩, hMg.m.keep ?_ hw ?_, ?_⟩
  · refine Mg.keep_lt hMg.m (Q := Q') ?_ hn
    rw [← hMg.split]; exact hs
  · intro x hx
    simp at hx
    subst hx
    exact hp.hang x (by rw [hMg.split]; simp)
  · have h1 : Fr (fun r => 1 ≤ r) tg w tg' w2 := hMg.fr.trans (hJ.fr _ tg')
    refine h1.trans (hch.fr fun x _ e => ?_)
    rw [e, hk'.t]
    omega
theorem Mg.jk {tg tg' : Nat → Nat} {w wr w2 : World} {d : Nat} {N N' : List Nd} {S0 F' P Q K G : List Ed} {l k c J : Nat} (h : Mg tg w wr d N S0 l k c F' P Q K G J tg' N') (hJ : Jk wr w2) : Mg tg w w2 d N S0 l k c F' P Q K G J tg' N' := by
  obtain ⟨C, hC⟩ := h.st
  exact ⟨h.split, h.g, ⟨C, hC.jk hJ⟩, h.m, h.fr.trans (hJ.fr _ tg')⟩
theorem mg_join {tg tg' : Nat → Nat} {w wr w2 : World} {d : Nat} {C' : Nat → Value} {N N' : List Nd} {S0 F' P Q' K G : List Ed} {l k f J q x t u : Nat} (IH : UC k f) (hMg : Mg tg w wr d N S0 l k (cost k f) F' P ((x, u) :: Q') (K ++ [(x, t)]) G J tg' N') (hC' : StC tg' wr d C' N' (S0 ++ ((K ++ [(x, t)]) ++ (G ++ (x, u) :: Q')))) (hJ : Jk wr w2) (hw : Wf N) (hp : BPre N l k f F') (hq : q = S0.length + K.length) (hc1 : N.length + (1 + k * cost k f) ≤ 65000) (hc2 : esum N + 4 * (1 + k * cost k f) ≤ 65536) (hSl : (S0 ++ ((K ++ [(x, t)]) ++ (G ++ (x, u) :: Q'))).length + 8 * f ≤ 1000) :
    Calls Yba.prog 6 #[.pointer (some ⟨d, 0, none⟩), .int .u32 (t : Int), .int .u32 (u : Int)] w2 fun e w3 => ∃ r, e = .returned (.int .u32 ((r : Nat) : Int)) ∧ ∃ sb2 cap2 v, w3.cell? ⟨d, 1031, none⟩ = some (.slice (some ⟨sb2, 0, none⟩) (S0 ++ ((K ++ [(x, t)]) ++ (G ++ (x, u) :: Q'))).length cap2) ∧ w3.cell? ⟨sb2, q * 2 + 1, none⟩ = some v ∧ w3.frozen? ⟨sb2, q * 2 + 1, none⟩ = false ∧ ∃ tg2 N2, Mg tg w (w3.setCell ⟨sb2, q * 2 + 1, none⟩ (.int .u32 (r : Int))) d N S0 l k (cost k f) F' (P ++ [(x, u)]) Q' (K ++ [(x, r)]) (G ++ [(x, u)]) (J + 1) tg2 N2 := by
  have hsp : P ++ (x, u) :: Q' = F' := hMg.split.symm
  obtain ⟨m1, m2⟩ := hMg.m.may hw (by rw [hsp]; exact hp)
  obtain ⟨t1, t2, t3, t4⟩ := hMg.m.hang (x, t) (by simp)
  obtain ⟨u1, u2, u3, u4⟩ := hp.hang (x, u) (by rw [hMg.split]; simp)
  simp only at t1 t2 t3 t4 u1 u2 u3 u4
  have u3' := Nat.lt_of_lt_of_le u3 hMg.m.ext.length_le
  have u4' := lev_ext hMg.m.ext u3
  have hf3 := hp.f3
  have hJc : J * cost k f + cost k f ≤ k * cost k f := by
    have := Nat.mul_le_mul_right (cost k f) m1
    rw [Nat.add_mul, Nat.one_mul] at this
    exact this
  have n1 := hMg.m.nlen
  have n2 := hMg.m.es
  refine (IH tg' w2 d N' _ t u ⟨C', hC'.jk hJ⟩ hMg.m.wf t3 u3' (by omega) m2 (by omega) (by omega) hSl).mono ?_
  rintro e w3 ⟨r, rfl, tg2, N2, ⟨C2, hC2⟩, z1, z2, z3, z4, z5, z6⟩
  have hlq : q < (S0 ++ ((K ++ [(x, t)]) ++ (G ++ (x, u) :: Q'))).length := by simp; omega
  obtain ⟨sb2, cap2, fs2, hk2⟩ := hC2.stack.stk (by omega)
  obtain ⟨c1, c2, c3, c4⟩ := hk2.cell hlq
  refine ⟨r, rfl, sb2, cap2, _, by rw [(hC2.row 1031 (by omega)).1, hk2.c], c2, c4, tg2, N2, ?_⟩
  have hrow := (hk2.row.set (q * 2 + 1) (.int .u32 (r : Int))).congr fun i _ => laid_set1 hlq r i
  have hch : Chg (fun x => x = sb2) w3 (w3.setCell ⟨sb2, q * 2 + 1, none⟩ (.int .u32 (r : Int))) := (Chg.refl (fun x => x = sb2) w3).set (a := ⟨sb2, q * 2 + 1, none⟩) (.inr rfl) _
  have hst := hC2.restack hk2 hch hrow (by simp)
  have hvq : vE (S0 ++ ((K ++ [(x, t)]) ++ (G ++ (x, u) :: Q'))) q = x := by
    have : S0 ++ ((K ++ [(x, t)]) ++ (G ++ (x, u) :: Q')) = (S0 ++ K) ++ (x, t) :: (G ++ (x, u) :: Q') := by simp
    rw [this, show q = (S0 ++ K).length by simp [hq], (vE_at _ _ _).1]
  rw [hvq] at hst
  rw [hq, set_join] at hst
  refine ⟨by rw [hMg.split]; simp, by simp [hMg.g], ⟨C2, by rw [hq]; exact hst⟩, hMg.m.join hw (fun y hy => by simp at hy; subst hy; exact hp.hang _ (by rw [hMg.split]; simp)) z3 z1 z2 z4 z5, ?_⟩
  have h1 : Fr (fun r => 1 ≤ r) tg w tg2 w3 := (hMg.fr.trans (hJ.fr _ tg')).trans z6
  refine h1.trans (hch.fr fun x _ e => ?_)
  rw [e, hk2.t]
  omega
theorem Built.perm {N N' : List Nd} {l c r : Nat} {E F : List Ed} (h : Built N l c F N' r) (p : F.Perm E) : Built N l c E N' r := by
  refine ⟨h.wf, h.ext, h.r_lt, h.lv, fun hE => h.pos (fun e => hE (by subst e; exact p.nil_eq.symm)), fun x v hv => (h.sem x v hv).trans ?_, h.len, h.es⟩
  unfold hasE
  constructor
  · rintro ⟨t, a, b⟩
    exact ⟨t, p.mem_iff.1 a, b⟩
  · rintro ⟨t, a, b⟩
    exact ⟨t, p.mem_iff.2 a, b⟩

set_option maxRecDepth 100000 in
set_option maxHeartbeats 1000000 in
theorem build_any (k f : Nat) (IH : UC k f) (tg : Nat → Nat) (w : World) (d : Nat) (N : List Nd) (S0 E : List Ed) (l : Nat) (hS : St tg w d N (S0 ++ E)) (hw : Wf N) (hp : BPre N l k f E) (h0 : E ≠ []) (h8 : E.length ≤ 8) (hc1 : N.length + (1 + k * cost k f) ≤ 65000) (hc2 : esum N + 4 * (1 + k * cost k f) ≤ 65536) (hSl : S0.length + 8 + 8 * f ≤ 1000) :
    Calls Yba.prog 20 #[.pointer (some ⟨d, 0, none⟩), .int .u32 (l : Int), .int .i64 (S0.length : Int)] w fun e w' => ∃ r, e = .returned (.int .u32 ((r : Nat) : Int)) ∧ BP tg w w' d N S0 l (1 + k * cost k f) E r := by
  obtain ⟨C, hC⟩ := hS
  have hE0 : 0 < E.length := List.length_pos_iff.2 h0
  obtain ⟨sb, cap, fs, hk⟩ := hC.stack.stk (by simp; omega)
  have hle := hk.le
  simp at hle
  have hmx := hk.max
  have hmx2 : cap ≤ 9223372036854775807 := hmx
  have k0 : w.cell? ⟨d, 1031, none⟩ = some (.slice (some ⟨sb, 0, none⟩) (S0 ++ E).length cap) := by rw [(hC.row 1031 (by omega)).1, hk.c]
  have hsrt := sort_any w sb (cap * 2) (S0.length * 2) (cap - S0.length) (laid fs 0 (S0 ++ E)) E (hk.row.congr fun i _ => laid_tail i) (by omega) (by omega) (by omega)
  obtain ⟨m, hm⟩ : ∃ m, m = S0.length := ⟨_, rfl⟩
  obtain ⟨t, ht⟩ : ∃ t, t = (S0 ++ E).length := ⟨_, rfl⟩
  have htl : t = m + E.length := by rw [ht, hm]; simp
  have hmc : m < cap := by omega
  have hmt : m ≤ t := by omega
  have htc : t ≤ cap := by omega
  have hmn : cap ≠ m := by omega
  have htm : t - m = E.length := by omega
  rw [← ht] at k0
  rw [← hm] at hsrt ⊢
  rw [← htm] at hsrt
  have HSrt : Hid _ := hsrt
  have HDl : Hid (d < w.heap.size) := hC.row.lt (by omega)
  have HC : Hid _ := hC
  have HK : Hid _ := hk
  have HW : Hid _ := hw
  have HP : Hid _ := hp
  have HIH : Hid _ := IH
  have HC1 : Hid _ := hc1
  have HC2 : Hid _ := hc2
  have HM : Hid _ := hm
  have HTL : Hid _ := htl
  have HSL : Hid _ := hSl
  have H8 : Hid (E.length ≤ 8 ∧ 0 < E.length) := ⟨h8, hE0⟩
  clear hsrt hC hk hw hp IH hc1 hc2 hmx hm ht htl htm hle hE0 h8 hSl
  go_enter Yba.func20, Yba.ntmps20
  go_wp2_with fail
  refine Calls.mono HSrt.out ?_
  rintro e w1 ⟨rfl, F', hperm, hsrt, hrow, hchg⟩
  dsimp only
  have hlF : F'.length = E.length := hperm.length_eq
  have hC1 : StC tg w1 d C N (S0 ++ F') := HC.out.restack HK.out hchg (f' := fs) (hrow.congr fun i _ => by rw [HM.out]; exact laid_app hlF i) (by simp [hlF])
  have hF1 : Fr (fun r => 1 ≤ r) tg w tg w1 := hchg.fr fun x _ e => by rw [e, HK.out.t]; omega
  have HX : Hid (StC tg w1 d C N (S0 ++ F') ∧ Fr (fun r => 1 ≤ r) tg w tg w1 ∧ F'.Perm E ∧ Srt F' F'.length ∧ BPre N l k f F' ∧ F'.length = E.length) := ⟨hC1, hF1, hperm, hsrt, HP.out.perm hperm.symm, hlF⟩
  clear hC1 hF1 hperm hsrt hrow hchg hlF HSrt HC HK k0
  go_wp2_with fail
  go_loopg [7, 8] F'.length (fun g a b wr => ∃ (P Q K G : List Ed) (J : Nat) (tg' : Nat → Nat) (N' : List Nd) (i kp : Nat), Mg tg w wr d N S0 l k (cost k f) F' P Q K G J tg' N' ∧ i = m + P.length ∧ kp = m + K.length ∧ g = Q.length ∧ a = .int .i64 (kp : Int) ∧ b = .int .i64 (i : Int))
  case atStart =>
    obtain ⟨x1, x2, x3, x4, x5, x6⟩ := HX.out
    exact ⟨[], F', [], [], 0, tg, N, m, m, ⟨rfl, rfl, ⟨C, x1⟩, MInv.start HW.out _ _ _, x2⟩, rfl, rfl, rfl, rfl, rfl⟩
  case round =>
    obtain ⟨P, Q, K, G, J, tg', N', i, kp, hMg, hi, hkp, hgk, rfl, rfl⟩ := hrel
    obtain ⟨C', hC'⟩ := hMg.st
    obtain ⟨y1, y2, y3, y4, y5, y6⟩ := HX.out
    have hlen : P.length + Q.length = F'.length := by rw [hMg.split]; simp
    have hKJ := hMg.m.len
    have hGJ := hMg.g
    have h8 := H8.out
    have hms := HM.out
    have hSlen : (S0 ++ (K ++ (G ++ Q))).length = m + F'.length := by simp; omega
    obtain ⟨sb', cap', fs', hk'⟩ := hC'.stack.stk (by rw [hSlen]; omega)
    have hle' := hk'.le
    rw [hSlen] at hle'
    obtain ⟨T, hT⟩ : ∃ T, T = m + F'.length := ⟨_, rfl⟩
    have k1 : wr.cell? ⟨d, 1031, none⟩ = some (.slice (some ⟨sb', 0, none⟩) T cap') := by rw [(hC'.row 1031 (by omega)).1, hk'.c, hSlen, hT]
    have hsl := HSL.out
    have hTs : T ≤ 1000 := by omega
    rcases Q with _ | ⟨e, Q'⟩
    · have hd : ¬ i < T := by simp at hlen; omega
      have hmc' : m < cap' := by omega
      have hmn' : cap' ≠ m := by omega
      have hTc : T ≤ cap' := by omega
      have hmkp : m ≤ kp := by omega
      have hkpc : kp ≤ cap' := by omega
      have hPF : F' = P := by rw [hMg.split]; simp
      have hJk : J ≤ k := Mg.done hMg.m (by rw [← hPF]; exact y5.bd)
      have hJc : J * cost k f ≤ k * cost k f := Nat.mul_le_mul_right _ hJk
      have hc1' := HC1.out
      have hc2' := HC2.out
      have hn1 := hMg.m.nlen
      have hn2 := hMg.m.es
      have hPl : P.length = E.length := by rw [← hPF]; exact y6
      have hK0 : K ≠ [] := by
        intro e
        obtain ⟨x, hx⟩ := List.exists_mem_of_length_pos (show 0 < P.length by omega)
        obtain ⟨y, hy, _⟩ := hMg.m.sub x hx
        rw [e] at hy
        simp at hy
      have hsd : sb' ≠ d := by
        intro e
        have h1 := hk'.t
        rw [e, hC'.t] at h1
        omega
      have hmk := make_any tg' wr d C' N' _ l sb' (S0.length * 2) (cap' - m) K hC' hMg.m.wf HP.out.l2 hMg.m.inc hMg.m.hang hK0 hk'.edAt hsd (by omega) (by omega)
      rw [show K.length = kp - m by omega, ← hms] at hmk
      have HMk : Hid _ := hmk
      have hfin : Hid (∀ w2 tg2 C2 N2 r, Made N' l K N2 r → StC tg2 w2 d C2 N2 (S0 ++ (K ++ (G ++ []))) → C2 1031 = C' 1031 → Fr (fun r => r = 1 ∨ (4 ≤ r ∧ r ≤ 7) ∨ 10 ≤ r) tg' wr tg2 w2 → w2.cell? ⟨d, 1031, none⟩ = some (.slice (some ⟨sb', 0, none⟩) T cap') ∧ w2.frozen? ⟨d, 1031, none⟩ = false ∧ BP tg w (w2.setCell ⟨d, 1031, none⟩ (.slice (some ⟨sb', 0, none⟩) m cap')) d N S0 l (1 + k * cost k f) E r) := by
        intro w2 tg2 C2 N2 r g1 g2 g3 g4
        have hB := hMg.m.built HP.out.l2 hJk g1 (1 + k * cost k f) (Nat.le_refl _)
        rw [← hPF] at hB
        have hk2 := hk'.fr g4 (by omega) g3
        have hsh := g2.shrink hk2 m (by rw [hSlen]; omega)
        have hts : List.take m (S0 ++ (K ++ (G ++ []))) = S0 := by
          rw [hms, List.take_append_of_le_length (Nat.le_refl _), List.take_length]
        rw [hts] at hsh
        refine ⟨by rw [(g2.row 1031 (by omega)).1, hk2.c, hSlen, hT], (g2.row 1031 (by omega)).2, tg2, N2, ⟨_, hsh⟩, hB.perm y3, ?_⟩
        exact (hMg.fr.trans (g4.mono fun r h => by omega)).set (a := ⟨d, 1031, none⟩) (.inr (by
          have hdw : d < w.heap.size := HDl.out
          have := (hMg.fr.tag d hdw)
          rw [hC'.t] at this
          show 1 ≤ tg d
          omega)) _
      have HFin : Hid _ := hfin.out
      clear hPF hJk hJc hc1' hc2' hn1 hn2 hPl hK0 hsd hmk hfin
      have HG : Hid _ := hMg
      have HCC : Hid _ := hC'
      have HKK : Hid _ := hk'
      have HI : Hid (i = m + P.length ∧ kp = m + K.length ∧ P.length + ([] : List Ed).length = F'.length ∧ T = m + F'.length) := ⟨hi, hkp, hlen, hT⟩
      clear hMg hC' hk' y1 y2 y3 y4 y5 y6 hlen hKJ hGJ h8 hms hSlen hle' hT hi hkp hsl
      have hmT : m ≤ T := by have := HI.out; omega
      go_wp2_with fail
      refine Calls.mono HMk.out ?_
      rintro e w2 ⟨r, rfl, tg2, C2, N2, g1, g2, g3, g4⟩
      dsimp only
      obtain ⟨z1, z2, z3⟩ := HFin.out w2 tg2 C2 N2 r g1 g2 g3 g4
      have Z3 : Hid _ := z3
      clear g1 g2 g3 g4 z3
      go_wp2
      go_ret
      exact ⟨r, rfl, Z3.out⟩
    · have hiT : i < T := by simp at hlen; omega
      have hw1 : IntKind.i64.wrap ((i : Int) + 1) = ((i + 1 : Nat) : Int) := by rw [IntKind.wrap_i64]; omega
      have hSi : i = (S0 ++ (K ++ G)).length := by simp; omega
      have hSS : S0 ++ (K ++ (G ++ e :: Q')) = (S0 ++ (K ++ G)) ++ e :: Q' := by simp
      obtain ⟨a1, a2, a3, a4⟩ := hk'.cell (i := i) (by rw [hSlen]; omega)
      rw [hSS, hSi, (vE_at _ e Q').1, ← hSi] at a1
      rw [hSS, hSi, (vE_at _ e Q').2, ← hSi] at a2
      clear a3 a4
      have HKp : Hid (∀ w2, Jk wr w2 → (∀ K0 x t, K = K0 ++ [(x, t)] → x ≠ e.1) → ∃ G', Mg tg w ((w2.setCell ⟨sb', kp * 2, none⟩ (.int .u32 (e.1 : Int))).setCell ⟨sb', kp * 2 + 1, none⟩ (.int .u32 (e.2 : Int))) d N S0 l k (cost k f) F' (P ++ [e]) Q' (K ++ [e]) G' J tg' N') := fun w2 hJ hn => mg_keep hMg hC' hk' hJ HW.out y5 y4 (by omega) hn
      have hkpT : kp < T := by omega
      obtain ⟨v1, v2, v3, v4⟩ := hk'.cell (i := kp) (by rw [hSlen]; omega)
      have hsbd : sb' ≠ d := by
        intro e
        have h1 := hk'.t
        rw [e, hC'.t] at h1
        omega
      have hJa := (Jk.refl wr).alloc (.cells #[.int .u32 (e.1 : Int), .int .u32 (e.2 : Int)] 80)
      have b0 := (Row.new wr #[.int .u32 (e.1 : Int), .int .u32 (e.2 : Int)] 80 2 (fun i => (#[Value.int .u32 (e.1 : Int), .int .u32 (e.2 : Int)][i]?).getD (.bool true)) (fun i hi => by rcases i with _ | _ | i <;> first | rfl | omega) 0 (by omega)).1
      have b1 := (Row.new wr #[.int .u32 (e.1 : Int), .int .u32 (e.2 : Int)] 80 2 (fun i => (#[Value.int .u32 (e.1 : Int), .int .u32 (e.2 : Int)][i]?).getD (.bool true)) (fun i hi => by rcases i with _ | _ | i <;> first | rfl | omega) 1 (by omega)).1
      dsimp only at b0 b1
      have kA := hJa.cell k1
      have vA1 := hJa.cell v1
      have vA2 := hJa.cell v2
      have gA := hJa.row hk'.row
      have vA3 := (gA (kp * 2) (by omega)).2
      have vA4 := (gA (kp * 2 + 1) (by omega)).2
      have hwk : IntKind.i64.wrap ((kp : Int) + 1) = ((kp + 1 : Nat) : Int) := by rw [IntKind.wrap_i64]; omega
      have HJA : Hid _ := hJa
      clear hJa v1 v2 v3 v4 gA
      rcases List.eq_nil_or_concat K with hK | ⟨K0, ⟨x, t0⟩, hK⟩
      · have hno : Hid (∀ K0 x t, K = K0 ++ [(x, t)] → x ≠ e.1) := by
          intro K0 x t h
          rw [hK] at h
          simp at h
        have hkm : ¬ m < kp := by rw [hkp, hK]; simp
        have HI : Hid (i = m + P.length ∧ kp = m + K.length ∧ P.length + (e :: Q').length = F'.length ∧ T = m + F'.length ∧ gk = (e :: Q').length) := ⟨hi, hkp, hlen, hT, hgk⟩
        clear hMg hC' hk' y1 y2 y3 y4 y5 y6 hlen hKJ hGJ h8 hms hSlen hle' hT hi hkp hsl hSi hSS hK hgk
        go_upto_region 7 with fail
        generalize hwa : wr.alloc (.cells #[.int .u32 (e.1 : Int), .int .u32 (e.2 : Int)] 80) = wa at *
        clear hwa a1 a2 k1
        go_quiet (fail)
        go_upto_region 10 with fail
        go_region
        all_goals go_wp2
        all_goals (go_roundg Q'.length)
        case measure => have := HI.out; simp at this; omega
        case rel =>
          obtain ⟨G', hG'⟩ := HKp.out _ (HJA.out.drewN _) hno.out
          have := HI.out
          exact ⟨P ++ [e], Q', K ++ [e], G', J, tg', N', i + 1, kp + 1, hG', by simp; omega, by simp; omega, rfl, rfl, rfl⟩
      · rw [List.concat_eq_append] at hK
        obtain ⟨q, hq⟩ : ∃ q, q = m + K0.length := ⟨_, rfl⟩
        have hkq : kp = q + 1 := by rw [hkp, hK, hq]; simp; omega
        have hkm : m < kp := by omega
        have hqw : IntKind.i64.wrap ((kp : Int) - 1) = (q : Int) := by rw [IntKind.wrap_i64]; omega
        have hqw2 : (kp : Int) - 1 = (q : Int) := by omega
        have hqw3 : IntKind.i64.wrap (q : Int) = (q : Int) := by rw [IntKind.wrap_i64]; omega
        have hqT : q < T := by omega
        obtain ⟨v1, v2, v3, v4⟩ := hk'.cell (i := q) (by rw [hSlen]; omega)
        have hSq : S0 ++ (K ++ (G ++ e :: Q')) = (S0 ++ K0) ++ (x, t0) :: (G ++ e :: Q') := by rw [hK]; simp
        have hql : q = (S0 ++ K0).length := by simp; omega
        rw [hSq, hql, (vE_at _ _ _).1, ← hql] at v1
        rw [hSq, hql, (vE_at _ _ _).2, ← hql] at v2
        have xA1 := HJA.out.cell v1
        have xA2 := HJA.out.cell v2
        dsimp only at xA1 xA2
        clear v1 v2 v3 v4 hSq hql
        have HI : Hid (i = m + P.length ∧ kp = m + K.length ∧ P.length + (e :: Q').length = F'.length ∧ T = m + F'.length ∧ gk = (e :: Q').length ∧ q = m + K0.length ∧ K = K0 ++ [(x, t0)]) := ⟨hi, hkp, hlen, hT, hgk, hq, hK⟩
        by_cases hx : x = e.1
        · obtain ⟨ev, u⟩ := e
          obtain rfl : x = ev := hx
          dsimp only at *
          have hJn : ∀ w2, Jk wr w2 → _ := fun w2 hJ => mg_join (q := q) (K := K0) (t := t0) (x := x) (u := u) (w2 := w2) HIH.out (by rw [← hK]; exact hMg) (by rw [← hK]; exact hC') hJ HW.out y5 (by omega) HC1.out HC2.out (by rw [← hK, hSlen]; omega)
          have hJn2 : Hid (∀ w2, Jk wr w2 → Calls Yba.prog 6 #[.pointer (some ⟨d, 0, none⟩), .int .u32 (t0 : Int), .int .u32 (u : Int)] w2 fun e w3 => ∃ r, e = .returned (.int .u32 ((r : Nat) : Int)) ∧ ∃ sb2 cap2 v, w3.cell? ⟨d, 1031, none⟩ = some (.slice (some ⟨sb2, 0, none⟩) T cap2) ∧ w3.cell? ⟨sb2, q * 2 + 1, none⟩ = some v ∧ w3.frozen? ⟨sb2, q * 2 + 1, none⟩ = false ∧ ∃ tg2 N2, Mg tg w (w3.setCell ⟨sb2, q * 2 + 1, none⟩ (.int .u32 (r : Int))) d N S0 l k (cost k f) F' (P ++ [(x, u)]) Q' (K0 ++ [(x, r)]) (G ++ [(x, u)]) (J + 1) tg2 N2) := by
            intro w2 hJ
            have := hJn w2 hJ
            rw [← hK, hSlen, ← hT] at this
            exact this
          have hxe : ((x : Int) == (x : Int)) = true := by simp
          clear hJn hMg hC' hk' y1 y2 y3 y4 y5 y6 hlen hKJ hGJ h8 hms hSlen hle' hT hi hkp hsl hSi hSS hK hgk hq hkq HKp
          go_upto_region 7 with fail
          generalize hwa : wr.alloc (.cells #[.int .u32 (x : Int), .int .u32 (u : Int)] 80) = wa at *
          clear hwa a1 a2 k1
          have p1 : ∀ n, (wa.drewN n).cell? ⟨d, 1031, none⟩ = some (.slice (some ⟨sb', 0, none⟩) T cap') := fun n => kA
          have p2 : ∀ n, (wa.drewN n).cell? ⟨sb', q * 2, none⟩ = some (.int .u32 (x : Int)) := fun n => xA1
          have p3 : ∀ n, (wa.drewN n).cell? ⟨wr.heap.size, 0, none⟩ = some (.int .u32 (x : Int)) := fun n => b0
          have p4 : ∀ n, (wa.drewN n).cell? ⟨sb', q * 2 + 1, none⟩ = some (.int .u32 (t0 : Int)) := fun n => xA2
          have p5 : ∀ n, (wa.drewN n).cell? ⟨wr.heap.size, 1, none⟩ = some (.int .u32 (u : Int)) := fun n => b1
          go_quiet (fail)
          go_upto_region 8 with fail
          go_region_with ((go_at_call 6; refine (hJn2.out _ (HJA.out.drewN _)).mono ?_; rintro e9 w3 ⟨r, rfl, sb2, cap2, v, z1, z2, z3, tg2, N2, z4⟩; dsimp only; have Z4 : Hid _ := z4; clear z4))
          all_goals (
            go_wp2
            go_roundg Q'.length
            case measure => have := HI.out.2.2.2.2.1; simp at this; omega
            case rel =>
              obtain ⟨i1, i2, i3, i4, i5, i6, i7⟩ := HI.out
              have i8 : K.length = K0.length + 1 := by rw [i7]; simp
              exact ⟨P ++ [(x, u)], Q', K0 ++ [(x, r)], G ++ [(x, u)], J + 1, tg2, N2, i + 1, kp, Z4.out, by simp; omega, by simp; omega, rfl, rfl, rfl⟩)
        · have hno : Hid (∀ K0 x t, K = K0 ++ [(x, t)] → x ≠ e.1) := by
            intro K1 x1 t1 h
            rw [hK] at h
            have := List.append_inj_right' h rfl
            simp at this
            rw [← this.1]
            exact hx
          have hxe : ((x : Int) == (e.1 : Int)) = false := by simp; omega
          clear hMg hC' hk' y1 y2 y3 y4 y5 y6 hlen hKJ hGJ h8 hms hSlen hle' hT hi hkp hsl hSi hSS hK hgk hq hkq hx
          go_upto_region 7 with fail
          generalize hwa : wr.alloc (.cells #[.int .u32 (e.1 : Int), .int .u32 (e.2 : Int)] 80) = wa at *
          clear hwa a1 a2 k1
          have p1 : ∀ n, (wa.drewN n).cell? ⟨d, 1031, none⟩ = some (.slice (some ⟨sb', 0, none⟩) T cap') := fun n => kA
          have p2 : ∀ n, (wa.drewN n).cell? ⟨sb', q * 2, none⟩ = some (.int .u32 (x : Int)) := fun n => xA1
          have p3 : ∀ n, (wa.drewN n).cell? ⟨wr.heap.size, 0, none⟩ = some (.int .u32 (e.1 : Int)) := fun n => b0
          go_quiet (fail)
          go_upto_region 10 with fail
          go_region
          all_goals go_wp2
          all_goals (go_roundg Q'.length)
          case measure => have := HI.out; simp at this; omega
          case rel =>
            obtain ⟨G', hG'⟩ := HKp.out _ (HJA.out.drewN _) hno.out
            have := HI.out
            exact ⟨P ++ [e], Q', K ++ [e], G', J, tg', N', i + 1, kp + 1, hG', by simp; omega, by simp; omega, rfl, rfl, rfl⟩
end Go.Proofs.Ybulkakra
