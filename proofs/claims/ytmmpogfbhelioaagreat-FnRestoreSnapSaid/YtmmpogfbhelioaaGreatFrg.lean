/-
  PARTS: K50 K49 K38 K39 K40 K41 K42 K43 K44 K45 K46 K47 K48 K51 K52 K53 Gd K24.
-/
import Derived.Test.YtmmpogfbhelioaaGreatFrc
import Derived.Test.YtmmpogfbhelioaaGreatFrf
import Derived.Test.YtmmpogfbhelioaaGreatFra
import Derived.Defers
import Derived.Recover
import Derived.Tactics
import Derived.Tactics2
import Derived.Laws.Pointers
/-
  Contracts: configurations are compared: members in any order.
  Conditions: not joint, at most 12 members of a kind.
-/
namespace Go.Proofs.YtmmpogfbhelioaaGreat
set_option maxRecDepth 10000
set_option linter.unusedVariables false
set_option linter.unusedSimpArgs false
set_option linter.unusedVariables false
set_option linter.unusedSimpArgs false
attribute [local irreducible] Instr.box Instr.alloc Instr.loadAt Instr.storeAt Instr.fieldAt Instr.indexAt Instr.build Instr.buildSlice Instr.makeSlice Instr.makeMap Instr.mapUpdate Instr.lookup Instr.range Instr.next Instr.entry Instr.extract Instr.makeInterface Instr.makeFunc Instr.sliceAt Instr.typeAssert Instr.field Instr.index Builtin.len_ Builtin.cap_ Builtin.max_ Builtin.min_ Builtin.append_ Builtin.copy_ Builtin.delete_ convert binS pickS nilS callV callM Op.unary Own Mp It Cu

attribute [local irreducible] Nm

variable {K : Value → World → Prop} {w : World} {te te2 : Option Nat}

theorem Nm.nil_any {t : Nat} {v : Value} {w' : World} (h : Nm t v [] w) : Nm t v [] w' := by
  unfold Nm at *
  obtain ⟨a, c, h1, h2, h3, _⟩ := h
  exact ⟨a, c, h1, h2, h3, .inl rfl⟩
theorem k287o {v : Value} {l : List Int} (hv : Nums w te v l) (hl : l.length ≤ 1000000) (h : ∀ v' w', Ex w w' → Nm 22 v' l w' → (∀ x, sb v' x → w.heap.size ≤ x ∧ x < w'.heap.size) → one v' = true → K v' w') : CK Pr 287 #[v] w K := by
  refine c287 ?_
  unfold t287
  have hz := nums_len l
  obtain ⟨a, c, hvv⟩ := hv.sh
  cases a with
  | none =>
    have h0 : nums l = [] := hv.none_ hvv
    subst hvv
    have hl0 : l = [] := by
      cases l with
      | nil => rfl
      | cons x r => cases h0
    subst hl0
    (repeat (first | (refine go ?_; intros) | (refine gon ?_; intros)))
    exact h _ _ (.refl _ _ _) (Own.nm (Own.nil w 0 22 1)) (by intro x hx; cases hx) rfl
  | some a =>
    rw [hvv]
    (repeat (first | (refine go ?_; intros) | (refine gon ?_; intros)))
    rw [← hvv]
    refine e_make (m := (nums l).length) (zv := .int .u64 0) rfl rfl rfl (by omega) (by omega) fun w1 e1 o1 z1 => ?_
    refine e_copy o1 (hv.ex e1) (by rw [List.length_replicate]) nums_one fun r w2 u2 o2 z2 => ?_
    refine h _ _ ?_ o2.nm ?_ rfl
    · refine e1.new u2 fun b hb => ?_
      cases hb
      exact Nat.le_refl _
    · intro x hx
      have hxx : w.heap.size = x := hx
      have := u2.size
      omega

/-- A copy of a configuration, of its own: its members may change places. -/
structure NC (b : Nat) (l1 l2 : List Int) (p : Bool) (m1 m2 m3 m4 m5 : Nat) (v1 v2 v3 v4 v5 : Value) (w : World) : Prop where
  bk : Bk w b (.cells #[v1, v2, v3, v4, v5] 200 (0, 0))
  n1 : Nm 22 v1 l1 w
  n2 : Nm 22 v2 l2 w
  n3 : Nm 22 v3 [] w
  n4 : Nm 22 v4 [] w
  n5 : PB1 v5 p w
  s1 : ∀ x, sb v1 x → m1 ≤ x ∧ x < m2
  s2 : ∀ x, sb v2 x → m2 ≤ x ∧ x < m3
  s3 : ∀ x, sb v3 x → m3 ≤ x ∧ x < m4
  s4 : ∀ x, sb v4 x → m4 ≤ x ∧ x < m5
  o1 : one v1 = true
  o2 : one v2 = true
  o3 : one v3 = true
  o4 : one v4 = true
  h1 : m1 ≤ m2
  h2 : m2 ≤ m3
  h3 : m3 ≤ m4
  h4 : m4 ≤ m5
theorem NC.up {b : Nat} {l1 l2 : List Int} {p : Bool} {m1 m2 m3 m4 m5 : Nat} {v1 v2 v3 v4 v5 : Value} {w' : World} {C : Nat → Prop} {T : List Nat} (u : Up C T w w') (h : NC b l1 l2 p m1 m2 m3 m4 m5 v1 v2 v3 v4 v5 w) (hb : T.contains 202 = false ∨ ¬ C b) (hC : T.contains 24 = false ∨ ∀ x, m1 ≤ x → x < m5 → ¬ C x) (h6 : T.contains 6 = false) : NC b l1 l2 p m1 m2 m3 m4 m5 v1 v2 v3 v4 v5 w' := by
  have g1 := h.h1
  have g2 := h.h2
  have g3 := h.h3
  have g4 := h.h4
  refine ⟨?_, h.n1.up u ?_, h.n2.up u ?_, h.n3.nil_any, h.n4.nil_any, ?_, h.s1, h.s2, h.s3, h.s4, h.o1, h.o2, h.o3, h.o4, h.h1, h.h2, h.h3, h.h4⟩
  · rcases hb with hb | hb
    · exact u.at_ h.bk hb
    · exact u.off h.bk hb
  · exact hC.imp id fun hC x hx => hC x (by have := h.s1 x hx; omega) (by have := h.s1 x hx; omega)
  · exact hC.imp id fun hC x hx => hC x (by have := h.s2 x hx; omega) (by have := h.s2 x hx; omega)
  · obtain ⟨b', q1, q2⟩ := h.n5
    exact ⟨b', q1, u.at_ q2 h6⟩
theorem NC.ex {b : Nat} {l1 l2 : List Int} {p : Bool} {m1 m2 m3 m4 m5 : Nat} {v1 v2 v3 v4 v5 : Value} {w' : World} (u : Ex w w') (h : NC b l1 l2 p m1 m2 m3 m4 m5 v1 v2 v3 v4 v5 w) : NC b l1 l2 p m1 m2 m3 m4 m5 v1 v2 v3 v4 v5 w' := h.up u (.inr id) (.inr fun _ _ _ => id) rfl
theorem NC.pc {b : Nat} {l1 l2 : List Int} {p : Bool} {m1 m2 m3 m4 m5 : Nat} {v1 v2 v3 v4 v5 : Value} (h : NC b l1 l2 p m1 m2 m3 m4 m5 v1 v2 v3 v4 v5 w) : PC (.pointer (some ⟨b, 0, none⟩)) ⟨l1, l2, [], [], p⟩ w :=
  ⟨b, v1, v2, v3, v4, v5, rfl, h.bk, h.n1.sl, h.n2.sl, h.n3.sl, h.n4.sl, h.n5⟩

theorem k226o {v : Value} {c : Cf} (hv : PC v c w) (sm : CfSm c) (ho : c.o = []) (hn : c.n = []) (h : ∀ b m2 m3 m4 m5 v1 v2 v3 v4 v5 w', Ex w w' → w.heap.size ≤ b → m5 ≤ w'.heap.size → NC b c.v c.l c.a w.heap.size m2 m3 m4 m5 v1 v2 v3 v4 v5 w' → K (.pointer (some ⟨b, 0, none⟩)) w') : CK Pr 226 #[v] w K := by
  obtain ⟨b, v1, v2, v3, v4, v5, rfl, hb, h1, h2, h3, h4, h5⟩ := hv
  refine c226 ?_
  unfold t226
  (repeat (first | (refine go ?_; intros) | (refine gon ?_; intros)))
  refine dr_rule No [] fun w1 e1 z1 => ?_
  have hb1 := e1.at_ hb
  (repeat (first | (refine go ?_; intros) | (refine gon ?_; intros)))
  refine cl_fn (k287o (h1.ex e1) sm.v fun u1 w2 e2 o1 q1 r1 => ⟨e2, ?_⟩)
  have hb2 := e2.at_ hb1
  (repeat (first | (refine go ?_; intros) | (refine gon ?_; intros)))
  refine cl_fn (k287o (h2.ex (e1.trans e2)) sm.l fun u2 w3 e3 o2 q2 r2 => ⟨e2.trans e3, ?_⟩)
  have hb3 := e3.at_ hb2
  (repeat (first | (refine go ?_; intros) | (refine gon ?_; intros)))
  refine cl_fn (k287o (h3.ex ((e1.trans e2).trans e3)) sm.o fun u3 w4 e4 o3 q3 r3 => ⟨(e2.trans e3).trans e4, ?_⟩)
  have hb4 := e4.at_ hb3
  (repeat (first | (refine go ?_; intros) | (refine gon ?_; intros)))
  refine cl_fn (k287o (h4.ex (((e1.trans e2).trans e3).trans e4)) sm.n fun u4 w5 e5 o4 q4 r4 => ⟨((e2.trans e3).trans e4).trans e5, ?_⟩)
  have hb5 := e5.at_ hb4
  (repeat (first | (refine go ?_; intros) | (refine gon ?_; intros)))
  refine cl_fn (k288 (h5.ex ((((e1.trans e2).trans e3).trans e4).trans e5)) fun u5 w6 e6 o5 => ⟨(((e2.trans e3).trans e4).trans e5).trans e6, ?_⟩)
  refine b200_0_1_2_3_4 r1 r2 r3 r4 o5.one ?_
  refine e_boxA fun b0 w7 e7 hb7 s1 s2 => ⟨((((e2.trans e3).trans e4).trans e5).trans e6).trans e7, ?_⟩
  have y2 := e2.size
  have y3 := e3.size
  have y4 := e4.size
  have y5 := e5.size
  have y6 := e6.size
  have y7 := e7.size
  have E7 : Ex w1 w7 := ((((e2.trans e3).trans e4).trans e5).trans e6).trans e7
  rw [ho] at o3
  rw [hn] at o4
  refine h b0 w2.heap.size w3.heap.size w4.heap.size w5.heap.size _ _ _ _ _ w7 (e1.trans E7) (by omega) (by omega) ⟨hb7, ((((o1.ex e3).ex e4).ex e5).ex e6).ex e7, (((o2.ex e4).ex e5).ex e6).ex e7, o3.nil_any, o4.nil_any, o5.ex e7, fun x hx => by have := q1 x hx; omega, q2, q3, q4, r1, r2, r3, r4, by omega, by omega, by omega, by omega⟩

theorem k227 {b o : Nat} {cs : Array Value} {v : Value} {l : List Int} (hb : Bk w b (.cells cs 200 (0, 0))) (hx : cs[o]? = some v) (hn : Nm 22 v l w) (hl : l.length ≤ 12) (h : ∀ w' l', So 22 v l w w' l' → OrdP l.length l' → K (.tuple #[]) w') : CK Pr 227 #[.pointer (some ⟨b, o, none⟩)] w K := by
  refine c227 ?_
  unfold t227
  refine q_nil ?_
  refine q_ld hb hx ?_
  exact cl_fn (k131o hn hl h)

theorem k289 {v1 v2 : Value} {l : List Int} (h1 : Nums w te v1 l) (h2 : Nums w te2 v2 l) (h : ∀ w', Ex w w' → K (.bool true) w') : CK Pr 289 #[v1, v2] w K := by
  refine c289 ?_
  unfold t289
  refine q_lenSl h1 ?_
  refine q_lenSl h2 ?_
  refine q_neq ?_
  rw [beq_self_eq_true]
  refine if_f ?_
  refine q_lenSl h1 ?_
  have hle := h1.le
  rw [nums_len] at hle ⊢
  refine loop_n (α := Nat) (fun j τ w' => g τ 2 = .int .i64 j ∧ j ≤ l.length ∧ Ex w w') (fun j => l.length - j) 0 ⟨rfl, Nat.zero_le _, .refl _ _ _⟩ ?_
  rintro j τ w' R ⟨hj, hjl, ex⟩ hR
  rw [hj]
  refine q_lss ?_
  refine if_split (fun hb => ?_) (fun _ => h _ ex)
  have hj' : j < l.length := by simpa using hb
  obtain ⟨x, hx⟩ : ∃ x, l[j]? = some x := ⟨_, List.getElem?_eq_getElem hj'⟩
  refine dr_q fun w1 e1 z1 => ?_
  refine q_ixs (x := .int .u64 x) j (h1.ex (ex.trans e1)) rfl (by simp [nums, hx]) fun _ => ?_
  refine q_ixs (x := .int .u64 x) j (h2.ex (ex.trans e1)) rfl (by simp [nums, hx]) fun _ => ?_
  refine q_neq ?_
  rw [beq_self_eq_true]
  refine if_f ?_
  refine q_add ?_
  rw [wrapS (by omega)]
  exact hR (j + 1) _ _ ⟨rfl, by omega, ex.trans e1⟩ (by omega)

theorem k228 {b b' : Nat} {l1 l2 : List Int} {p : Bool} {m1 m2 m3 m4 m5 n1 n2 n3 n4 n5 : Nat} {v1 v2 v3 v4 v5 u1 u2 u3 u4 u5 : Value} (h1 : NC b l1 l2 p m1 m2 m3 m4 m5 v1 v2 v3 v4 v5 w) (h2 : NC b' l1 l2 p n1 n2 n3 n4 n5 u1 u2 u3 u4 u5 w) (h : ∀ w', Ex w w' → K (.bool true) w') : CK Pr 228 #[.pointer (some ⟨b, 0, none⟩), .pointer (some ⟨b', 0, none⟩)] w K := by
  refine c228 ?_
  unfold t228
  refine dr_rule No [] fun w1 e1 z1 => ?_
  have g1 := h1.ex e1
  have g2 := h2.ex e1
  have hb := g1.bk
  have hb' := g2.bk
  obtain ⟨c5, rfl, hc5⟩ := g1.n5
  obtain ⟨d5, rfl, hd5⟩ := g2.n5
  (repeat (first | (refine go ?_; intros) | (refine gon ?_; intros)))
  refine cl_fn (k289 g1.n1.sl g2.n1.sl fun w2 e2 => ⟨e2, ?_⟩)
  (repeat (first | (refine go ?_; intros) | (refine gon ?_; intros)))
  refine cl_fn (k289 (g1.ex e2).n2.sl (g2.ex e2).n2.sl fun w3 e3 => ⟨e2.trans e3, ?_⟩)
  (repeat (first | (refine go ?_; intros) | (refine gon ?_; intros)))
  refine cl_fn (k289 (g1.ex (e2.trans e3)).n3.sl (g2.ex (e2.trans e3)).n3.sl fun w4 e4 => ⟨(e2.trans e3).trans e4, ?_⟩)
  (repeat (first | (refine go ?_; intros) | (refine gon ?_; intros)))
  refine cl_fn (k289 (g1.ex ((e2.trans e3).trans e4)).n4.sl (g2.ex ((e2.trans e3).trans e4)).n4.sl fun w5 e5 => ⟨((e2.trans e3).trans e4).trans e5, ?_⟩)
  have E5 : Ex w1 w5 := ((e2.trans e3).trans e4).trans e5
  (repeat (first | (refine go ?_; intros) | (refine gon ?_; intros)))
  refine cl_fn (k156 (g1.ex E5).pc ⟨E5, ?_⟩)
  (repeat (first | (refine go ?_; intros) | (refine gon ?_; intros)))
  refine cl_fn (k156 (g2.ex E5).pc ⟨E5, ?_⟩)
  (repeat (first | (refine go ?_; intros) | (refine gon ?_; intros)))
  rw [beq_self_eq_true]
  (repeat (first | (refine go ?_; intros) | (refine gon ?_; intros)))
  exact h w5 (e1.trans E5)

set_option maxHeartbeats 1000000 in
theorem k159 {a0 a1 : Value} {c d : Cf} (hc : PC a0 c w) (hd : PC a1 d w) (pv : d.v.Perm c.v) (pl : d.l.Perm c.l) (ho : c.o = []) (hn : c.n = []) (ho' : d.o = []) (hn' : d.n = []) (ha : d.a = c.a) (l9 : c.v.length ≤ 12) (l4 : c.l.length ≤ 12)
    (h : ∀ w', Ex w w' → K .nilIface w') : CK Pr 159 #[a0, a1] w K := by
  refine c159 ?_
  unfold t159
  have hc' := hc
  have hd' := hd
  obtain ⟨b0, _, _, _, _, _, rfl, _⟩ := hc'
  obtain ⟨b1, _, _, _, _, _, rfl, _⟩ := hd'
  (repeat (first | (refine go ?_; intros) | (refine gon ?_; intros)))
  unfold t159_1
  have sc : CfSm c := ⟨by omega, by omega, by rw [ho]; simp, by rw [hn]; simp⟩
  have sd : CfSm d := ⟨by rw [pv.length_eq]; omega, by rw [pl.length_eq]; omega, by rw [ho']; simp, by rw [hn']; simp⟩
  refine cl_fn (k226o hc sc ho hn fun bA m2 m3 m4 m5 v1 v2 v3 v4 v5 w1 e1 hbA hm5 A0 => ?_)
  refine cl_fn (k226o (hd.ex e1) sd ho' hn' fun bB n2 n3 n4 n5 u1 u2 u3 u4 u5 w2 e2 hbB hn5 B0 => ?_)
  have A2 := A0.ex e2
  rw [ha] at B0
  have hAl := A0.bk.lt
  have hBl := B0.bk.lt
  have q1 := B0.h1
  have q2 := B0.h2
  have q3 := B0.h3
  have q4 := B0.h4
  obtain ⟨m1, hm1⟩ : ∃ m, m = w.heap.size := ⟨_, rfl⟩
  obtain ⟨n1, hn1⟩ : ∃ m, m = w1.heap.size := ⟨_, rfl⟩
  rw [← hm1] at A2
  rw [← hn1] at B0
  generalize hp : c.a = p at A2 B0
  refine e_bs2 rfl rfl fun w3 e3 own3 z3 => ?_
  refine q_lenSl own3.sl ?_
  have zz1 := e1.size
  have zz2 := e2.size
  have A3 := A2.ex e3
  have B3 := B0.ex e3
  have E3 : Ex w w3 := (e1.trans e2).trans e3
  clear A2 A0 B0
  refine loop_n (α := Nat) (fun j τ w' => g τ 2 = .int .i64 j ∧ j ≤ 2 ∧ Ex w w' ∧ Sl w' (some 102) 1 (.slice (some ⟨w2.heap.size, 0, none⟩) 2 2) [[.pointer (some ⟨bA, 0, none⟩)], [.pointer (some ⟨bB, 0, none⟩)]] ∧ ∃ l1 l2 r1 r2 v5 u5, NC bA l1 l2 p m1 m2 m3 m4 m5 v1 v2 v3 v4 v5 w' ∧ NC bB r1 r2 p n1 n2 n3 n4 n5 u1 u2 u3 u4 u5 w' ∧ l1.Perm c.v ∧ l2.Perm c.l ∧ r1.Perm c.v ∧ r2.Perm c.l ∧ (1 ≤ j → OrdP l1.length l1 ∧ OrdP l2.length l2) ∧ (2 ≤ j → OrdP r1.length r1 ∧ OrdP r2.length r2)) (fun j => 2 - j) 0
    ⟨rfl, by omega, E3, own3.sl, _, _, _, _, _, _, A3, B3, .refl _, .refl _, pv, pl, fun h => by omega, fun h => by omega⟩ ?_
  clear A3 B3
  rintro j τ w3 R ⟨hj, hle, ex, hs, l1, l2, r1, r2, v5, u5, A, B, pA1, pA2, pB1, pB2, oA, oB⟩ hR
  rw [hj]
  have zx := ex.size
  have hj2 : j = 0 ∨ j = 1 ∨ j = 2 := by omega
  rcases hj2 with rfl | rfl | rfl
  · (repeat (first | (refine go ?_; intros) | (refine gon ?_; intros)))
    have l12 : l1.length ≤ 12 := by rw [pA1.length_eq]; exact l9
    have l22 : l2.length ≤ 12 := by rw [pA2.length_eq]; exact l4
    refine q_ixs (x := .pointer (some ⟨bA, 0, none⟩)) 0 hs rfl rfl fun _ => ?_
    have hb := A.bk
    (repeat (first | (refine go ?_; intros) | (refine gon ?_; intros)))
    refine cl_fn (k227 (o := 0) hb rfl A.n1 l12 fun wa la sa oa => ?_)
    have Ua : Up (sb v1) [24] w3 wa := sa.1
    replace hb := Ua.at_ hb rfl
    (repeat (first | (refine go ?_; intros) | (refine gon ?_; intros)))
    refine cl_fn (k227 (o := 1) hb rfl (A.n2.up Ua (.inr fun x hx hc => by have := A.s1 x hc; have := A.s2 x hx; omega)) l22 fun wb lb sb' ob => ?_)
    have Ub : Up (sb v2) [24] wa wb := sb'.1
    replace hb := Ub.at_ hb rfl
    (repeat (first | (refine go ?_; intros) | (refine gon ?_; intros)))
    refine cl_fn (k227 (o := 2) (l := []) hb rfl A.n3.nil_any (by simp) fun wc lc sc oc => ?_)
    have Uc : Up (sb v3) [24] wb wc := sc.1
    replace hb := Uc.at_ hb rfl
    (repeat (first | (refine go ?_; intros) | (refine gon ?_; intros)))
    refine cl_fn (k227 (o := 3) (l := []) hb rfl A.n4.nil_any (by simp) fun wd ld sd od => ?_)
    have Ud : Up (sb v4) [24] wc wd := sd.1
    replace hb := Ud.at_ hb rfl
    have g1 := A.h1
    have g2 := A.h2
    have g3 := A.h3
    have g4 := A.h4
    have U : Up (fun x => m1 ≤ x ∧ x < m5) [24] w3 wd := (((Ua.mono (fun x _ hx => by have := A.s1 x hx; omega) (fun _ h => h)).trans (Ub.mono (fun x _ hx => by have := A.s2 x hx; omega) (fun _ h => h))).trans (Uc.mono (fun x _ hx => by have := A.s3 x hx; omega) (fun _ h => h))).trans (Ud.mono (fun x _ hx => by have := A.s4 x hx; omega) (fun _ h => h))
    have Nd1 : Nm 22 v1 la wd := ((sa.nm.up Ub (.inr fun x hx hc => by have := A.s1 x hx; have := A.s2 x hc; omega)).up Uc (.inr fun x hx hc => by have := A.s1 x hx; have := A.s3 x hc; omega)).up Ud (.inr fun x hx hc => by have := A.s1 x hx; have := A.s4 x hc; omega)
    have Nd2 : Nm 22 v2 lb wd := (sb'.nm.up Uc (.inr fun x hx hc => by have := A.s2 x hx; have := A.s3 x hc; omega)).up Ud (.inr fun x hx hc => by have := A.s2 x hx; have := A.s4 x hc; omega)
    have Nd5 : PB1 v5 p wd := by
      obtain ⟨q, q1, q2⟩ := A.n5
      exact ⟨q, q1, U.at_ q2 rfl⟩
    have Cd : NC bA la lb p m1 m2 m3 m4 m5 v1 v2 v3 v4 v5 wd := ⟨hb, Nd1, Nd2, A.n3.nil_any, A.n4.nil_any, Nd5, A.s1, A.s2, A.s3, A.s4, A.o1, A.o2, A.o3, A.o4, g1, g2, g3, g4⟩
    refine cl_fn (k156 Cd.pc ?_)
    (repeat (first | (refine go ?_; intros) | (refine gon ?_; intros)))
    rename_i ab we ee hab se1 se2 wf uf hbf zf
    replace hb := uf.at_ (ee.at_ hb) rfl
    have Ef : Ex wd wf := ee.new uf (by intro x hx; omega)
    clear hab
    (repeat (first | (refine go ?_; intros) | (refine gon ?_; intros)))
    rename_i wg ug hbg zg
    have O1 := A.o1
    have O2 := A.o2
    have O3 := A.o3
    have O4 := A.o4
    have Cf := Cd.ex Ef
    have Nf1 := Cf.n1.up ug (.inl rfl)
    have Nf2 := Cf.n2.up ug (.inl rfl)
    have Cg : NC bA la lb p m1 m2 m3 m4 m5 v1 v2 v3 v4 (.pointer (some ⟨ab, 0, none⟩)) wg := ⟨hbg, Nf1, Nf2, A.n3.nil_any, A.n4.nil_any, ⟨ab, rfl, ug.at_ hbf rfl⟩, A.s1, A.s2, A.s3, A.s4, A.o1, A.o2, A.o3, A.o4, g1, g2, g3, g4⟩
    rw [wrapS (by omega)]
    have Uall : Up (fun x => m1 ≤ x ∧ x < m5 ∨ x = bA) [24, 202] w3 wg := ((U.mono (fun _ _ h => .inl h) (fun k hk => by simp at hk; simp [hk])).ex Ef).trans (ug.mono (fun _ _ h => .inr h) (fun k hk => by simp at hk; simp [hk]))
    refine hR 1 _ _ ⟨rfl, by omega, ex.new Uall (fun x hx => by rcases hx with hx | hx <;> omega), hs.typ Uall rfl, la, lb, r1, r2, _, u5, Cg, B.up Uall (.inr (by rintro (hh | hh) <;> omega)) (.inr fun x hx1 hx2 hh => by rcases hh with hh | hh <;> omega) rfl, sa.2.2.1.trans pA1, sb'.2.2.1.trans pA2, pB1, pB2, fun _ => ⟨by rw [sa.len]; exact oa, by rw [sb'.len]; exact ob⟩, fun h => by omega⟩ (by omega)
  · (repeat (first | (refine go ?_; intros) | (refine gon ?_; intros)))
    have l12 : r1.length ≤ 12 := by rw [pB1.length_eq]; exact l9
    have l22 : r2.length ≤ 12 := by rw [pB2.length_eq]; exact l4
    refine q_ixs (x := .pointer (some ⟨bB, 0, none⟩)) 1 hs rfl rfl fun _ => ?_
    have hb := B.bk
    (repeat (first | (refine go ?_; intros) | (refine gon ?_; intros)))
    refine cl_fn (k227 (o := 0) hb rfl B.n1 l12 fun wa la sa oa => ?_)
    have Ua : Up (sb u1) [24] w3 wa := sa.1
    replace hb := Ua.at_ hb rfl
    (repeat (first | (refine go ?_; intros) | (refine gon ?_; intros)))
    refine cl_fn (k227 (o := 1) hb rfl (B.n2.up Ua (.inr fun x hx hc => by have := B.s1 x hc; have := B.s2 x hx; omega)) l22 fun wb lb sb' ob => ?_)
    have Ub : Up (sb u2) [24] wa wb := sb'.1
    replace hb := Ub.at_ hb rfl
    (repeat (first | (refine go ?_; intros) | (refine gon ?_; intros)))
    refine cl_fn (k227 (o := 2) (l := []) hb rfl B.n3.nil_any (by simp) fun wc lc sc oc => ?_)
    have Uc : Up (sb u3) [24] wb wc := sc.1
    replace hb := Uc.at_ hb rfl
    (repeat (first | (refine go ?_; intros) | (refine gon ?_; intros)))
    refine cl_fn (k227 (o := 3) (l := []) hb rfl B.n4.nil_any (by simp) fun wd ld sd od => ?_)
    have Ud : Up (sb u4) [24] wc wd := sd.1
    replace hb := Ud.at_ hb rfl
    have g1 := B.h1
    have g2 := B.h2
    have g3 := B.h3
    have g4 := B.h4
    have U : Up (fun x => n1 ≤ x ∧ x < n5) [24] w3 wd := (((Ua.mono (fun x _ hx => by have := B.s1 x hx; omega) (fun _ h => h)).trans (Ub.mono (fun x _ hx => by have := B.s2 x hx; omega) (fun _ h => h))).trans (Uc.mono (fun x _ hx => by have := B.s3 x hx; omega) (fun _ h => h))).trans (Ud.mono (fun x _ hx => by have := B.s4 x hx; omega) (fun _ h => h))
    have Nd1 : Nm 22 u1 la wd := ((sa.nm.up Ub (.inr fun x hx hc => by have := B.s1 x hx; have := B.s2 x hc; omega)).up Uc (.inr fun x hx hc => by have := B.s1 x hx; have := B.s3 x hc; omega)).up Ud (.inr fun x hx hc => by have := B.s1 x hx; have := B.s4 x hc; omega)
    have Nd2 : Nm 22 u2 lb wd := (sb'.nm.up Uc (.inr fun x hx hc => by have := B.s2 x hx; have := B.s3 x hc; omega)).up Ud (.inr fun x hx hc => by have := B.s2 x hx; have := B.s4 x hc; omega)
    have Nd5 : PB1 u5 p wd := by
      obtain ⟨q, q1, q2⟩ := B.n5
      exact ⟨q, q1, U.at_ q2 rfl⟩
    have Cd : NC bB la lb p n1 n2 n3 n4 n5 u1 u2 u3 u4 u5 wd := ⟨hb, Nd1, Nd2, B.n3.nil_any, B.n4.nil_any, Nd5, B.s1, B.s2, B.s3, B.s4, B.o1, B.o2, B.o3, B.o4, g1, g2, g3, g4⟩
    refine cl_fn (k156 Cd.pc ?_)
    (repeat (first | (refine go ?_; intros) | (refine gon ?_; intros)))
    rename_i ab we ee hab se1 se2 wf uf hbf zf
    replace hb := uf.at_ (ee.at_ hb) rfl
    have Ef : Ex wd wf := ee.new uf (by intro x hx; omega)
    clear hab
    (repeat (first | (refine go ?_; intros) | (refine gon ?_; intros)))
    rename_i wg ug hbg zg
    have O1 := B.o1
    have O2 := B.o2
    have O3 := B.o3
    have O4 := B.o4
    have Cf := Cd.ex Ef
    have Nf1 := Cf.n1.up ug (.inl rfl)
    have Nf2 := Cf.n2.up ug (.inl rfl)
    have Cg : NC bB la lb p n1 n2 n3 n4 n5 u1 u2 u3 u4 (.pointer (some ⟨ab, 0, none⟩)) wg := ⟨hbg, Nf1, Nf2, B.n3.nil_any, B.n4.nil_any, ⟨ab, rfl, ug.at_ hbf rfl⟩, B.s1, B.s2, B.s3, B.s4, B.o1, B.o2, B.o3, B.o4, g1, g2, g3, g4⟩
    rw [wrapS (by omega)]
    have Uall : Up (fun x => n1 ≤ x ∧ x < n5 ∨ x = bB) [24, 202] w3 wg := ((U.mono (fun _ _ h => .inl h) (fun k hk => by simp at hk; simp [hk])).ex Ef).trans (ug.mono (fun _ _ h => .inr h) (fun k hk => by simp at hk; simp [hk]))
    refine hR 2 _ _ ⟨rfl, by omega, ex.new Uall (fun x hx => by rcases hx with hx | hx <;> omega), hs.typ Uall rfl, l1, l2, la, lb, v5, _, A.up Uall (.inr (by rintro (hh | hh) <;> omega)) (.inr fun x hx1 hx2 hh => by rcases hh with hh | hh <;> omega) rfl, Cg, pA1, pA2, sa.2.2.1.trans pB1, sb'.2.2.1.trans pB2, fun _ => oA (by omega), fun _ => ⟨by rw [sa.len]; exact oa, by rw [sb'.len]; exact ob⟩⟩ (by omega)
  · (repeat (first | (refine go ?_; intros) | (refine gon ?_; intros)))
    obtain ⟨o1, o2⟩ := oA (by omega)
    obtain ⟨o3, o4⟩ := oB (by omega)
    have e1 : r1 = l1 := ord_eq (pB1.trans pA1.symm) o3 o1
    have e2 : r2 = l2 := ord_eq (pB2.trans pA2.symm) o4 o2
    subst e1
    subst e2
    refine cl_fn (k228 A B fun w4 e4 => ?_)
    (repeat (first | (refine go ?_; intros) | (refine gon ?_; intros)))
    exact h w4 (ex.trans e4)

theorem k105 {a0 a1 : Value} {c d : Cf} (hc : PC a0 c w) (hd : PC a1 d w) (pv : d.v.Perm c.v) (pl : d.l.Perm c.l) (ho : c.o = []) (hn : c.n = []) (ho' : d.o = []) (hn' : d.n = []) (ha : d.a = c.a) (l9 : c.v.length ≤ 12) (l4 : c.l.length ≤ 12)
    (h : ∀ w', Ex w w' → K (.tuple #[]) w') : CK Pr 105 #[a0, a1] w K := by
  refine c105 ?_
  unfold t105
  refine cl_fn (k159 hc hd pv pl ho hn ho' hn' ha l9 l4 fun w1 e1 => ?_)
  (repeat (first | (refine go ?_; intros) | (refine gon ?_; intros)))
  exact h w1 e1

end Go.Proofs.YtmmpogfbhelioaaGreat
/-
  Contracts: the term of an entry of the log; the commit; the log out of a snapshot.
  Conditions: each one's own.
-/
namespace Go.Proofs.YtmmpogfbhelioaaGreat
set_option maxRecDepth 10000
set_option linter.unusedVariables false
set_option linter.unusedSimpArgs false
theorem nmK49 {p : Prop} (h : p := by (try simp only [List.getElem?_toArray, List.getElem?_cons_zero, List.getElem?_cons_succ, List.setIfInBounds_toArray, List.set_cons_zero, List.set_cons_succ, List.toList_toArray, List.drop_zero, List.drop_succ_cons, List.take_zero, List.take_succ_cons, Nat.zero_add, Nat.add_zero, Nat.reduceAdd, putCells, Lg.cells]) <;> rfl) : p := h
theorem goK49 {G H : Prop} (h : H) (s : Stp G H := by (apply Stp.of; intro hS; (first | (refine q_ld bk_ nmK49 ?_) | (refine q_ldU bk_ rfl nmK49 ?_) | (refine q_ldW bk_ (by rfl) ?_) | (refine q_ldWU bk_ rfl (by rfl) ?_) | (refine q_ldP bk_ (Nat.le_of_ble_eq_true rfl) nmK49 ?_) | (refine q_ldPU bk_ rfl (Nat.le_of_ble_eq_true rfl) nmK49 ?_) | (refine q_ext nmK49 ?_) | (refine u_st bk_ (Nat.le_of_ble_eq_true rfl) (by first | rfl | assumption) nmK49 ?_) | (refine u_stA bk_ (Nat.le_of_ble_eq_true rfl) (by rfl) (by rfl) nmK49 ?_) | (refine q_field nmK49 ?_)); exact hS.out)) : G := s.f h
set_option linter.unusedVariables false
set_option linter.unusedSimpArgs false
attribute [local irreducible] Instr.box Instr.alloc Instr.loadAt Instr.storeAt Instr.fieldAt Instr.indexAt Instr.build Instr.buildSlice Instr.makeSlice Instr.makeMap Instr.mapUpdate Instr.lookup Instr.range Instr.next Instr.entry Instr.extract Instr.makeInterface Instr.makeFunc Instr.sliceAt Instr.typeAssert Instr.field Instr.index Builtin.len_ Builtin.cap_ Builtin.max_ Builtin.min_ Builtin.append_ Builtin.copy_ Builtin.delete_ convert binS pickS nilS callV callM Op.unary Own Mp It Cu


variable {K : Value → World → Prop} {w : World} {te : Option Nat}

/-- A log without a snapshot that is not stable, whose entries stand one behind the other. -/
structure Lg.Pl (L : Lg) (e : En) (r : List En) : Prop where
  es : L.es = e :: r
  us : L.us = none
  off : L.off = e.i + r.length + 1

theorem Lg.Pl.last {L : Lg} {e : En} {r : List En} (p : L.Pl e r) : L.last = e.i + r.length + L.un.length := by
  unfold Lg.last
  rw [p.us, p.es, p.off]
  cases L.un with
  | nil => simp
  | cons x l => simp only [List.length_cons]; omega

/-- The term of the entry at an index, if there is one. -/
def Lg.at (L : Lg) (e : En) (r : List En) (i : Int) : Option Int := if i < e.i then none else (((e :: r) ++ L.un)[(i - e.i).toNat]?).map (·.t)

theorem k262 {base lb : Nat} {L : Lg} (hL : LG base lb L w) (hu : L.us = none) (h : K (.tuple #[.int .u64 0, .bool false]) w) : CK Pr 262 #[.pointer (some ⟨lb, 1, none⟩)] w K := by
  refine c262 ?_
  unfold t262
  obtain ⟨lim, vs, ve, ps, h1, h2, h3, h4, h5, h6, h7, h8, h9, h10⟩ := hL
  rw [hu] at h5
  cases (show vs = .pointer none from h5)
  (repeat (first | (refine go ?_; intros) | (refine goK49 ?_; intros)))
  exact h

theorem k192 {base lb : Nat} {L : Lg} {e : En} {r : List En} (hL : LG base lb L w) (hok : L.Ok) (p : L.Pl e r)
    (h : ∀ w', Up (fun x => x = L.sb) [227] w w' → w'.heap.size = w.heap.size → LG base lb L w' → K (.int .u64 (e.i + 1)) w') : CK Pr 192 #[.pointer (some ⟨lb, 0, none⟩)] w K := by
  refine c192 ?_
  unfold t192
  (repeat (first | (refine go ?_; intros) | (refine goK49 ?_; intros)))
  refine cl_fn (k262 hL p.us ?_)
  obtain ⟨⟨e', r', he, hi⟩, hlen, _, _, _⟩ := hok
  have hee := p.es
  rw [hee] at he
  cases he
  obtain ⟨lim, vs, ve, ps, h1, h2, h3, h4, h5, h6, h7, h8, h9, h10⟩ := hL
  (repeat (first | (refine go ?_; intros) | (refine goK49 ?_; intros)))
  refine cl_m (k351 (hee ▸ h2) hi fun w1 u1 z1 m1 => ?_)
  (repeat (first | (refine go ?_; intros) | (refine goK49 ?_; intros)))
  have hL1 : LG base lb L w1 := ⟨lim, vs, ve, ps, u1.at_ h1 rfl, by rw [hee]; exact m1, h3, by omega, h5.mt rfl u1, h6.up u1 fun _ _ => .inl rfl, h7.mt rfl u1, h8, h9, by omega⟩
  exact h w1 u1 z1 hL1

theorem k214 {base lb : Nat} {L : Lg} {i : Int} (hL : LG base lb L w) (hok : L.Ok) (hu : L.us = none) (hi : 0 ≤ i ∧ i ≤ 2000000000000000)
    (h : ∀ w', Ex w w' → w'.heap.size = w.heap.size → (i < L.off ∨ L.off + L.un.length ≤ i) → K (.tuple #[.int .u64 0, .bool false]) w')
    (h' : ∀ w' (j : Nat) e, Ex w w' → w'.heap.size = w.heap.size → i = L.off + j → L.un[j]? = some e → K (.tuple #[.int .u64 e.t, .bool true]) w') : CK Pr 214 #[.pointer (some ⟨lb, 1, none⟩), .int .u64 i] w K := by
  refine c214 ?_
  unfold t214
  have hL0 := hL
  have hoff := hok.off
  have hun := hok.un
  obtain ⟨lim, vs, ve, ps, h1, h2, h3, h4, h5, h6, h7, h8, h9, h10⟩ := hL
  rw [hu] at h5
  cases (show vs = .pointer none from h5)
  (repeat (first | (refine go ?_; intros) | (refine goK49 ?_; intros)))
  refine if_split (fun hb => ?_) (fun hb => ?_)
  · (repeat (first | (refine go ?_; intros) | (refine goK49 ?_; intros)))
    exact h _ (.refl _ _ _) rfl (.inl (of_decide_eq_true hb))
  · have hge : ¬ i < L.off := of_decide_eq_false hb
    refine cl_fn (k158 hL0 hok ?_)
    cases hun' : L.un with
    | nil =>
      rw [hu]
      (repeat (first | (refine go ?_; intros) | (refine goK49 ?_; intros)))
      exact h _ (.refl _ _ _) rfl (.inr (by rw [hun']; simp; omega))
    | cons x l =>
      have hlast : L.last = L.off + L.un.length - 1 := by unfold Lg.last; rw [hun']
      rw [hun'] at hun
      rw [hun'] at hlast
      (repeat (first | (refine go ?_; intros) | (refine goK49 ?_; intros)))
      refine if_split (fun hb => ?_) (fun hb => ?_)
      · have := of_decide_eq_true hb
        exact h _ (.refl _ _ _) rfl (.inr (by rw [hun']; omega))
      · have hle : ¬ L.last < i := of_decide_eq_false hb
        refine dr_rule No [] fun w1 e1 z1 => ?_
        have hb1 := e1.at_ h1
        have hlp := h7.len
        rw [hun'] at hlp
        (repeat (first | (refine go ?_; intros) | (refine goK49 ?_; intros)))
        have hw : IntKind.u64.wrap (i - L.off) = (((i - L.off).toNat : Nat) : Int) := by rw [wrapU (by omega) (by omega)]; omega
        rw [hw]
        have hjl : (i - L.off).toNat < ps.length := by omega
        obtain ⟨v, hv⟩ : ∃ v, ps[(i - L.off).toNat]? = some v := ⟨_, List.getElem?_eq_getElem hjl⟩
        obtain ⟨e, he, hpe⟩ := h7.get hv
        refine q_ixsU (x := v) (i - L.off).toNat (h6.sl.ex e1) rfl rfl (by simp [ones, hv]) fun _ => ?_
        refine cl_fn (k128 (hpe.ex e1) ⟨.refl _ _ _, ?_⟩)
        exact h' w1 _ e e1 z1 (by omega) he

theorem k148 {base lb : Nat} {L : Lg} {e : En} {r : List En} {i : Int} (hL : LG base lb L w) (hok : L.Ok) (p : L.Pl e r) (hi : 0 ≤ i ∧ i ≤ 2000000000000000)
    (h : ∀ w', Up (fun x => x = L.sb) [227] w w' → w'.heap.size = w.heap.size → LG base lb L w' → (∀ v, L.at e r i = none → K (.tuple #[.int .u64 0, .iface 226 v]) w') ∧ (∀ t, L.at e r i = some t → K (.tuple #[.int .u64 t, .nilIface]) w')) : CK Pr 148 #[.pointer (some ⟨lb, 0, none⟩), .int .u64 i] w K := by
  refine c148 ?_
  unfold t148
  have hoff := hok.off
  have hun := hok.un
  have hpo := p.off
  have hlen := hok.len
  obtain ⟨e', r', he', hei⟩ := hok.ne
  rw [p.es] at he'
  cases he'
  rw [p.es] at hlen
  simp only [List.length_cons] at hlen
  (repeat (first | (refine go ?_; intros) | (refine goK49 ?_; intros)))
  refine cl_fn (k214 hL hok p.us hi (fun w1 e1 z1 hr => ?_) (fun w1 j x e1 z1 hj hx => ?_))
  · (repeat (first | (refine go ?_; intros) | (refine goK49 ?_; intros)))
    have hL1 := hL.ex e1
    rw [wrapU (n := i + 1) (by omega) (by omega)]
    refine cl_fn (k192 hL1 hok p fun w2 u2 z2 hL2 => ?_)
    (repeat (first | (refine go ?_; intros) | (refine goK49 ?_; intros)))
    have U2 : Up (fun x => x = L.sb) [227] w w2 := (Up.of_ex e1).trans u2
    refine if_split (fun hb => ?_) (fun hb => ?_)
    · have hlt : i + 1 < e.i + 1 := of_decide_eq_true hb
      refine q_mif (by intro ms h; cases h) ?_
      refine (h w2 U2 (by omega) hL2).1 _ ?_
      unfold Lg.at
      rw [if_pos (by omega)]
    · have hlt : ¬ i + 1 < e.i + 1 := of_decide_eq_false hb
      refine cl_fn (k104 hL2 hok fun w3 u3 z3 hL3 => ?_)
      have U3 := U2.trans u3
      (repeat (first | (refine go ?_; intros) | (refine goK49 ?_; intros)))
      rw [p.last]
      refine if_split (fun hb => ?_) (fun hb => ?_)
      · have hgt : e.i + r.length + L.un.length < i := of_decide_eq_true hb
        refine q_mif (by intro ms h; cases h) ?_
        refine (h w3 U3 (by omega) hL3).1 _ ?_
        unfold Lg.at
        rw [if_neg (by omega), List.getElem?_eq_none (by simp; omega)]
        rfl
      · have hgt : ¬ e.i + r.length + L.un.length < i := of_decide_eq_false hb
        have hlo : i < L.off := by rcases hr with hr | hr <;> omega
        have hL3' := hL3
        obtain ⟨lim, vs, ve, ps, h1, h2, h3, h4, h5, h6, h7, h8, h9, h10⟩ := hL3'
        have hj : (i - e.i).toNat < (e :: r).length := by simp; omega
        obtain ⟨x, hx⟩ : ∃ x, (e :: r)[(i - e.i).toNat]? = some x := ⟨_, List.getElem?_eq_getElem hj⟩
        (repeat (first | (refine go ?_; intros) | (refine goK49 ?_; intros)))
        refine cl_m (k354 (x := x) (j := (i - e.i).toNat) (p.es ▸ h2) hei (by omega) (by omega) hx fun w4 u4 z4 m4 => ?_)
        (repeat (first | (refine go ?_; intros) | (refine goK49 ?_; intros)))
        have hL4 : LG base lb L w4 := ⟨lim, vs, ve, ps, u4.at_ h1 rfl, by rw [p.es]; exact m4, h3, by omega, h5.mt rfl u4, h6.up u4 fun _ _ => .inl rfl, h7.mt rfl u4, h8, h9, by omega⟩
        refine (h w4 (U3.trans u4) (by omega) hL4).2 _ ?_
        unfold Lg.at
        rw [if_neg (by omega), List.getElem?_append_left hj, hx]
        rfl
  · (repeat (first | (refine go ?_; intros) | (refine goK49 ?_; intros)))
    refine (h w1 (.of_ex e1) z1 (hL.ex e1)).2 _ ?_
    unfold Lg.at
    have hje : (i - e.i).toNat = (e :: r).length + j := by simp; omega
    rw [if_neg (by omega), hje, List.getElem?_append_right (by omega), Nat.add_sub_cancel_left, hx]
    rfl

theorem k100 {base lb : Nat} {L : Lg} {e : En} {r : List En} {i t : Int} (hL : LG base lb L w) (hok : L.Ok) (p : L.Pl e r) (hi : 0 ≤ i ∧ i ≤ 2000000000000000)
    (h : ∀ w', Up (fun x => x = L.sb) [227] w w' → LG base lb L w' → K (.bool (decide (L.at e r i = some t))) w') : CK Pr 100 #[.pointer (some ⟨lb, 0, none⟩), .agg #[.int .u64 t, .int .u64 i]] w K := by
  refine c100 ?_
  unfold t100
  refine e_boxA fun b1 w1 e1 hb1 s1 s2 => ?_
  (repeat (first | (refine go ?_; intros) | (refine goK49 ?_; intros)))
  refine cl_fn (k148 (hL.ex e1) hok p hi fun w2 u2 z2 hL2 => ⟨fun v hn => ?_, fun t' hs => ?_⟩)
  · have := h w2 ((Up.of_ex e1).trans u2) hL2
    rw [hn] at this
    (repeat (first | (refine go ?_; intros) | (refine goK49 ?_; intros)))
    exact this
  · have := h w2 ((Up.of_ex e1).trans u2) hL2
    rw [hs] at this
    have hb2 := u2.at_ hb1 rfl
    (repeat (first | (refine go ?_; intros) | (refine goK49 ?_; intros)))
    have e2 : (t' == t) = decide ((some t' : Option Int) = some t) := by
      by_cases hh : t' = t <;> simp [hh]
    rw [e2]
    exact this

theorem k101 {base lb : Nat} {L : Lg} {i : Int} (hL : LG base lb L w) (hok : L.Ok) (hi : i ≤ L.last)
    (h : ∀ w', Up (fun x => x = L.sb ∨ x = lb) [227, 198] w w' → LG base lb { L with cm := if L.cm < i then i else L.cm } w' → K (.tuple #[]) w') : CK Pr 101 #[.pointer (some ⟨lb, 0, none⟩), .int .u64 i] w K := by
  refine c101 ?_
  unfold t101
  unfold Jo
  have hL' := hL
  obtain ⟨lim, vs, ve, ps, h1, h2, h3, h4, h5, h6, h7, h8, h9, h10⟩ := hL'
  (repeat (first | (refine go ?_; intros) | (refine goK49 ?_; intros)))
  by_cases hc : L.cm < i
  · rw [decide_eq_true hc]
    (repeat (first | (refine go ?_; intros) | (refine goK49 ?_; intros)))
    refine cl_fn (k104 hL hok fun w1 u1 z1 hL1 => ?_)
    obtain ⟨lim, vs, ve, ps, h1, h2, h3, h4, h5, h6, h7, h8, h9, h10⟩ := hL1
    (repeat (first | (refine go ?_; intros) | (refine goK49 ?_; intros)))
    rw [decide_eq_false (show ¬ L.last < i by omega)]
    (repeat (first | (refine go ?_; intros) | (refine goK49 ?_; intros)))
    rename_i w2 u2 hb2 z2
    refine h w2 ((u1.mono (fun _ _ h => .inl h) (fun k hk => by simp at hk; simp [hk])).trans (u2.mono (fun _ _ h => .inr h) (fun k hk => by simp at hk; simp [hk]))) ?_
    rw [if_pos hc]
    exact ⟨lim, vs, ve, ps, hb2, h2.up rfl u2 (.inl rfl) (.inl rfl), h3, by omega, h5.mt rfl u2, h6.up u2 fun _ _ => .inl rfl, h7.mt rfl u2, h8, h9, by show L.sb < _; omega⟩
  · rw [decide_eq_false hc]
    (repeat (first | (refine go ?_; intros) | (refine goK49 ?_; intros)))
    have := h w (.refl _ _ _)
    rw [if_neg hc] at this
    exact this hL

theorem k149 {base lb : Nat} {L : Lg} {v : Value} {s : Sn} (hL : LG base lb L w) (hs : PS v s w) (hi : 0 ≤ s.i ∧ s.i ≤ 1000000000000000) (hd : s.d.size ≤ 1000000) (sm : CfSm s.c)
    (h : ∀ w', Up (fun x => x = lb) [198] w w' → LG base lb { L with us := some s, un := [], off := s.i + 1, sip := false, oip := s.i + 1 } w' → K (.tuple #[]) w') : CK Pr 149 #[.pointer (some ⟨lb, 1, none⟩), v] w K := by
  refine c149 ?_
  unfold t149
  obtain ⟨lim, vs, ve, ps, h1, h2, h3, h4, h5, h6, h7, h8, h9, h10⟩ := hL
  refine cl_fn (k95 hs fun vm hvm => ?_)
  refine cl_fn (k96 hvm ?_)
  (repeat (first | (refine go ?_; intros) | (refine goK49 ?_; intros)))
  rename_i w1 u1 hb1 z1 w2 u2 hb2 z2 w3 u3 hb3 z3
  have U3 : Up (fun x => x = lb) [198] w w3 := (u1.trans u2).trans u3
  rw [wrapU (n := s.i + 1) (by omega) (by omega)] at hb3
  clear hb1 hb2 h1
  refine cl_fn (k122 (hs.mt rfl U3) hd sm fun v4 w4 e4 hs4 => ?_)
  have hb4 := e4.at_ hb3
  have hv4 := hs4.one
  clear hb3
  (repeat (first | (refine go ?_; intros) | (refine goK49 ?_; intros)))
  rename_i w5 u5 hb5 z5 w6 u6 hb6 z6
  have U56 : Up (fun x => x = lb) [198] w4 w6 := u5.trans u6
  have U : Up (fun x => x = lb) [198] w w6 := (U3.ex e4).trans U56
  have zz4 := e4.size
  refine h w6 U ⟨lim, v4, .slice none 0 0, [], hb6, h2.up rfl U (.inl rfl) (.inl rfl), h3, by omega, hs4.mt rfl U56, Own.nil _ _ _ _, .nil _, h8, h9, by show L.sb < _; omega⟩

theorem k102 {base lb : Nat} {L : Lg} {v : Value} {s : Sn} (hL : LG base lb L w) (hs : PS v s w) (hi : 0 ≤ s.i ∧ s.i ≤ 1000000000000000) (hd : s.d.size ≤ 1000000) (sm : CfSm s.c)
    (h : ∀ w', Up (fun x => x = lb) [198] w w' → LG base lb { L with us := some s, un := [], off := s.i + 1, sip := false, oip := s.i + 1, cm := s.i } w' → K (.tuple #[]) w') : CK Pr 102 #[.pointer (some ⟨lb, 0, none⟩), v] w K := by
  refine c102 ?_
  unfold t102
  obtain ⟨lim, vs, ve, ps, h1, h2, h3, h4, h5, h6, h7, h8, h9, h10⟩ := hL
  refine cl_fn (k95 hs fun vm hvm => ?_)
  refine cl_fn (k96 hvm ?_)
  (repeat (first | (refine go ?_; intros) | (refine goK49 ?_; intros)))
  rename_i w1 u1 hb1 z1
  have hL1 : LG base lb { L with cm := s.i } w1 := ⟨lim, vs, ve, ps, hb1, h2.up rfl u1 (.inl rfl) (.inl rfl), h3, by omega, h5.mt rfl u1, h6.up u1 fun _ _ => .inl rfl, h7.mt rfl u1, h8, h9, by show L.sb < _; omega⟩
  refine cl_fn (k149 hL1 (hs.mt rfl u1) hi hd sm fun w2 u2 hL2 => ?_)
  exact h w2 (u1.trans u2) hL2

end Go.Proofs.YtmmpogfbhelioaaGreat
/-
  A rule for the keys of a map in any order; contracts: configurations copied, and their parts.
  Conditions: each one's own.
-/
namespace Go.Proofs.YtmmpogfbhelioaaGreat
set_option maxRecDepth 10000
set_option linter.unusedVariables false
set_option linter.unusedSimpArgs false
set_option linter.unusedVariables false
set_option linter.unusedSimpArgs false
attribute [local irreducible] Instr.box Instr.alloc Instr.loadAt Instr.storeAt Instr.fieldAt Instr.indexAt Instr.build Instr.buildSlice Instr.makeSlice Instr.makeMap Instr.mapUpdate Instr.lookup Instr.range Instr.next Instr.entry Instr.extract Instr.makeInterface Instr.makeFunc Instr.sliceAt Instr.typeAssert Instr.field Instr.index Builtin.len_ Builtin.cap_ Builtin.max_ Builtin.min_ Builtin.append_ Builtin.copy_ Builtin.delete_ convert binS pickS nilS callV callM Op.unary Own Mp It Cu


section
variable {P : Program} {w : World}

/-- A loop over a map's keys: I is kept; done: what was visited. -/
theorem e_for {t kt et : TypeId} [hm : TUn P t (.map kt et)] {o : Option Nat} {l : KV} {init : List Value} {F : Value → (List Value → World → Prop) → List Value → World → Prop} (hmp : MpO w o l)
    (I : KV → List Value → World → Prop) (h0 : ∀ w', Ex w w' → w'.heap.size = w.heap.size + 1 → I [] init w')
    (hF : ∀ (v : Value) R τ w1 done, w.heap.size < w1.heap.size → I done τ w1 →
      (∀ {ty : TypeId} {KW : Value → World → Prop}, (done.Perm l → KW (.tuple #[.bool false]) w1) →
        (∀ p rest w2, (done ++ p :: rest).Perm l → p ∈ l → Up (fun x => x = w.heap.size) [1] w1 w2 → w2.heap.size = w1.heap.size →
          (∀ {K : Value → Prop}, K (.tuple #[.int .u64 p.1, p.2]) → Qu P (Is w2) (Instr.entry v) K) →
          (∀ τ' w3 C T, Up C T w2 w3 → (T.contains 1 = false ∨ ¬ C w.heap.size) → (T.contains 0 = false ∨ ∀ b, o = some b → ¬ C b) → I (done ++ [p]) τ' w3 → R τ' w3) →
          KW (.tuple #[.bool true, .int .u64 p.1, p.2]) w2) → Ef P (Instr.next v false ty) w1 KW) → F v R τ w1) :
    Ef P (Instr.range t (.map o)) w fun v w1 => LoopW init (F v) w1 := by
  cases o with
  | none =>
    cases (show l = [] from hmp)
    refine e_range0 fun w1 e1 i1 s1 => ?_
    refine loop_n (α := Unit) (fun _ τ w' => w' = w1 ∧ τ = init) (fun _ => 0) () ⟨rfl, rfl⟩ ?_
    rintro _ τ w' R ⟨rfl, rfl⟩ hR
    exact hF _ _ _ _ [] (by omega) (h0 _ e1 s1) fun hend _ => e_next0 i1 (hend (.refl _))
  | some b =>
    refine e_range hmp fun w1 e1 i1 s1 => ?_
    refine loop_n (α := KV × KV) (fun a τ w' => It w' w.heap.size b l a.1 ∧ (a.2 ++ a.1).Perm l ∧ w.heap.size < w'.heap.size ∧ I a.2 τ w') (fun a => a.1.length) (l, []) ⟨i1, .refl _, by omega, h0 _ e1 s1⟩ ?_
    rintro ⟨rem, done⟩ τ w' R ⟨hi, hp, hz, hI⟩ hR
    simp only at hi hp hz hI hR
    refine hF _ _ _ _ done hz hI fun hend hgo => ?_
    refine e_next hi (fun h0' => ?_) (fun p l1 l2 w2 hrem u2 hi2 hc hpl hz2 => ?_)
    · subst h0'
      exact hend (by simpa using hp)
    · have hrl : rem.length = l1.length + l2.length + 1 := by rw [hrem]; simp; omega
      have hp2 : (done ++ p :: (l1 ++ l2)).Perm l := by
        refine List.Perm.trans ?_ hp
        simp only [hrem]
        exact List.Perm.append_left _ List.perm_middle.symm
      refine hgo p (l1 ++ l2) w2 hp2 hpl u2 hz2 (fun k => q_entry hc k) fun τ' w3 C T u3 h1 h2 hI3 => ?_
      refine hR (l1 ++ l2, done ++ [p]) τ' w3 ⟨hi2.up u3 h1 (h2.imp id fun h => h b rfl), by simpa using hp2, by have := u3.size; show w.heap.size < _; omega, hI3⟩ (by simp; omega)

theorem q_idx {t k e n : Nat} [TArr P t k e n] [TCell P e] {S : World → Prop} {K : Value → Prop} {cs : Array Value} {i : Int} {q : IntKind} (j : Nat) {x : Value} (hi : i = j) (hj : j < k) (hx : cs[j]? = some x) (kk : K x) : Qu P S (Instr.index t (.agg cs) (.int q i)) K := by
  obtain ⟨inf, hu, hinf, hn, hn0⟩ := TArr.facts (P := P) t k e n
  obtain ⟨d, i', hd, hag, hinf', hs⟩ := TCell.facts (P := P) e
  rw [hinf] at hinf'
  cases hinf'
  subst hi
  have h1 : (0 : Int) ≤ j ∧ (j : Int) < k := by omega
  refine .mk x (fun w' _ => ?_) kk
  simp only [Instr.index, asIntOf, Sem.run_bind, Sem.run_pure, Result.andThen_ok, run_und hu, asAgg]
  rw [if_pos h1]
  simp [run_size hinf, part, run_isAgg hd, hag, hs, hx, Sem.run_bind]
end

end Go.Proofs.YtmmpogfbhelioaaGreat
/-
  Contracts: configurations copied, and their parts.
  Conditions: each one's own.
-/
namespace Go.Proofs.YtmmpogfbhelioaaGreat
set_option maxRecDepth 10000
set_option linter.unusedVariables false
set_option linter.unusedSimpArgs false
theorem nmK39 {p : Prop} (h : p := by (try simp only [List.getElem?_toArray, List.getElem?_cons_zero, List.getElem?_cons_succ, List.setIfInBounds_toArray, List.set_cons_zero, List.set_cons_succ, List.toList_toArray, List.drop_zero, List.drop_succ_cons, List.take_zero, List.take_succ_cons, Nat.zero_add, Nat.add_zero, Nat.reduceAdd, putCells, Chg, Cfg]) <;> rfl) : p := h
theorem goK39 {G H : Prop} (h : H) (s : Stp G H := by (apply Stp.of; intro hS; (first | (refine q_ld bk_ nmK39 ?_) | (refine q_ldU bk_ rfl nmK39 ?_) | (refine q_ldW bk_ (by rfl) ?_) | (refine q_ldWU bk_ rfl (by rfl) ?_) | (refine q_ldP bk_ (Nat.le_of_ble_eq_true rfl) nmK39 ?_) | (refine q_ldPU bk_ rfl (Nat.le_of_ble_eq_true rfl) nmK39 ?_) | (refine q_ext nmK39 ?_) | (refine u_st bk_ (Nat.le_of_ble_eq_true rfl) (by first | rfl | assumption) nmK39 ?_) | (refine u_stA bk_ (Nat.le_of_ble_eq_true rfl) (by rfl) (by rfl) nmK39 ?_) | (refine q_field nmK39 ?_)); exact hS.out)) : G := s.f h
set_option linter.unusedVariables false
set_option linter.unusedSimpArgs false
attribute [local irreducible] Instr.box Instr.alloc Instr.loadAt Instr.storeAt Instr.fieldAt Instr.indexAt Instr.build Instr.buildSlice Instr.makeSlice Instr.makeMap Instr.mapUpdate Instr.lookup Instr.range Instr.next Instr.entry Instr.extract Instr.makeInterface Instr.makeFunc Instr.sliceAt Instr.typeAssert Instr.field Instr.index Builtin.len_ Builtin.cap_ Builtin.max_ Builtin.min_ Builtin.append_ Builtin.copy_ Builtin.delete_ convert binS pickS nilS callV callM Op.unary Own Mp It Cu


section
variable {P : Program} {w : World} {KW : Value → World → Prop}
/-- A slice of three elements. -/
theorem e_bs3 {t e by' : Nat} [TSli P t e 1] [TElm P e 1 by'] {x y u : Value} (hx : one x = true) (hy : one y = true) (hu : one u = true)
    (k : ∀ w', Ex w w' → Own w' w.heap.size e 1 (.slice (some ⟨w.heap.size, 0, none⟩) 3 3) [[x], [y], [u]] → w'.heap.size = w.heap.size + 1 → KW (.slice (some ⟨w.heap.size, 0, none⟩) 3 3) w') :
    Ef P (Instr.buildSlice t 3 #[(0, x), (1, y), (2, u)]) w KW := by
  obtain ⟨i, z', hi, hz, his, hib, hzs, h0⟩ := TElm.facts (P := P) e 1 by'
  haveI : TZero P e z' := ⟨by rw [hi]; exact hz⟩
  have hcx := one_cells' hx
  have hcy := one_cells' hy
  have hcu := one_cells' hu
  have hf : Instr.fill (fun i => some (i * 1, 1)) ((Array.range (3 * 1)).map (z'.cells[· % z'.cells.size]!)) #[(0, x), (1, y), (2, u)].toList = some #[x, y, u] := by
    rw [show #[(0, x), (1, y), (2, u)].toList = [(0, x), (1, y), (2, u)] from rfl, fill_cons rfl (by rw [hcx]; rfl) (by simp), fill_cons rfl (by rw [hcy]; rfl) (by simp [hcx, putCells]), fill_cons rfl (by rw [hcu]; rfl) (by simp [hcx, hcy, putCells]), Instr.fill, hcx, hcy, hcu]
    simp [putCells]
    apply Array.ext
    · simp
    · intro j h1 h2
      simp at h2
      have : j = 0 ∨ j = 1 ∨ j = 2 := by omega
      rcases this with rfl | rfl | rfl <;> simp
  refine .mk _ _ (run_bs (P := P) (t := t) (e := e) (n := 1) (m := 3) (cs := #[x, y, u]) (by omega) (by omega) hf) (k _ (Up.alloc _ _) (by
    unfold Own
    refine ⟨⟨?_, .inr ⟨_, 3, #[x, y, u], rfl, Nat.le_refl _, Bk.alloc_new _ _, Nat.le_refl _, by simp [maxLen], by simp, ?_⟩⟩, ?_⟩
    · simp
    · simp
    · intro a ha
      simp at ha
      rcases ha with rfl | rfl | rfl <;> rfl) (by simp))
end

variable {K : Value → World → Prop} {w : World} {te : Option Nat}

theorem k222 {a b : Value} (h : ∀ w', Ex w w' → K a w') : CK Pr 222 #[.agg #[a, b]] w K := by
  refine c222 ?_
  unfold t222
  refine e_boxA fun b1 w1 e1 hb1 s1 s2 => ?_
  refine q_ia 0 rfl (by omega) ?_
  refine q_ld hb1 (by rfl) ?_
  exact h w1 e1
theorem k225 {a b : Value} (h : ∀ w', Ex w w' → K b w') : CK Pr 225 #[.agg #[a, b]] w K := by
  refine c225 ?_
  unfold t225
  refine e_boxA fun b1 w1 e1 hb1 s1 s2 => ?_
  refine q_ia 1 rfl (by omega) ?_
  refine q_ld hb1 (by rfl) ?_
  exact h w1 e1

theorem ms_keys (l : List Int) : (ms l).map (·.1) = l := by simp [ms, Function.comp_def]
theorem fkeys {l done rest : KV} {p : Int × Value} (hp : (done ++ p :: rest).Perm l) (hn : (l.map (·.1)).Nodup) : p.1 ∉ done.map (·.1) := by
  have h1 := (hp.map (·.1)).nodup_iff.2 hn
  rw [List.map_append, List.map_cons] at h1
  have h2 := (List.nodup_append.1 h1).2.2
  intro hx
  exact h2 _ hx _ (List.mem_cons_self ..) rfl
theorem ms_mem {l : List Int} {p : Int × Value} (h : p ∈ ms l) : p.1 ∈ l ∧ p.2 = .agg #[] := by
  obtain ⟨x, hx, rfl⟩ := List.mem_map.1 h
  exact ⟨hx, rfl⟩

theorem k316 {o : Option Nat} {l : List Int} (hm : MpO w o (ms l)) (hn : l.Nodup) (hl : l.length ≤ 1000) (h : ∀ o' l' w', Ex w w' → o'.isNone = o.isNone → (∀ b, o' = some b → w.heap.size ≤ b) → l'.Perm l → MpO w' o' (ms l') → K (.map o') w') : CK Pr 316 #[.map o] w K := by
  refine c316 ?_
  unfold t316
  cases o with
  | none =>
    (repeat (first | (refine go ?_; intros) | (refine goK39 ?_; intros)))
    exact h none l _ (.refl _ _ _) rfl (by intro b hb; cases hb) (.refl _) hm
  | some b =>
    (repeat (first | (refine go ?_; intros) | (refine goK39 ?_; intros)))
    refine q_lenM (b := b) (l := ms l) (fun w' hw => by cases hw; exact hm) ?_
    refine e_mkmap (by intro v hv; cases hv; exact ⟨_, _, rfl⟩) fun w1 e1 m1 s1 => ?_
    have hm' : MpO w1 (some b) (ms l) := MpO.ex e1 hm
    have hbl : b < w.heap.size := Mp.lt (show Mp w b (ms l) from hm)
    refine e_for hm' (fun done τ w' => Ex w w' ∧ Mp w' w.heap.size (ms (done.map (·.1)))) (fun w2 e2 z2 => ⟨e1.trans e2, m1.ex e2⟩) ?_
    rintro v R τ w2 done hz ⟨ex, hmp⟩ nx
    refine nx (fun hperm => ?_) fun p rest w3 hp hpl u3 z3 en fwd => ?_
    · (refine q_ext (x := .bool false) rfl ?_; refine if_f ?_)
      have hpk : (done.map (fun x : Int × Value => x.1)).Perm l := by
        have := hperm.map (fun x : Int × Value => x.1)
        rw [ms_keys] at this
        exact this
      exact h (some w.heap.size) _ w2 ex rfl (by intro b hb; cases hb; exact Nat.le_refl _) hpk hmp
    · (refine q_ext (x := .bool true) rfl ?_; refine if_t ?_)
      refine en ?_
      (repeat (first | (refine go ?_; intros) | (refine goK39 ?_; intros) | refine b156_  ?_))
      have hmp3 : Mp w3 w.heap.size (ms (done.map (·.1))) := hmp.up u3 (.inl rfl)
      refine u_put hmp3 fun w4 u4 m4 z4 => ?_
      have hnx := fkeys hp (by rw [ms_keys]; exact hn)
      rw [put_ms hnx] at m4
      refine fwd _ w4 (fun x => x = w.heap.size) [0] u4 (.inl rfl) (.inr fun b' hb' => by cases hb'; omega) ⟨(ex.new u3 (by intro x hx; omega)).new u4 (by intro x hx; omega), ?_⟩
      rw [List.map_append]
      exact m4

/-- A configuration that is not joint, as a value. -/
def Cfg (vb : Nat) (lm : Option Nat) : Array Value := #[.map (some vb), .map none, .bool false, .map lm, .map none]
/-- A changer. -/
def Chg (vb : Nat) (lm : Option Nat) (pm vt : Nat) (mi mb li : Int) : Array Value := #[.map (some vb), .map none, .bool false, .map lm, .map none, .map (some pm), .map (some vt), .int .i64 mi, .int .u64 mb, .int .u64 li]

/-- Members and their progress, in maps. -/
structure CG (base vb : Nat) (lm : Option Nat) (pm : Nat) (xs ys : List Int) (ps : Ps) (w : World) : Prop where
  vo : Mp w vb (ms xs)
  le : MpO w lm (ms ys)
  pr : Prs base pm ps w
  keys : (ps.map (·.1)).Perm (xs ++ ys)
  nd : (xs ++ ys).Nodup
  lea : ∀ x ∈ ps, x.2.2.le = decide (x.1 ∈ ys)
  lx : xs.length ≤ 9
  ly : ys.length ≤ 4
theorem CG.ex {base vb : Nat} {lm : Option Nat} {pm : Nat} {xs ys : List Int} {ps : Ps} {w' : World} (e : Ex w w') (h : CG base vb lm pm xs ys ps w) : CG base vb lm pm xs ys ps w' :=
  ⟨h.vo.ex e, h.le.ex e, h.pr.ex e, h.keys, h.nd, h.lea, h.lx, h.ly⟩
theorem CG.ndx {base vb : Nat} {lm : Option Nat} {pm : Nat} {xs ys : List Int} {ps : Ps} (h : CG base vb lm pm xs ys ps w) : xs.Nodup := (List.nodup_append.1 h.nd).1
theorem CG.ndy {base vb : Nat} {lm : Option Nat} {pm : Nat} {xs ys : List Int} {ps : Ps} (h : CG base vb lm pm xs ys ps w) : ys.Nodup := (List.nodup_append.1 h.nd).2.1

theorem k280 {base vb : Nat} {lm : Option Nat} {pm : Nat} {xs ys : List Int} {ps : Ps} {cb vt : Nat} {mi mb li : Int} (hc : CG base vb lm pm xs ys ps w) (hb : Bk w cb (.cells (Chg vb lm pm vt mi mb li) 209 (0, 0)))
    (h : ∀ vb' lm' xs' ys' w', Ex w w' → w.heap.size ≤ vb' → (∀ b, lm' = some b → vb' < b) → xs'.Perm xs → ys'.Perm ys → Mp w' vb' (ms xs') → MpO w' lm' (ms ys') → K (.agg (Cfg vb' lm')) w') : CK Pr 280 #[.pointer (some ⟨cb, 0, none⟩)] w K := by
  refine c280 ?_
  unfold t280
  refine e_allocA fun nb w1 e1 hnb s1 s2 => ?_
  refine dr_rule (fun x => x = nb) [138] fun w2 e2 z2 => ?_
  have hb2 := e2.at_ (e1.at_ hb)
  have c2 := (hc.ex e1).ex e2
  (repeat (first | (refine go ?_; intros) | (refine goK39 ?_; intros)))
  refine q_ia 0 rfl (by omega) ?_
  (repeat (first | (refine go ?_; intros) | (refine goK39 ?_; intros)))
  refine cl_fn (k316 (o := some vb) c2.vo c2.ndx (by have := c2.lx; omega) fun o3 xs3 w3 e3 i3 b3 p3 m3 => ⟨.of_ex e3, ?_⟩)
  have hb3 := e3.at_ hb2
  (repeat (first | (refine go ?_; intros) | (refine goK39 ?_; intros)))
  refine q_ia 1 rfl (by omega) ?_
  (repeat (first | (refine go ?_; intros) | (refine goK39 ?_; intros)))
  refine cl_fn (k316 (o := none) (l := []) rfl .nil (by simp) fun o4 l4 w4 e4 i4 b4 p4 m4 => ⟨(Up.of_ex e3).ex e4, ?_⟩)
  have hb4 := e4.at_ hb3
  cases o4 with
  | some x => cases i4
  | none =>
  refine b134_0_1 rfl rfl ?_
  (repeat (first | (refine go ?_; intros) | (refine goK39 ?_; intros)))
  refine cl_fn (k316 (((c2.le.ex e3).ex e4)) c2.ndy (by have := c2.ly; omega) fun o5 ys5 w5 e5 i5 b5 p5 m5 => ⟨((Up.of_ex e3).ex e4).ex e5, ?_⟩)
  have hb5 := e5.at_ hb4
  (repeat (first | (refine go ?_; intros) | (refine goK39 ?_; intros)))
  refine cl_fn (k316 (o := none) (l := []) rfl .nil (by simp) fun o6 l6 w6 e6 i6 b6 p6 m6 => ⟨(((Up.of_ex e3).ex e4).ex e5).ex e6, ?_⟩)
  cases o6 with
  | some x => cases i6
  | none =>
  cases o3 with
  | none => cases i3
  | some vb3 =>
  refine b136_0_2_3 rfl rfl ?_
  have E : Ex w2 w6 := ((e3.trans e4).trans e5).trans e6
  have hnb6 := E.at_ (e2.at_ hnb)
  refine u_stA hnb6 (Nat.le_of_ble_eq_true rfl) (by rfl) (by rfl) nmK39 fun w7 u7 hb7 z7 => ⟨(Up.of_ex E).trans u7, ?_⟩
  refine q_ldW hb7 (by rfl) ?_
  have zz1 := e1.size
  have zz2 := e2.size
  have zz3 := e3.size
  have zz4 := e4.size
  refine h vb3 o5 xs3 ys5 w7 (((e1.trans e2).trans E).new u7 (by intro x hx; omega)) (by have := b3 vb3 rfl; omega) (fun b hb => by have := b5 b hb; have := Mp.lt (show Mp w3 vb3 _ from m3); omega) p3 p5 (((((show Mp w3 vb3 _ from m3).ex e4).ex e5).ex e6).up u7 (.inl rfl)) ((m5.ex e6).up u7 (.inl rfl))

theorem k218 {vb : Nat} {lm : Option Nat} (h : ∀ w', Ex w w' → K (.bool false) w') : CK Pr 218 #[.agg (Cfg vb lm)] w K := by
  refine c218 ?_
  unfold t218
  unfold Cfg
  refine e_boxA fun b1 w1 e1 hb1 s1 s2 => ?_
  (repeat (first | (refine go ?_; intros) | (refine goK39 ?_; intros)))
  refine cl_fn (k225 fun w2 e2 => ?_)
  refine q_lenM0 ?_
  (repeat (first | (refine go ?_; intros) | (refine goK39 ?_; intros)))
  exact h w2 (e1.trans e2)

theorem k165 {vb : Nat} {xs : List Int} (hm : Mp w vb (ms xs)) (hn : xs.Nodup) (h : ∀ nb zs w', Ex w w' → w.heap.size ≤ nb → zs.Perm xs → Mp w' nb (ms zs) → K (.map (some nb)) w') : CK Pr 165 #[.agg #[.map (some vb), .map none]] w K := by
  refine c165 ?_
  unfold t165
  refine e_boxA fun b1 w1 e1 hb1 s1 s2 => ?_
  refine e_mkmap (by intro v hv; cases hv) fun w2 e2 m2 s3 => ?_
  have hb2 := e2.at_ hb1
  have hbl := hm.lt
  refine q_ldW hb2 (by rfl) ?_
  have zz1 := e1.size
  refine loop_n (α := Nat × List Int) (fun a τ w' => g τ 2 = .int .i64 (a.1 : Nat) ∧ a.1 ≤ 2 ∧ Ex w w' ∧ Mp w' w1.heap.size (ms a.2) ∧ (if a.1 = 0 then a.2 = [] else a.2.Perm xs)) (fun a => 2 - a.1) (0, []) ⟨rfl, by omega, e1.trans e2, m2, rfl⟩ ?_
  rintro ⟨j, zs⟩ τ w' R ⟨hj, hle, ex, hmp, hz⟩ hR
  simp only at hj hle hmp hz hR
  rw [hj]
  (repeat (first | (refine go ?_; intros) | (refine goK39 ?_; intros)))
  have hj2 : j = 0 ∨ j = 1 ∨ j = 2 := by omega
  have zx := ex.size
  rcases hj2 with rfl | rfl | rfl
  · (repeat (first | (refine go ?_; intros) | (refine goK39 ?_; intros)))
    refine q_idx 0 rfl (by omega) rfl ?_
    have hmv : MpO w' (some vb) (ms xs) := hm.ex ex
    have hz : zs = [] := hz
    subst hz
    refine e_for hmv (fun done τ w3 => Ex w w3 ∧ Mp w3 w1.heap.size (ms (done.map (fun x : Int × Value => x.1)))) (fun w3 e3 z3 => ⟨ex.trans e3, hmp.ex e3⟩) ?_
    rintro v Rr τ' w3 done hz3 ⟨ex3, hm3⟩ nx
    refine nx (fun hperm => ?_) fun p rest w4 hp hpl u4 z4 en fwd => ?_
    · (refine q_ext (x := .bool false) rfl ?_; refine if_f ?_)
      (repeat (first | (refine go ?_; intros) | (refine goK39 ?_; intros)))
      have hpk : (done.map (fun x : Int × Value => x.1)).Perm xs := by
        have := hperm.map (fun x : Int × Value => x.1)
        rw [ms_keys] at this
        exact this
      exact hR (1, done.map (fun x : Int × Value => x.1)) _ _ ⟨rfl, by simp, ex3, hm3, by rw [if_neg (by simp)]; exact hpk⟩ (by simp)
    · (refine q_ext (x := .bool true) rfl ?_; refine if_t ?_)
      refine en ?_
      (repeat (first | (refine go ?_; intros) | (refine goK39 ?_; intros) | refine b156_  ?_))
      refine u_put (hm3.up u4 (.inl rfl)) fun w5 u5 m5 z5 => ?_
      rw [put_ms (fkeys hp (by rw [ms_keys]; exact hn))] at m5
      refine fwd _ w5 (fun x => x = w1.heap.size) [0] u5 (.inl rfl) (.inr fun b' hb' => by cases hb'; omega) ⟨(ex3.new u4 (by intro x hx; omega)).new u5 (by intro x hx; omega), ?_⟩
      rw [List.map_append]
      exact m5
  · (repeat (first | (refine go ?_; intros) | (refine goK39 ?_; intros)))
    refine q_idx 1 rfl (by omega) rfl ?_
    refine e_for (o := none) (l := []) rfl (fun done τ w3 => Ex w w3 ∧ Mp w3 w1.heap.size (ms zs)) (fun w3 e3 z3 => ⟨ex.trans e3, hmp.ex e3⟩) ?_
    rintro v Rr τ' w3 done hz3 ⟨ex3, hm3⟩ nx
    refine nx (fun hperm => ?_) fun p rest w4 hp hpl u4 z4 en fwd => (by cases hpl)
    (refine q_ext (x := .bool false) rfl ?_; refine if_f ?_)
    (repeat (first | (refine go ?_; intros) | (refine goK39 ?_; intros)))
    have hz1 : zs.Perm xs := hz
    exact hR (2, zs) _ _ ⟨rfl, by simp, ex3, hm3, by rw [if_neg (by simp)]; exact hz1⟩ (by simp)
  · (repeat (first | (refine go ?_; intros) | (refine goK39 ?_; intros)))
    have hz1 : zs.Perm xs := hz
    exact h _ zs w' ex (by omega) hz1 hmp

end Go.Proofs.YtmmpogfbhelioaaGreat
/-
  Contracts: a configuration and its progress are checked, and copied.
  Conditions: they are in order.
-/
namespace Go.Proofs.YtmmpogfbhelioaaGreat
set_option maxRecDepth 10000
set_option linter.unusedVariables false
set_option linter.unusedSimpArgs false
theorem nmK40 {p : Prop} (h : p := by (try simp only [List.getElem?_toArray, List.getElem?_cons_zero, List.getElem?_cons_succ, List.setIfInBounds_toArray, List.set_cons_zero, List.set_cons_succ, List.toList_toArray, List.drop_zero, List.drop_succ_cons, List.take_zero, List.take_succ_cons, Nat.zero_add, Nat.add_zero, Nat.reduceAdd, putCells, Cfg, Chg, Pg.cells]) <;> rfl) : p := h
theorem goK40 {G H : Prop} (h : H) (s : Stp G H := by (apply Stp.of; intro hS; (first | (refine q_ld bk_ nmK40 ?_) | (refine q_ldU bk_ rfl nmK40 ?_) | (refine q_ldW bk_ (by rfl) ?_) | (refine q_ldWU bk_ rfl (by rfl) ?_) | (refine q_ldP bk_ (Nat.le_of_ble_eq_true rfl) nmK40 ?_) | (refine q_ldPU bk_ rfl (Nat.le_of_ble_eq_true rfl) nmK40 ?_) | (refine q_ext nmK40 ?_) | (refine u_st bk_ (Nat.le_of_ble_eq_true rfl) (by first | rfl | assumption) nmK40 ?_) | (refine u_stA bk_ (Nat.le_of_ble_eq_true rfl) (by rfl) (by rfl) nmK40 ?_) | (refine q_field nmK40 ?_)); exact hS.out)) : G := s.f h
set_option linter.unusedVariables false
set_option linter.unusedSimpArgs false
attribute [local irreducible] Instr.box Instr.alloc Instr.loadAt Instr.storeAt Instr.fieldAt Instr.indexAt Instr.build Instr.buildSlice Instr.makeSlice Instr.makeMap Instr.mapUpdate Instr.lookup Instr.range Instr.next Instr.entry Instr.extract Instr.makeInterface Instr.makeFunc Instr.sliceAt Instr.typeAssert Instr.field Instr.index Builtin.len_ Builtin.cap_ Builtin.max_ Builtin.min_ Builtin.append_ Builtin.copy_ Builtin.delete_ convert binS pickS nilS callV callM Op.unary Own Mp It Cu


variable {K : Value → World → Prop} {w : World} {te : Option Nat}

theorem k286 {base vb : Nat} {lm : Option Nat} {pm : Nat} {xs ys : List Int} {ps : Ps} (c : CG base vb lm pm xs ys ps w) (h : ∀ w', Ex w w' → K .nilIface w') : CK Pr 286 #[.agg (Cfg vb lm), .map (some pm)] w K := by
  refine c286 ?_
  unfold t286
  unfold Cfg
  refine e_boxA fun b1 w1 e1 hb1 s1 s2 => ?_
  refine dr_rule No [] fun w2 e2 z2 => ?_
  have hb2 := e2.at_ hb1
  have c2 := (c.ex e1).ex e2
  (repeat (first | (refine go ?_; intros) | (refine goK40 ?_; intros)))
  refine cl_fn (k165 c2.vo c2.ndx fun nb zs w3 e3 hnb hzs m3 => ⟨e3, ?_⟩)
  have hb3 := e3.at_ hb2
  (repeat (first | (refine go ?_; intros) | (refine goK40 ?_; intros)))
  refine e_bs3 rfl rfl rfl fun w4 e4 o4 z4 => ⟨e3.trans e4, ?_⟩
  refine q_lenSl o4.sl ?_
  have c4 := (c2.ex e3).ex e4
  have hb4 := e4.at_ hb3
  have m4 := m3.ex e4
  have E4 : Ex w w4 := ((e1.trans e2).trans e3).trans e4
  clear hb1 hb2 hb3
  refine loop_n (α := Nat) (fun j τ w' => g τ 5 = .int .i64 j ∧ j ≤ 3 ∧ Ex w4 w') (fun j => 3 - j) 0 ⟨rfl, by omega, .refl _ _ _⟩ ?_
  rintro j τ w' R ⟨hj, hle, ex⟩ hR
  rw [hj]
  (repeat (first | (refine go ?_; intros) | (refine goK40 ?_; intros)))
  refine if_split (fun hb => ?_) (fun hb => ?_)
  · have hj3 : j < 3 := by
      have := of_decide_eq_true hb
      simp at this
      omega
    obtain ⟨o, l, hx, hmo, hin⟩ : ∃ o l, [[Value.map (some nb)], [.map lm], [.map none]][j]? = some [.map o] ∧ MpO w' o (ms l) ∧ ∀ x ∈ l, x ∈ ps.map (·.1) := by
      have hj2 : j = 0 ∨ j = 1 ∨ j = 2 := by omega
      rcases hj2 with rfl | rfl | rfl
      · exact ⟨some nb, zs, rfl, m4.ex ex, fun x hx => c.keys.mem_iff.2 (List.mem_append_left _ (hzs.mem_iff.1 hx))⟩
      · exact ⟨lm, ys, rfl, c4.le.ex ex, fun x hx => c.keys.mem_iff.2 (List.mem_append_right _ hx)⟩
      · exact ⟨none, [], rfl, rfl, fun x hx => (by cases hx)⟩
    refine q_ixs (x := .map o) j (o4.sl.ex ex) rfl hx fun _ => ?_
    refine e_for hmo (fun done τ w3 => Ex w4 w3) (fun w3 e3 z3 => ex.trans e3) ?_
    rintro v Rr τ' w5 done hz ex5 nx
    have zx := ex.size
    refine nx (fun hperm => ?_) fun p rest w6 hp hpl u6 z6 en fwd => ?_
    · (refine q_ext (x := .bool false) rfl ?_; refine if_f ?_)
      (repeat (first | (refine go ?_; intros) | (refine goK40 ?_; intros)))
      rw [wrapS (by omega)]
      exact hR (j + 1) _ _ ⟨rfl, by omega, ex5⟩ (by omega)
    · (refine q_ext (x := .bool true) rfl ?_; refine if_t ?_)
      refine en ?_
      (repeat (first | (refine go ?_; intros) | (refine goK40 ?_; intros)))
      have ex6 : Ex w4 w6 := ex5.new u6 (by intro x hx; omega)
      refine q_look (l := kvP ps) (c4.ex ex6).pr.mp ?_
      obtain ⟨y, hy⟩ := lk_mem (l := kvP ps) (x := p.1) (by rw [kvP_keys]; exact hin _ (ms_mem hpl).1)
      rw [hy]
      simp only [↓reduceIte, Option.getD_some, Option.isSome_some]
      (repeat (first | (refine go ?_; intros) | (refine goK40 ?_; intros)))
      exact fwd _ w6 No [] (.refl _ _ _) (.inl rfl) (.inl rfl) ex6
  · unfold t286_2
    have hbw := ex.at_ hb4
    (repeat (first | (refine go ?_; intros) | (refine goK40 ?_; intros)))
    refine e_for (o := none) (l := []) rfl (fun done τ w3 => Ex w4 w3) (fun w3 e3 z3 => ex.trans e3) ?_
    rintro v Rr τ' w5 done hz ex5 nx
    refine nx (fun hperm => ?_) fun p rest w6 hp hpl u6 z6 en fwd => (by cases hpl)
    (refine q_ext (x := .bool false) rfl ?_; refine if_f ?_)
    unfold t286_1
    have hb5 := ex5.at_ hb4
    (repeat (first | (refine go ?_; intros) | (refine goK40 ?_; intros)))
    have zx := ex5.size
    refine e_for (c4.ex ex5).le (fun done τ w3 => Ex w4 w3) (fun w3 e3 z3 => ex5.trans e3) ?_
    rintro v2 Rr2 τ2 w6 done2 hz2 ex6 nx2
    refine nx2 (fun hperm => ?_) fun p rest w7 hp hpl u7 z7 en fwd => ?_
    · (refine q_ext (x := .bool false) rfl ?_; refine if_f ?_)
      have hb6 := ex6.at_ hb4
      (repeat (first | (refine go ?_; intros) | (refine goK40 ?_; intros)))
      refine cl_fn (k218 (vb := vb) (lm := lm) fun w8 e8 => ?_)
      have hb8 := e8.at_ hb6
      unfold Jo
      (repeat (first | (refine go ?_; intros) | (refine goK40 ?_; intros)))
      refine cl_fn (k225 fun w9 e9 => ?_)
      have hb9 := e9.at_ hb8
      (repeat (first | (refine go ?_; intros) | (refine goK40 ?_; intros)))
      exact h w9 (((E4.trans ex6).trans e8).trans e9)
    · (refine q_ext (x := .bool true) rfl ?_; refine if_t ?_)
      refine en ?_
      have ex7 : Ex w4 w7 := ex6.new u7 (by intro x hx; omega)
      have hb7 := ex7.at_ hb4
      have hpy := (ms_mem hpl).1
      have hpx : p.1 ∉ xs := fun hx => (List.nodup_append.1 c.nd).2.2 _ hx _ hpy rfl
      (repeat (first | (refine go ?_; intros) | (refine goK40 ?_; intros)))
      refine cl_fn (k225 fun w8 e8 => ?_)
      refine q_look0 ?_
      (repeat (first | (refine go ?_; intros) | (refine goK40 ?_; intros)))
      rename_i ba w9 e9 hba sa sb w10 u10 hba2 z10
      have zz7 := ex7.size
      have zz8 := e8.size
      have ex10 : Ex w7 w10 := (e8.trans e9).new u10 (by intro x hx; omega)
      have hb10 := ex10.at_ hb7
      clear hba hba2
      (repeat (first | (refine go ?_; intros) | (refine goK40 ?_; intros)))
      refine cl_fn (k222 fun w11 e11 => ?_)
      have c11 := (c4.ex ex7).ex (ex10.trans e11)
      refine q_look (l := ms xs) c11.vo ?_
      rw [lk_ms, if_neg hpx]
      (repeat (first | (refine go ?_; intros) | (refine goK40 ?_; intros)))
      rename_i bb w12 e12 hbb sc sd w13 u13 hbb2 z13
      have zz11 := e11.size
      have zz10 := ex10.size
      have ex13 : Ex w7 w13 := ((ex10.trans e11).trans e12).new u13 (by intro x hx; omega)
      have c13 := (c4.ex ex7).ex ex13
      refine q_look (l := kvP ps) c13.pr.mp ?_
      obtain ⟨y, hy⟩ := lk_mem (l := kvP ps) (x := p.1) (by rw [kvP_keys]; exact c.keys.mem_iff.2 (List.mem_append_right _ hpy))
      rw [hy]
      obtain ⟨z, hz, hz1, rfl⟩ := lk_kvP hy
      obtain ⟨p0, ib, hib, hpb, hinf⟩ := c13.pr.pg z hz
      (repeat (first | (refine go ?_; intros) | (refine goK40 ?_; intros)))
      rw [c.lea z hz, hz1, decide_eq_true hpy]
      (repeat (first | (refine go ?_; intros) | (refine goK40 ?_; intros)))
      exact fwd _ w13 (fun x => x = bb) [158] (((Up.of_ex ex10).trans (Up.of_ex e11)).trans (Up.of_ex e12) |>.trans (u13.mono (fun _ _ h => h) (fun k hk => by simp at hk; simp [hk]))) (.inl rfl) (.inl rfl) (ex7.trans ex13)

theorem k223 {base vb : Nat} {lm : Option Nat} {pm : Nat} {xs ys : List Int} {ps : Ps} (c : CG base vb lm pm xs ys ps w) (h : ∀ w', Ex w w' → K (.tuple #[.agg (Cfg vb lm), .map (some pm), .nilIface]) w') : CK Pr 223 #[.agg (Cfg vb lm), .map (some pm)] w K := by
  refine c223 ?_
  unfold t223
  refine e_boxA fun b1 w1 e1 hb1 s1 s2 => ?_
  refine e_allocA fun b2 w2 e2 hb2 s3 s4 => ?_
  have hb12 := e2.at_ hb1
  refine q_ldW hb12 (by rfl) ?_
  refine cl_fn (k286 ((c.ex e1).ex e2) fun w3 e3 => ?_)
  have hb13 := e3.at_ hb12
  have hb23 := e3.at_ hb2
  (repeat (first | (refine go ?_; intros) | (refine goK40 ?_; intros)))
  rename_i w4 u4 hb4 z4
  have zz1 := e1.size
  exact h w4 (((e1.trans e2).trans e3).new u4 (by intro x hx; omega))

end Go.Proofs.YtmmpogfbhelioaaGreat
/-
  Contracts: a member is added to a configuration.
  Conditions: it is none yet.
-/
namespace Go.Proofs.YtmmpogfbhelioaaGreat
set_option maxRecDepth 10000
set_option linter.unusedVariables false
set_option linter.unusedSimpArgs false
theorem nmK41 {p : Prop} (h : p := by (try simp only [List.getElem?_toArray, List.getElem?_cons_zero, List.getElem?_cons_succ, List.setIfInBounds_toArray, List.set_cons_zero, List.set_cons_succ, List.toList_toArray, List.drop_zero, List.drop_succ_cons, List.take_zero, List.take_succ_cons, Nat.zero_add, Nat.add_zero, Nat.reduceAdd, putCells, Cfg, Chg]) <;> rfl) : p := h
theorem goK41 {G H : Prop} (h : H) (s : Stp G H := by (apply Stp.of; intro hS; (first | (refine q_ld bk_ nmK41 ?_) | (refine q_ldU bk_ rfl nmK41 ?_) | (refine q_ldW bk_ (by rfl) ?_) | (refine q_ldWU bk_ rfl (by rfl) ?_) | (refine q_ldP bk_ (Nat.le_of_ble_eq_true rfl) nmK41 ?_) | (refine q_ldPU bk_ rfl (Nat.le_of_ble_eq_true rfl) nmK41 ?_) | (refine q_ext nmK41 ?_) | (refine u_st bk_ (Nat.le_of_ble_eq_true rfl) (by first | rfl | assumption) nmK41 ?_) | (refine u_stA bk_ (Nat.le_of_ble_eq_true rfl) (by rfl) (by rfl) nmK41 ?_) | (refine q_field nmK41 ?_)); exact hS.out)) : G := s.f h
set_option linter.unusedVariables false
set_option linter.unusedSimpArgs false
attribute [local irreducible] Instr.box Instr.alloc Instr.loadAt Instr.storeAt Instr.fieldAt Instr.indexAt Instr.build Instr.buildSlice Instr.makeSlice Instr.makeMap Instr.mapUpdate Instr.lookup Instr.range Instr.next Instr.entry Instr.extract Instr.makeInterface Instr.makeFunc Instr.sliceAt Instr.typeAssert Instr.field Instr.index Builtin.len_ Builtin.cap_ Builtin.max_ Builtin.min_ Builtin.append_ Builtin.copy_ Builtin.delete_ convert binS pickS nilS callV callM Op.unary Own Mp It Cu


variable {K : Value → World → Prop} {w : World} {te : Option Nat}

/-- A single change in memory: its kind and its node. -/
def PCh (v : Value) (kd x : Int) (w : World) : Prop := ∃ b v1 v2, v = .pointer (some ⟨b, 0, none⟩) ∧ Bk w b (.cells #[v1, v2] 309 (0, 0)) ∧ PN1 306 .i32 v1 kd w ∧ PN1 22 .u64 v2 x w
theorem PCh.ex {v : Value} {kd x : Int} {w' : World} (e : Ex w w') (h : PCh v kd x w) : PCh v kd x w' := by
  obtain ⟨b, v1, v2, h1, h2, h3, h4⟩ := h
  exact ⟨b, v1, v2, h1, e.at_ h2, h3.ex e, h4.ex e⟩
theorem PCh.mt {v : Value} {kd x : Int} {w' : World} {C : Nat → Prop} {T : List Nat} (u : Up C T w w') (hT : (T.contains 311 || T.contains 308 || T.contains 24) = false) (h : PCh v kd x w) : PCh v kd x w' := by
  simp only [Bool.or_eq_false_iff] at hT
  obtain ⟨b, v1, v2, h1, h2, h3, h4⟩ := h
  exact ⟨b, v1, v2, h1, u.at_ h2 hT.1.1, h3.mt hT.1.2 u, h4.mt hT.2 u⟩
theorem PCh.one {v : Value} {kd x : Int} (h : PCh v kd x w) : one v = true := by
  obtain ⟨b, _, _, rfl, _⟩ := h
  rfl

theorem k281 {v : Value} {kd x : Int} (hp : PCh v kd x w) (h : K (.int .u64 x) w) : CK Pr 281 #[v] w K := by
  obtain ⟨b, v1, v2, rfl, hb, ⟨b1, rfl, h1⟩, ⟨b2, rfl, h2⟩⟩ := hp
  refine c281 ?_
  unfold t281
  (repeat (first | (refine go ?_; intros) | (refine goK41 ?_; intros)))
  exact h
theorem k282 {v : Value} {kd x : Int} (hp : PCh v kd x w) (h : K (.int .i32 kd) w) : CK Pr 282 #[v] w K := by
  obtain ⟨b, v1, v2, rfl, hb, ⟨b1, rfl, h1⟩, ⟨b2, rfl, h2⟩⟩ := hp
  refine c282 ?_
  unfold t282
  (repeat (first | (refine go ?_; intros) | (refine goK41 ?_; intros)))
  exact h

theorem k319 {cb vb : Nat} {lm : Option Nat} {ys : List Int} {x : Int} (hb : Bk w cb (.cells (Cfg vb lm) 136 (0, 0))) (hm : MpO w lm (ms ys)) (hx : x ∉ ys)
    (h : ∀ b w', Up (fun z => z = cb ∨ lm = some z ∨ w.heap.size ≤ z) [0, 138] w w' → (lm = some b ∨ (lm = none ∧ w.heap.size ≤ b)) → Bk w' cb (.cells (Cfg vb (some b)) 136 (0, 0)) → Mp w' b (ms (ys ++ [x])) → K (.tuple #[]) w') :
    CK Pr 319 #[.pointer (some ⟨cb, 3, none⟩), .int .u64 x] w K := by
  refine c319 ?_
  unfold t319
  unfold Jo
  unfold Cfg at hb
  cases lm with
  | none =>
    have hy : ys = [] := by
      have : ms ys = [] := hm
      cases ys with
      | nil => rfl
      | cons y l => cases this
    subst hy
    (repeat (first | (refine go ?_; intros) | (refine goK41 ?_; intros)))
    refine e_mkmap (by intro v hv; cases hv) fun w1 e1 m1 s1 => ?_
    have hb1 := e1.at_ hb
    clear hb
    (repeat (first | (refine go ?_; intros) | (refine goK41 ?_; intros) | refine b156_  ?_))
    rename_i w2 u2 hb2 z2
    refine u_put (m1.up u2 (.inl rfl)) fun w3 u3 m3 z3 => ?_
    refine h w.heap.size w3 (((Up.of_ex e1).trans (u2.mono (fun y _ hy => .inl hy) (fun k hk => by simp at hk; simp [hk]))).trans (u3.mono (fun y _ hy => .inr (.inr (by omega))) (fun k hk => by simp at hk; simp [hk]))) (.inr ⟨rfl, Nat.le_refl _⟩) (u3.at_ hb2 rfl) m3
  | some b =>
    (repeat (first | (refine go ?_; intros) | (refine goK41 ?_; intros) | refine b156_  ?_))
    refine u_put (show Mp w b (ms ys) from hm) fun w3 u3 m3 z3 => ?_
    rw [put_ms hx] at m3
    exact h b w3 (u3.mono (fun y _ hy => .inr (.inl (by rw [hy]))) (fun k hk => by simp at hk; simp [hk])) (.inl rfl) (u3.at_ hb rfl) m3

theorem CG.add {base vb pm b' : Nat} {lm lm' : Option Nat} {xs ys : List Int} {ps : Ps} {x : Int} {f : Bool} {q : Pg} {w' : World} (c : CG base vb lm pm xs ys ps w) (hx : x ∉ xs ++ ys) (hl : if f then ys.length + 1 ≤ 4 else xs.length + 1 ≤ 9) (hq : q.le = f)
    (vo : Mp w' vb (ms (if f then xs else xs ++ [x]))) (le : MpO w' lm' (ms (if f then ys ++ [x] else ys))) (pr : Prs base pm (putP ps x b' q) w') : CG base vb lm' pm (if f then xs else xs ++ [x]) (if f then ys ++ [x] else ys) (putP ps x b' q) w' := by
  have hxp : x ∉ ps.map (·.1) := fun h => hx (c.keys.mem_iff.1 h)
  have hk := putP_new (b := b') (q := q) hxp
  have hnd := List.nodup_append.1 c.nd
  rw [List.mem_append, not_or] at hx
  have hmem : ∀ y ∈ putP ps x b' q, y = (x, b', q) ∨ y ∈ ps := fun y hy => putP_mem hy
  have hkeys : ∀ y ∈ ps, y.1 ≠ x := fun y hy e => hxp (List.mem_map.2 ⟨y, hy, e⟩)
  cases f with
  | false =>
    refine ⟨vo, le, pr, ?_, ?_, ?_, by simpa using hl, c.ly⟩
    · rw [hk]
      simp only [Bool.false_eq_true, if_false]
      rw [List.append_assoc]
      refine (c.keys.append_right [x]).trans ?_
      rw [List.append_assoc]
      exact List.Perm.append_left _ List.perm_append_comm
    · simp only [Bool.false_eq_true, if_false]
      rw [List.append_assoc, List.nodup_append]
      refine ⟨hnd.1, ?_, ?_⟩
      · exact List.nodup_cons.2 ⟨hx.2, hnd.2.1⟩
      · intro a ha b hb
        rcases List.mem_cons.1 hb with rfl | hb
        · exact fun e => hx.1 (e ▸ ha)
        · exact hnd.2.2 a ha b hb
    · intro y hy
      simp only [Bool.false_eq_true, if_false]
      rcases hmem y hy with rfl | hy
      · rw [hq]
        exact (decide_eq_false hx.2).symm
      · exact c.lea y hy
  | true =>
    refine ⟨vo, le, pr, ?_, ?_, ?_, c.lx, by simpa using hl⟩
    · rw [hk]
      simp only [if_true]
      rw [← List.append_assoc]
      exact c.keys.append_right [x]
    · simp only [if_true]
      rw [← List.append_assoc, List.nodup_append]
      refine ⟨c.nd, by simp, ?_⟩
      intro a ha b hb
      rw [List.mem_singleton.1 hb]
      rintro rfl
      rcases List.mem_append.1 ha with ha | ha
      · exact hx.1 ha
      · exact hx.2 ha
    · intro y hy
      simp only [if_true]
      rcases hmem y hy with rfl | hy
      · rw [hq]
        exact (decide_eq_true (List.mem_append_right _ (List.mem_singleton.2 rfl))).symm
      · rw [c.lea y hy]
        have := hkeys y hy
        simp [this]

theorem k317 {base n0 vb cb pm vb0 pm0 vt : Nat} {lm lm0 : Option Nat} {mi mb li : Int} {xs ys : List Int} {ps : Ps} {x : Int} {f : Bool} (c : CG base vb lm pm xs ys ps w) (hb : Bk w cb (.cells (Cfg vb lm) 136 (0, 0))) (hx : x ∉ xs ++ ys) (hl : if f then ys.length + 1 ≤ 4 else xs.length + 1 ≤ 9)
    (d1 : vb ≠ pm) (d2 : ∀ b, lm = some b → b ≠ pm ∧ b ≠ vb) (n1 : n0 ≤ vb) (n2 : n0 ≤ pm) (n3 : n0 ≤ cb) (n4 : ∀ b, lm = some b → n0 ≤ b) (n5 : n0 ≤ w.heap.size)
    (h : ∀ lm' ps' w', Up (fun z => n0 ≤ z) [0, 138] w w' → Bk w' cb (.cells (Cfg vb lm') 136 (0, 0)) → CG base vb lm' pm (if f then xs else xs ++ [x]) (if f then ys ++ [x] else ys) ps' w' → (∀ b, lm' = some b → n0 ≤ b) → K (.tuple #[]) w') :
    CK Pr 317 #[.agg (Chg vb0 lm0 pm0 vt mi mb li), .pointer (some ⟨cb, 0, none⟩), .map (some pm), .int .u64 x, .bool f] w K := by
  refine c317 ?_
  unfold t317
  unfold Chg
  refine e_boxA fun b2 w1 e1 hb2 s1 s2 => ?_
  have c1 := c.ex e1
  have hb1 := e1.at_ hb
  have hvl := c.vo.lt
  have hpl := c.pr.mp.lt
  have zz1 := e1.size
  refine q_not ?_
  refine jo_rule (fun J => ∀ lm' w', Up (fun z => n0 ≤ z) [0, 138] w1 w' → Bk w' cb (.cells (Cfg vb lm') 136 (0, 0)) → Mp w' vb (ms (if f then xs else xs ++ [x])) → MpO w' lm' (ms (if f then ys ++ [x] else ys)) → Prs base pm ps w' → (∀ b, lm' = some b → n0 ≤ b ∧ b ≠ pm) → J w') ?_ ?_
  · intro lm' w' u hbc vo le pr hn
    have hb2' : Bk w' b2 _ := u.at_ hb2 rfl
    refine dr_rule (fun z => z = pm) [0] fun w3 e3 z3 => ?_
    have hb3 := e3.at_ hb2'
    have pr3 := pr.ex e3
    clear hb2' hb2
    (repeat (first | (refine go ?_; intros) | (refine goK41 ?_; intros)))
    refine q_max ?_
    (repeat (first | (refine go ?_; intros) | (refine goK41 ?_; intros)))
    refine cl_fn (k78 fun ib w4 e4 s4 hinf => ⟨.of_ex e4, ?_⟩)
    refine b152_0_1_7_8_5 rfl rfl rfl rfl rfl ?_
    refine e_boxA fun pb w5 e5 hb5 s5 s6 => ⟨(Up.of_ex e4).ex e5, ?_⟩
    have pr5 := (pr3.ex e4).ex e5
    refine u_put pr5.mp fun w6 u6 m6 z6 => ⟨((Up.of_ex e4).ex e5).trans u6, ?_⟩
    have zz3 := e3.size
    have zz4 := e4.size
    have zu := u.size
    have hbase : base ≤ w.heap.size := by have := c.pr.b0; omega
    have hq : PG base pb ⟨0, if 1 > li then 1 else li, 0, 0, 0, true, false, f, mi, mb⟩ w6 := ⟨by omega, ib, by omega, u6.at_ hb5 rfl, u6.at_ (e5.at_ hinf) rfl⟩
    have prf := pr5.put (b := pb) u6 m6 ((pr3.ex e4).fresh (by omega)) hq
    have E : Ex w' w5 := (e3.trans e4).trans e5
    refine h lm' _ w6 (((Up.of_ex e1).trans u).ex E |>.trans (u6.mono (fun y _ hy => by subst hy; exact n2) (fun k hk => by simp at hk; simp [hk]))) (u6.at_ (E.at_ hbc) rfl) (CG.add c hx hl rfl ((vo.ex E).up u6 (.inr d1)) ((le.ex E).up u6 (.inr fun b hb => (hn b hb).2)) prf) (fun b hb => (hn b hb).1)
  · intro J hJ
    cases f with
    | false =>
      unfold Cfg at hb1
      (repeat (first | (refine go ?_; intros) | (refine goK41 ?_; intros)))
      refine cl_fn (k222 fun w2 e2 => ?_)
      (repeat (first | (refine go ?_; intros) | (refine goK41 ?_; intros) | refine b156_  ?_))
      refine u_put (c1.vo.ex e2) fun w3 u3 m3 z3 => ?_
      rw [put_ms (fun hh => hx (List.mem_append_left _ hh))] at m3
      refine hJ lm w3 ((Up.of_ex e2).trans (u3.mono (fun y _ hy => by subst hy; exact n1) (fun k hk => by simp at hk; simp [hk]))) (u3.at_ (e2.at_ hb1) rfl) m3 ((c1.le.ex e2).up u3 (.inr fun b hb => (d2 b hb).2)) ((c1.pr.ex e2).up u3 (.inr fun e => d1 e.symm) (.inl rfl) rfl) (fun b hb => ⟨n4 b hb, (d2 b hb).1⟩)
    | true =>
      (repeat (first | (refine go ?_; intros) | (refine goK41 ?_; intros)))
      refine cl_fn (k319 hb1 c1.le (fun hh => hx (List.mem_append_right _ hh)) fun b w3 u3 hb3 hbc m3 => ?_)
      have hb4 : n0 ≤ b ∧ b ≠ pm ∧ b ≠ vb := by
        rcases hb3 with hb3 | ⟨_, hb3⟩
        · exact ⟨n4 b hb3, (d2 b hb3).1, (d2 b hb3).2⟩
        · exact ⟨by omega, by omega, by omega⟩
      have hvb : ¬ (vb = cb ∨ lm = some vb ∨ w1.heap.size ≤ vb) := by
        rintro (hh | hh | hh)
        · subst hh
          have := c1.vo
          unfold Mp at this
          obtain ⟨es, ck, hmb, _⟩ := this
          exact absurd (hmb.one hb1) (by simp)
        · exact (d2 vb hh).2 rfl
        · omega
      have hpb : ¬ (pm = cb ∨ lm = some pm ∨ w1.heap.size ≤ pm) := by
        rintro (hh | hh | hh)
        · subst hh
          have := c1.pr.mp
          unfold Mp at this
          obtain ⟨es, ck, hmb, _⟩ := this
          exact absurd (hmb.one hb1) (by simp)
        · exact (d2 pm hh).1 rfl
        · omega
      refine hJ (some b) w3 (u3.mono (fun y _ hy => by
        rcases hy with rfl | hy | hy
        · exact n3
        · exact n4 y hy
        · omega) (fun _ h => h)) hbc (c1.vo.up u3 (.inr hvb)) m3 (c1.pr.up u3 (.inr hpb) (.inl rfl) rfl) (fun b' hb' => by cases hb'; exact ⟨hb4.1, hb4.2.1⟩)

end Go.Proofs.YtmmpogfbhelioaaGreat
/-
  Contracts: a change is applied to a copy of a configuration.
  Conditions: it adds a member that is none yet.
-/
namespace Go.Proofs.YtmmpogfbhelioaaGreat
set_option maxRecDepth 10000
set_option linter.unusedVariables false
set_option linter.unusedSimpArgs false
theorem nmK42 {p : Prop} (h : p := by (try simp only [List.getElem?_toArray, List.getElem?_cons_zero, List.getElem?_cons_succ, List.setIfInBounds_toArray, List.set_cons_zero, List.set_cons_succ, List.toList_toArray, List.drop_zero, List.drop_succ_cons, List.take_zero, List.take_succ_cons, Nat.zero_add, Nat.add_zero, Nat.reduceAdd, putCells, Cfg, Chg]) <;> rfl) : p := h
theorem goK42 {G H : Prop} (h : H) (s : Stp G H := by (apply Stp.of; intro hS; (first | (refine q_ld bk_ nmK42 ?_) | (refine q_ldU bk_ rfl nmK42 ?_) | (refine q_ldW bk_ (by rfl) ?_) | (refine q_ldWU bk_ rfl (by rfl) ?_) | (refine q_ldP bk_ (Nat.le_of_ble_eq_true rfl) nmK42 ?_) | (refine q_ldPU bk_ rfl (Nat.le_of_ble_eq_true rfl) nmK42 ?_) | (refine q_ext nmK42 ?_) | (refine u_st bk_ (Nat.le_of_ble_eq_true rfl) (by first | rfl | assumption) nmK42 ?_) | (refine u_stA bk_ (Nat.le_of_ble_eq_true rfl) (by rfl) (by rfl) nmK42 ?_) | (refine q_field nmK42 ?_)); exact hS.out)) : G := s.f h
set_option linter.unusedVariables false
set_option linter.unusedSimpArgs false
attribute [local irreducible] Instr.box Instr.alloc Instr.loadAt Instr.storeAt Instr.fieldAt Instr.indexAt Instr.build Instr.buildSlice Instr.makeSlice Instr.makeMap Instr.mapUpdate Instr.lookup Instr.range Instr.next Instr.entry Instr.extract Instr.makeInterface Instr.makeFunc Instr.sliceAt Instr.typeAssert Instr.field Instr.index Builtin.len_ Builtin.cap_ Builtin.max_ Builtin.min_ Builtin.append_ Builtin.copy_ Builtin.delete_ convert binS pickS nilS callV callM Op.unary Own Mp It Cu


variable {K : Value → World → Prop} {w : World} {te : Option Nat}

theorem lk_none {l : KV} {x : Int} (h : x ∉ l.map (·.1)) : lk l x = none := by
  induction l with
  | nil => rfl
  | cons p r ih =>
    obtain ⟨k, v⟩ := p
    simp only [List.map_cons, List.mem_cons, not_or] at h
    simp only [lk]
    rw [if_neg (fun e => h.1 e.symm)]
    exact ih h.2

theorem k283 {base n0 vb cb pm vb0 pm0 vt : Nat} {lm lm0 : Option Nat} {mi mb li : Int} {xs ys : List Int} {ps : Ps} {x : Int} (c : CG base vb lm pm xs ys ps w) (hb : Bk w cb (.cells (Cfg vb lm) 136 (0, 0))) (hx : x ∉ xs ++ ys) (hl : xs.length + 1 ≤ 9)
    (d1 : vb ≠ pm) (d2 : ∀ b, lm = some b → b ≠ pm ∧ b ≠ vb) (n1 : n0 ≤ vb) (n2 : n0 ≤ pm) (n3 : n0 ≤ cb) (n4 : ∀ b, lm = some b → n0 ≤ b) (n5 : n0 ≤ w.heap.size)
    (h : ∀ lm' ps' w', Up (fun z => n0 ≤ z) [0, 138] w w' → Bk w' cb (.cells (Cfg vb lm') 136 (0, 0)) → CG base vb lm' pm (xs ++ [x]) ys ps' w' → (∀ b, lm' = some b → n0 ≤ b) → K (.tuple #[]) w') :
    CK Pr 283 #[.agg (Chg vb0 lm0 pm0 vt mi mb li), .pointer (some ⟨cb, 0, none⟩), .map (some pm), .int .u64 x] w K := by
  refine c283 ?_
  unfold t283
  unfold Chg
  refine e_boxA fun b2 w1 e1 hb2 s1 s2 => ?_
  have c1 := c.ex e1
  refine q_look (l := kvP ps) c1.pr.mp ?_
  rw [lk_none (by rw [kvP_keys]; exact fun hh => hx (c.keys.mem_iff.1 hh))]
  (repeat (first | (refine go ?_; intros) | (refine goK42 ?_; intros)))
  refine cl_fn (k317 (n0 := n0) (f := false) c1 (e1.at_ hb) hx (by simpa using hl) d1 d2 n1 n2 n3 n4 (by have := e1.size; omega) fun lm' ps' w' u hb' c' hn => ?_)
  exact h lm' ps' w' ((Up.of_ex e1).trans u) hb' (by simpa using c') hn

theorem k284 {base n0 vb cb pm vb0 pm0 vt : Nat} {lm lm0 : Option Nat} {mi mb li : Int} {xs ys : List Int} {ps : Ps} {x : Int} (c : CG base vb lm pm xs ys ps w) (hb : Bk w cb (.cells (Cfg vb lm) 136 (0, 0))) (hx : x ∉ xs ++ ys) (hl : ys.length + 1 ≤ 4)
    (d1 : vb ≠ pm) (d2 : ∀ b, lm = some b → b ≠ pm ∧ b ≠ vb) (n1 : n0 ≤ vb) (n2 : n0 ≤ pm) (n3 : n0 ≤ cb) (n4 : ∀ b, lm = some b → n0 ≤ b) (n5 : n0 ≤ w.heap.size)
    (h : ∀ lm' ps' w', Up (fun z => n0 ≤ z) [0, 138] w w' → Bk w' cb (.cells (Cfg vb lm') 136 (0, 0)) → CG base vb lm' pm xs (ys ++ [x]) ps' w' → (∀ b, lm' = some b → n0 ≤ b) → K (.tuple #[]) w') :
    CK Pr 284 #[.agg (Chg vb0 lm0 pm0 vt mi mb li), .pointer (some ⟨cb, 0, none⟩), .map (some pm), .int .u64 x] w K := by
  refine c284 ?_
  unfold t284
  unfold Chg
  refine e_boxA fun b2 w1 e1 hb2 s1 s2 => ?_
  have c1 := c.ex e1
  refine q_look (l := kvP ps) c1.pr.mp ?_
  rw [lk_none (by rw [kvP_keys]; exact fun hh => hx (c.keys.mem_iff.1 hh))]
  (repeat (first | (refine go ?_; intros) | (refine goK42 ?_; intros)))
  refine cl_fn (k317 (n0 := n0) (f := true) c1 (e1.at_ hb) hx (by simpa using hl) d1 d2 n1 n2 n3 n4 (by have := e1.size; omega) fun lm' ps' w' u hb' c' hn => ?_)
  exact h lm' ps' w' ((Up.of_ex e1).trans u) hb' (by simpa using c') hn

/-- The members behind a change. -/
def chX (kd x : Int) (xs : List Int) : List Int := if kd = 0 then xs ++ [x] else xs
def chY (kd x : Int) (ys : List Int) : List Int := if kd = 0 then ys else ys ++ [x]

theorem k220 {base n0 vb cb pm vb0 pm0 vt : Nat} {lm lm0 : Option Nat} {mi mb li kd : Int} {xs ys : List Int} {ps : Ps} {x : Int} {v p : Value} (c : CG base vb lm pm xs ys ps w) (hb : Bk w cb (.cells (Cfg vb lm) 136 (0, 0))) (hs : Sl w te 1 v [[p]]) (hp : PCh p kd x w) (hkd : kd = 0 ∨ kd = 3 ∧ xs ≠ []) (hx : x ∉ xs ++ ys) (hx0 : x ≠ 0) (hl : xs.length + 1 ≤ 9 ∨ kd = 3) (hl2 : ys.length + 1 ≤ 4 ∨ kd = 0)
    (d1 : vb ≠ pm) (d2 : ∀ b, lm = some b → b ≠ pm ∧ b ≠ vb) (n1 : n0 ≤ vb) (n2 : n0 ≤ pm) (n3 : n0 ≤ cb) (n4 : ∀ b, lm = some b → n0 ≤ b) (n5 : n0 ≤ w.heap.size)
    (h : ∀ lm' ps' w', Up (fun z => n0 ≤ z) [0, 138] w w' → Bk w' cb (.cells (Cfg vb lm') 136 (0, 0)) → CG base vb lm' pm (chX kd x xs) (chY kd x ys) ps' w' → (∀ b, lm' = some b → n0 ≤ b) → K .nilIface w') :
    CK Pr 220 #[.agg (Chg vb0 lm0 pm0 vt mi mb li), .pointer (some ⟨cb, 0, none⟩), .map (some pm), v] w K := by
  refine c220 ?_
  unfold t220
  unfold Chg
  refine e_boxA fun b2 w1 e1 hb2 s1 s2 => ?_
  have c1 := c.ex e1
  have hb1 := e1.at_ hb
  have hp1 := hp.ex e1
  refine q_lenSl (hs.ex e1) ?_
  refine loop_n (α := Bool) (fun a τ w' => if a then g τ 2 = .int .i64 1 ∧ ∃ lm' ps', Up (fun z => n0 ≤ z) [0, 138] w1 w' ∧ Bk w' cb (.cells (Cfg vb lm') 136 (0, 0)) ∧ CG base vb lm' pm (chX kd x xs) (chY kd x ys) ps' w' ∧ (∀ b, lm' = some b → n0 ≤ b) else g τ 2 = .int .i64 0 ∧ w' = w1) (fun a => if a then 0 else 1) false ⟨rfl, rfl⟩ ?_
  intro a τ w' R ha hR
  cases a with
  | false =>
    obtain ⟨hj, rfl⟩ := ha
    rw [hj]
    (repeat (first | (refine go ?_; intros) | (refine goK42 ?_; intros)))
    unfold t220_1
    unfold Jo
    rw [hj]
    refine q_ixs (x := p) 0 (hs.ex e1) rfl rfl fun _ => ?_
    refine cl_fn (k281 hp1 ?_)
    have h0 : (x == 0) = false := by simpa using hx0
    (repeat (first | (refine go ?_; intros) | (refine goK42 ?_; intros)))
    rw [h0]
    (repeat (first | (refine go ?_; intros) | (refine goK42 ?_; intros)))
    refine cl_fn (k282 hp1 ?_)
    rcases hkd with rfl | ⟨rfl, hne⟩
    · (repeat (first | (refine go ?_; intros) | (refine goK42 ?_; intros)))
      refine dr_rule (fun z => n0 ≤ z) [0, 138] fun w3 e3 z3 => ?_
      have hb3 := e3.at_ hb2
      refine q_ldWU hb3 rfl (by rfl) ?_
      refine cl_fn (k281 (hp1.ex e3) ⟨.refl _ _ _, ?_⟩)
      refine cl_fn (k283 (n0 := n0) (c1.ex e3) (e3.at_ hb1) hx (by rcases hl with hl | hl <;> omega) d1 d2 n1 n2 n3 n4 (by have := e1.size; omega) fun lm' ps' w4 u hb' c' hn => ⟨u, ?_⟩)
      (repeat (first | (refine go ?_; intros) | (refine goK42 ?_; intros)))
      refine hR true _ _ ⟨rfl, lm', ps', (Up.of_ex e3).trans u, hb', by simpa [chX, chY] using c', hn⟩ (by simp)
    · (repeat (first | (refine go ?_; intros) | (refine goK42 ?_; intros)))
      refine dr_rule (fun z => n0 ≤ z) [0, 138] fun w3 e3 z3 => ?_
      have hb3 := e3.at_ hb2
      refine q_ldWU hb3 rfl (by rfl) ?_
      refine cl_fn (k281 (hp1.ex e3) ⟨.refl _ _ _, ?_⟩)
      refine cl_fn (k284 (n0 := n0) (c1.ex e3) (e3.at_ hb1) hx (by rcases hl2 with hl | hl <;> omega) d1 d2 n1 n2 n3 n4 (by have := e1.size; omega) fun lm' ps' w4 u hb' c' hn => ⟨u, ?_⟩)
      (repeat (first | (refine go ?_; intros) | (refine goK42 ?_; intros)))
      refine hR true _ _ ⟨rfl, lm', ps', (Up.of_ex e3).trans u, hb', by simpa [chX, chY] using c', hn⟩ (by simp)
  | true =>
    obtain ⟨hj, lm', ps', u, hb', c', hn⟩ := ha
    rw [hj]
    unfold Cfg at hb'
    (repeat (first | (refine go ?_; intros) | (refine goK42 ?_; intros)))
    refine cl_fn (k222 fun w2 e2 => ?_)
    have c2 := c'.ex e2
    refine q_lenM (b := vb) (l := ms (chX kd x xs)) (fun w3 hw => by cases hw; exact c2.vo) ?_
    have hne : (((ms (chX kd x xs)).length : Nat) : Int) ≠ 0 := by
      have : chX kd x xs ≠ [] := by
        unfold chX
        rcases hkd with rfl | ⟨rfl, hne⟩
        · simp
        · simpa using hne
      have h2 : (chX kd x xs).length ≠ 0 := fun e => this (List.eq_nil_of_length_eq_zero e)
      simp only [ms, List.length_map]
      omega
    have h0 : ((((ms (chX kd x xs)).length : Nat) : Int) == 0) = false := by simpa using hne
    (repeat (first | (refine go ?_; intros) | (refine goK42 ?_; intros)))
    rw [h0]
    (repeat (first | (refine go ?_; intros) | (refine goK42 ?_; intros)))
    exact h lm' ps' w2 (((Up.of_ex e1).trans u).ex e2) (e2.at_ hb') c2 hn

end Go.Proofs.YtmmpogfbhelioaaGreat
/-
  Contracts: a configuration and its progress copied and checked; what two sets differ by; a simple change.
  Conditions: it adds a member that is none yet.
-/
namespace Go.Proofs.YtmmpogfbhelioaaGreat
set_option maxRecDepth 10000
set_option linter.unusedVariables false
set_option linter.unusedSimpArgs false
theorem nmK43 {p : Prop} (h : p := by (try simp only [List.getElem?_toArray, List.getElem?_cons_zero, List.getElem?_cons_succ, List.setIfInBounds_toArray, List.set_cons_zero, List.set_cons_succ, List.toList_toArray, List.drop_zero, List.drop_succ_cons, List.take_zero, List.take_succ_cons, Nat.zero_add, Nat.add_zero, Nat.reduceAdd, putCells, Cfg, Chg, Pg.cells]) <;> rfl) : p := h
theorem goK43 {G H : Prop} (h : H) (s : Stp G H := by (apply Stp.of; intro hS; (first | (refine q_ld bk_ nmK43 ?_) | (refine q_ldU bk_ rfl nmK43 ?_) | (refine q_ldW bk_ (by rfl) ?_) | (refine q_ldWU bk_ rfl (by rfl) ?_) | (refine q_ldP bk_ (Nat.le_of_ble_eq_true rfl) nmK43 ?_) | (refine q_ldPU bk_ rfl (Nat.le_of_ble_eq_true rfl) nmK43 ?_) | (refine q_ext nmK43 ?_) | (refine u_st bk_ (Nat.le_of_ble_eq_true rfl) (by first | rfl | assumption) nmK43 ?_) | (refine u_stA bk_ (Nat.le_of_ble_eq_true rfl) (by rfl) (by rfl) nmK43 ?_) | (refine q_field nmK43 ?_)); exact hS.out)) : G := s.f h
set_option linter.unusedVariables false
set_option linter.unusedSimpArgs false
attribute [local irreducible] Instr.box Instr.alloc Instr.loadAt Instr.storeAt Instr.fieldAt Instr.indexAt Instr.build Instr.buildSlice Instr.makeSlice Instr.makeMap Instr.mapUpdate Instr.lookup Instr.range Instr.next Instr.entry Instr.extract Instr.makeInterface Instr.makeFunc Instr.sliceAt Instr.typeAssert Instr.field Instr.index Builtin.len_ Builtin.cap_ Builtin.max_ Builtin.min_ Builtin.append_ Builtin.copy_ Builtin.delete_ convert binS pickS nilS callV callM Op.unary Own Mp It Cu


section
variable {P : Program} {w : World} {KW : Value → World → Prop}
/-- A slice of two elements of two cells. -/
theorem e_bs22 {t e by' : Nat} [TSli P t e 2] [TElm P e 2 by'] {x0 x1 y0 y1 : Value}
    (k : ∀ w', Ex w w' → Own w' w.heap.size e 2 (.slice (some ⟨w.heap.size, 0, none⟩) 2 2) [[x0, x1], [y0, y1]] → w'.heap.size = w.heap.size + 1 → KW (.slice (some ⟨w.heap.size, 0, none⟩) 2 2) w') :
    Ef P (Instr.buildSlice t 2 #[(0, .agg #[x0, x1]), (1, .agg #[y0, y1])]) w KW := by
  obtain ⟨i, z', hi, hz, his, hib, hzs, h0⟩ := TElm.facts (P := P) e 2 by'
  haveI : TZero P e z' := ⟨by rw [hi]; exact hz⟩
  have hf : Instr.fill (fun i => some (i * 2, 2)) ((Array.range (2 * 2)).map (z'.cells[· % z'.cells.size]!)) #[(0, .agg #[x0, x1]), (1, .agg #[y0, y1])].toList = some #[x0, x1, y0, y1] := by
    rw [show #[((0 : Nat), Value.agg #[x0, x1]), (1, Value.agg #[y0, y1])].toList = [(0, .agg #[x0, x1]), (1, .agg #[y0, y1])] from rfl, fill_cons rfl (by rfl) (by simp), fill_cons rfl (by rfl) (by simp [cells_agg, putCells]), Instr.fill]
    simp [putCells, cells_agg]
    apply Array.ext
    · simp
    · intro j h1 h2
      simp at h2
      have : j = 0 ∨ j = 1 ∨ j = 2 ∨ j = 3 := by omega
      rcases this with rfl | rfl | rfl | rfl <;> simp
  refine .mk _ _ (run_bs (P := P) (t := t) (e := e) (n := 2) (m := 2) (cs := #[x0, x1, y0, y1]) (by omega) (by omega) hf) (k _ (Up.alloc _ _) (by
    unfold Own
    refine ⟨⟨?_, .inr ⟨_, 2, #[x0, x1, y0, y1], rfl, Nat.le_refl _, Bk.alloc_new _ _, Nat.le_refl _, by simp [maxLen], by simp, ?_⟩⟩, ?_⟩
    · simp
    · simp
    · intro a ha
      simp at ha
      rcases ha with rfl | rfl <;> rfl) (by simp))
end

variable {K : Value → World → Prop} {w : World} {te : Option Nat}

theorem k216 {base vb pm vt : Nat} {lm : Option Nat} {xs ys : List Int} {ps : Ps} {mi mb li : Int} (c : CG base vb lm pm xs ys ps w)
    (h : ∀ vb' lm' pm' xs' ys' ps' w', Ex w w' → w.heap.size ≤ vb' → (∀ b, lm' = some b → vb' < b ∧ b < pm') → vb' < pm' → xs'.Perm xs → ys'.Perm ys → CG base vb' lm' pm' xs' ys' ps' w' → K (.tuple #[.agg (Cfg vb' lm'), .map (some pm'), .nilIface]) w') : CK Pr 216 #[.agg (Chg vb lm pm vt mi mb li)] w K := by
  refine c216 ?_
  unfold t216
  refine e_boxA fun b1 w1 e1 hb1 s1 s2 => ?_
  refine e_allocA fun b2 w2 e2 hb2 s3 s4 => ?_
  have hb12 := e2.at_ hb1
  have c2 := (c.ex e1).ex e2
  refine q_fa ?_
  refine q_fa ?_
  refine cl_fn (k280 c2 hb12 fun vb' lm' xs' ys' w3 e3 h3 h4 px py mv ml => ?_)
  refine e_allocA fun b4 w4 e4 hb4 s5 s6 => ?_
  refine u_stA hb4 (Nat.le_of_ble_eq_true rfl) (by rfl) (by rfl) nmK43 fun w5 u5 hb5 z5 => ?_
  refine e_mkmap (by intro v hv; cases hv) fun w6 e6 m6 s7 => ?_
  have zz1 := e1.size
  have zz2 := e2.size
  have zz3 := e3.size
  have zz4 := e4.size
  have ex45 : Ex w3 w5 := e4.new u5 (by intro x hx; omega)
  have ex6 : Ex w w6 := (((e1.trans e2).trans e3).trans ex45).trans e6
  have ex36 : Ex w3 w6 := ex45.trans e6
  have hb16 : Bk w6 b1 (.cells (Chg vb lm pm vt mi mb li) 209 (0, 0)) := ex36.at_ (e3.at_ hb12)
  have hb26 := ex36.at_ (e3.at_ hb2)
  have hb56 := e6.at_ hb5
  have c6 := c.ex ex6
  have mv6 := mv.ex ex36
  have ml6 := ml.ex ex36
  have hvl := mv.lt
  have hpl := c.pr.mp.lt
  have hll : ∀ b, lm' = some b → b < w3.heap.size := fun b hb => by subst hb; exact Mp.lt (show Mp w3 b _ from ml)
  clear hb4 hb5 hb12 hb1
  unfold Chg at hb16
  (repeat (first | (refine go ?_; intros) | (refine goK43 ?_; intros)))
  refine e_for (show MpO w6 (some pm) (kvP ps) from c6.pr.mp) (fun done τ w' => Ex w w' ∧ Up (fun z => w5.heap.size ≤ z) [0, 1, 154] w6 w' ∧ ∃ pq : Ps, pq.map (·.1) = done.map (fun x : Int × Value => x.1) ∧ Prs base w5.heap.size pq w' ∧ ∀ x ∈ pq, ∃ y ∈ ps, y.1 = x.1 ∧ x.2.2 = y.2.2) (fun w7 e7 z7 => ⟨ex6.trans e7, .of_ex e7, [], rfl, ⟨m6.ex e7, .nil, fun x hx => (by cases hx), by have := c.pr.b0; omega⟩, fun x hx => (by cases hx)⟩) ?_
  rintro v R τ w7 done hz7 ⟨ex7, u7, pq, hpk, prs, hpq⟩ nx
  have z67 := u7.size
  refine nx (fun hperm => ?_) fun p rest w8 hp hpm u8 z8 en fwd => ?_
  · (refine q_ext (x := .bool false) rfl ?_; refine if_f ?_)
    have hb57 := u7.off hb56 (by intro hh; have := hb56.lt; omega)
    refine q_ldW hb57 (by rfl) ?_
    have keys : (pq.map (·.1)).Perm (ps.map (·.1)) := by
      rw [hpk]
      have := hperm.map (fun x : Int × Value => x.1)
      rw [kvP_keys] at this
      exact this
    have pxy : (xs' ++ ys').Perm (xs ++ ys) := List.Perm.append px py
    have cN : CG base vb' lm' w5.heap.size xs' ys' pq w7 := by
      refine ⟨mv6.up u7 (.inr (by omega)), ml6.up u7 (.inr fun b hb => by have := hll b hb; omega), prs, (keys.trans c.keys).trans pxy.symm, pxy.nodup_iff.2 c.nd, fun x hx => ?_, by rw [px.length_eq]; exact c.lx, by rw [py.length_eq]; exact c.ly⟩
      obtain ⟨y, hy, hy1, hy2⟩ := hpq x hx
      rw [hy2, c.lea y hy, hy1]
      by_cases hm : x.1 ∈ ys
      · rw [decide_eq_true hm, decide_eq_true (py.mem_iff.2 hm)]
      · rw [decide_eq_false hm, decide_eq_false (fun h => hm (py.mem_iff.1 h))]
    refine cl_fn (k223 cN fun w8 e8 => ?_)
    have hb28 := e8.at_ (u7.off hb26 (by intro hh; have := hb26.lt; omega))
    (repeat (first | (refine go ?_; intros) | (refine goK43 ?_; intros)))
    rename_i w9 u9 hb9 z9
    refine h vb' lm' w5.heap.size xs' ys' pq w9 ((ex7.trans e8).new u9 (by intro x hx; omega)) (by omega) (fun b hb => ⟨h4 b hb, by have := hll b hb; omega⟩) (by omega) px py ?_
    have c8 := cN.ex e8
    exact ⟨c8.vo.up u9 (.inl rfl), c8.le.up u9 (.inl rfl), c8.pr.up u9 (.inl rfl) (.inl rfl) rfl, c8.keys, c8.nd, c8.lea, c8.lx, c8.ly⟩
  · obtain ⟨z, hz, rfl⟩ := List.mem_map.1 hpm
    (refine q_ext (x := .bool true) rfl ?_; refine if_t ?_)
    refine en ?_
    have ex8 : Ex w w8 := ex7.new u8 (by intro x hx; omega)
    have c8 := c.ex ex8
    obtain ⟨p0, ib, hib, hpb, hinf⟩ := c8.pr.pg z hz
    (repeat (first | (refine go ?_; intros) | (refine goK43 ?_; intros)))
    rename_i nb w9 e9 hb9 s9 s9' w10 u10 hb10 z10
    clear hb9
    have E10 : Ex w8 w10 := e9.new u10 (by intro x hx; omega)
    have prs8 : Prs base w5.heap.size pq w8 := prs.up u8 (.inl rfl) (.inl rfl) rfl
    have prs10 := prs8.ex E10
    refine u_put prs10.mp fun w11 u11 m11 z11 => ?_
    have zz9 := e9.size
    have hq : PG base nb z.2.2 w11 := ⟨by have := c.pr.b0; omega, ib, hib, u11.at_ hb10 rfl, u11.at_ (E10.at_ hinf) rfl⟩
    have hnew : z.1 ∉ pq.map (·.1) := by
      rw [hpk]
      have := fkeys hp (by rw [kvP_keys]; exact c.keys.nodup_iff.2 c.nd)
      exact this
    have prs11 := prs10.put (b := nb) u11 m11 (prs8.fresh (by omega)) hq
    have T8 : Up (fun z => w5.heap.size ≤ z) [0, 1, 154] w6 w8 := u7.trans (u8.mono (fun y _ hy => by omega) (fun k hk => by simp at hk; simp [hk]))
    have T11 : Up (fun z => w5.heap.size ≤ z) [0, 1, 154] w6 w11 := (T8.ex E10).trans (u11.mono (fun y _ hy => by omega) (fun k hk => by simp at hk; simp [hk]))
    refine fwd _ w11 (fun x => x = w5.heap.size) [0] (((Up.of_ex E10)).trans u11) (.inl rfl) (.inr fun b hb => by cases hb; omega) ⟨(ex8.trans E10).new u11 (by intro x hx; omega), T11, putP pq z.1 nb z.2.2, ?_, prs11, ?_⟩
    · rw [putP_new hnew, hpk, List.map_append]
      rfl
    · intro x hx
      rcases putP_mem hx with rfl | hx
      · exact ⟨z, hz, rfl, rfl⟩
      · exact hpq x hx

end Go.Proofs.YtmmpogfbhelioaaGreat
/-
  Contracts: what two sets differ by; a simple change.
  Conditions: it adds a member that is none yet.
-/
namespace Go.Proofs.YtmmpogfbhelioaaGreat
set_option maxRecDepth 10000
set_option linter.unusedVariables false
set_option linter.unusedSimpArgs false
set_option linter.unusedVariables false
set_option linter.unusedSimpArgs false
attribute [local irreducible] Instr.box Instr.alloc Instr.loadAt Instr.storeAt Instr.fieldAt Instr.indexAt Instr.build Instr.buildSlice Instr.makeSlice Instr.makeMap Instr.mapUpdate Instr.lookup Instr.range Instr.next Instr.entry Instr.extract Instr.makeInterface Instr.makeFunc Instr.sliceAt Instr.typeAssert Instr.field Instr.index Builtin.len_ Builtin.cap_ Builtin.max_ Builtin.min_ Builtin.append_ Builtin.copy_ Builtin.delete_ convert binS pickS nilS callV callM Op.unary Own Mp It Cu


variable {K : Value → World → Prop} {w : World} {te : Option Nat}

/-- How many of a list are not in another one. -/
def cnt (l d : List Int) : Nat := (d.filter fun y => decide (y ∉ l)).length
theorem cnt_app (l d : List Int) (x : Int) : cnt l (d ++ [x]) = cnt l d + if x ∈ l then 0 else 1 := by
  unfold cnt
  rw [List.filter_append, List.length_append]
  by_cases h : x ∈ l <;> simp [h]
theorem cnt_perm {l d d' : List Int} (h : d.Perm d') : cnt l d = cnt l d' := (h.filter _).length_eq
theorem cnt_le {l r : List Int} {x : Int} (hn : r.Nodup) (h : ∀ y ∈ r, y ∉ l → y = x) : cnt l r ≤ 1 := by
  unfold cnt
  have h1 : (r.filter fun y => decide (y ∉ l)).Nodup := hn.filter _
  have h2 : ∀ y ∈ r.filter fun y => decide (y ∉ l), y = x := fun y hy => by
    have := List.mem_filter.1 hy
    exact h y this.1 (by simpa using this.2)
  generalize r.filter (fun y => decide (y ∉ l)) = d at h1 h2
  match d, h1, h2 with
  | [], _, _ => simp
  | [_], _, _ => simp
  | a :: b :: t, h1, h2 =>
    have ha := h2 a (by simp)
    have hb := h2 b (by simp)
    have := (List.nodup_cons.1 h1).1
    exact absurd (by rw [ha, hb]; simp) this

theorem k221 {va vb : Nat} {l r : List Int} {x : Int} (ha : Mp w va (ms l)) (hb : Mp w vb (ms r)) (hl : l.Nodup) (hr : r.Nodup) (hlr : ∀ y ∈ l, y ∈ r) (hrl : ∀ y ∈ r, y ∉ l → y = x) (hz : l.length ≤ 100 ∧ r.length ≤ 100)
    (h : ∀ (n : Nat) w', Ex w w' → n ≤ 1 → K (.int .i64 (n : Nat)) w') : CK Pr 221 #[.map (some va), .map (some vb)] w K := by
  refine c221 ?_
  unfold t221
  refine b133_0_1 rfl rfl ?_
  refine b133_0_1 rfl rfl ?_
  refine e_bs22 fun w1 e1 o1 z1 => ?_
  refine q_lenSl o1.sl ?_
  refine loop_n (α := Nat) (fun j τ w' => g τ 5 = .int .i64 j ∧ j ≤ 2 ∧ Ex w1 w' ∧ (j ≤ 1 → g τ 0 = .int .i64 0) ∧ (j = 2 → g τ 0 = .int .i64 (cnt l r : Nat))) (fun j => 2 - j) 0 ⟨rfl, by omega, .refl _ _ _, fun _ => rfl, fun h => by omega⟩ ?_
  rintro j τ w' R ⟨hj, hle, ex, hn0, hn2⟩ hR
  rw [hj]
  (repeat (first | (refine go ?_; intros) | (refine gon ?_; intros)))
  refine if_split (fun hbj => ?_) (fun hbj => ?_)
  · have hj2 : j < 2 := by
      have := of_decide_eq_true hbj
      simp at this
      omega
    replace hn0 := hn0 (by omega)
    have zx := ex.size
    have hj3 : j = 0 ∨ j = 1 := by omega
    rcases hj3 with rfl | rfl
    · refine q_ixa 0 (o1.sl.ex ex) rfl rfl fun _ => ?_
      (repeat (first | (refine go ?_; intros) | (refine gon ?_; intros)))
      rename_i b2 w2 e2 hb2 s2 s2' w3 u3 hb3 z3
      clear hb2
      have ex3 : Ex w1 w3 := (ex.trans e2).new u3 (by intro x hx; omega)
      refine q_ia 0 rfl (by omega) ?_
      (repeat (first | (refine go ?_; intros) | (refine gon ?_; intros)))
      have zx3 := ex3.size
      refine e_for (show MpO w3 (some va) (ms l) from Mp.ex (e1.trans ex3) ha) (fun done τ' w4 => g τ' 0 = .int .i64 0 ∧ Ex w1 w4 ∧ Ex w3 w4) (fun w4 e4 z4 => ⟨hn0, ex3.trans e4, e4⟩) ?_
      rintro v Rr τ' w4 done hz4 ⟨hn4, ex4, e34⟩ nx
      refine nx (fun hperm => ?_) fun p rest w5 hp hpl u5 z5 en fwd => ?_
      · (refine q_ext (x := .bool false) rfl ?_; refine if_f ?_)
        (repeat (first | (refine go ?_; intros) | (refine gon ?_; intros)))
        rw [hn4]
        exact hR 1 _ _ ⟨rfl, by omega, ex4, fun _ => rfl, fun h => by omega⟩ (by omega)
      · (refine q_ext (x := .bool true) rfl ?_; refine if_t ?_)
        refine en ?_
        have ex5 : Ex w1 w5 := ex4.new u5 (by intro x hx; omega)
        have e35 : Ex w3 w5 := e34.new u5 (by intro x hx; omega)
        have hb5 := e35.at_ hb3
        refine q_ext (x := .int .u64 p.1) rfl ?_
        refine q_ia 1 rfl (by omega) ?_
        (repeat (first | (refine go ?_; intros) | (refine gon ?_; intros)))
        refine q_look (l := ms r) (Mp.ex (e1.trans ex5) hb) ?_
        rw [lk_ms, if_pos (hlr _ (ms_mem hpl).1)]
        (repeat (first | (refine go ?_; intros) | (refine gon ?_; intros)))
        rename_i b6 w6 e6 hb6 s6 s6' w7 u7 hb7 z7
        have zx5 := ex5.size
        refine fwd _ w7 (fun x => x = b6) [158] ((Up.of_ex e6).trans u7) (.inl rfl) (.inl rfl) ⟨hn4, (ex5.trans e6).new u7 (by intro x hx; omega), (e35.trans e6).new u7 (by intro x hx; have := e35.size; omega)⟩
    · refine q_ixa 1 (o1.sl.ex ex) rfl rfl fun _ => ?_
      (repeat (first | (refine go ?_; intros) | (refine gon ?_; intros)))
      rename_i b2 w2 e2 hb2 s2 s2' w3 u3 hb3 z3
      clear hb2
      have ex3 : Ex w1 w3 := (ex.trans e2).new u3 (by intro x hx; omega)
      refine q_ia 0 rfl (by omega) ?_
      (repeat (first | (refine go ?_; intros) | (refine gon ?_; intros)))
      have zx3 := ex3.size
      refine e_for (show MpO w3 (some vb) (ms r) from Mp.ex (e1.trans ex3) hb) (fun done τ' w4 => g τ' 0 = .int .i64 (cnt l (done.map (fun x : Int × Value => x.1)) : Nat) ∧ done.length ≤ 100 ∧ Ex w1 w4 ∧ Ex w3 w4) (fun w4 e4 z4 => ⟨hn0, by simp, ex3.trans e4, e4⟩) ?_
      rintro v Rr τ' w4 done hz4 ⟨hn4, hdl, ex4, e34⟩ nx
      refine nx (fun hperm => ?_) fun p rest w5 hp hpl u5 z5 en fwd => ?_
      · (refine q_ext (x := .bool false) rfl ?_; refine if_f ?_)
        (repeat (first | (refine go ?_; intros) | (refine gon ?_; intros)))
        rw [hn4]
        have hpk : (done.map (fun x : Int × Value => x.1)).Perm r := by
          have := hperm.map (fun x : Int × Value => x.1)
          rw [ms_keys] at this
          exact this
        rw [cnt_perm hpk]
        exact hR 2 _ _ ⟨rfl, by omega, ex4, fun h => by omega, fun _ => rfl⟩ (by omega)
      · (refine q_ext (x := .bool true) rfl ?_; refine if_t ?_)
        refine en ?_
        have ex5 : Ex w1 w5 := ex4.new u5 (by intro x hx; omega)
        have e35 : Ex w3 w5 := e34.new u5 (by intro x hx; omega)
        have hb5 := e35.at_ hb3
        have hdl2 : done.length + 1 ≤ 100 := by
          have := hp.length_eq
          simp [ms] at this
          omega
        have hcl : cnt l (done.map (fun x : Int × Value => x.1)) ≤ 100 := by
          unfold cnt
          refine Nat.le_trans (List.length_filter_le _ _) ?_
          simpa using hdl
        refine q_ext (x := .int .u64 p.1) rfl ?_
        refine q_ia 1 rfl (by omega) ?_
        (repeat (first | (refine go ?_; intros) | (refine gon ?_; intros)))
        refine q_look (l := ms l) (Mp.ex (e1.trans ex5) ha) ?_
        rw [lk_ms]
        have hca := cnt_app l (done.map (fun x : Int × Value => x.1)) p.1
        by_cases hpm : p.1 ∈ l
        · rw [if_pos hpm]
          rw [if_pos hpm] at hca
          (repeat (first | (refine go ?_; intros) | (refine gon ?_; intros)))
          rename_i b6 w6 e6 hb6 s6 s6' w7 u7 hb7 z7
          have zx5 := ex5.size
          refine fwd _ w7 (fun x => x = b6) [158] ((Up.of_ex e6).trans u7) (.inl rfl) (.inl rfl) ⟨?_, by simpa using hdl2, (ex5.trans e6).new u7 (by intro x hx; omega), (e35.trans e6).new u7 (by intro x hx; have := e35.size; omega)⟩
          rw [List.map_append, List.map_singleton, hca, Nat.add_zero]
          exact hn4
        · rw [if_neg hpm]
          rw [if_neg hpm] at hca
          (repeat (first | (refine go ?_; intros) | (refine gon ?_; intros)))
          rename_i b6 w6 e6 hb6 s6 s6' w7 u7 hb7 z7
          have zx5 := ex5.size
          rw [hn4]
          (repeat (first | (refine go ?_; intros) | (refine gon ?_; intros)))
          refine fwd _ w7 (fun x => x = b6) [158] ((Up.of_ex e6).trans u7) (.inl rfl) (.inl rfl) ⟨?_, by simpa using hdl2, (ex5.trans e6).new u7 (by intro x hx; omega), (e35.trans e6).new u7 (by intro x hx; have := e35.size; omega)⟩
          rw [List.map_append, List.map_singleton, hca]
          rw [← wrapS (by omega)]
          rfl
  · have hj2 : j = 2 := by
      have := of_decide_eq_false hbj
      simp at this
      omega
    rw [hn2 hj2]
    exact h _ _ (e1.trans ex) (cnt_le hr hrl)

end Go.Proofs.YtmmpogfbhelioaaGreat
/-
  Contracts: a simple change of a configuration; the changes out of a configuration; a chain of them; Restore.
  Conditions: the configuration is not joint, all its members differ, and there is a voter.
-/
namespace Go.Proofs.YtmmpogfbhelioaaGreat
set_option maxRecDepth 10000
set_option linter.unusedVariables false
set_option linter.unusedSimpArgs false
theorem nmK45 {p : Prop} (h : p := by (try simp only [List.getElem?_toArray, List.getElem?_cons_zero, List.getElem?_cons_succ, List.setIfInBounds_toArray, List.set_cons_zero, List.set_cons_succ, List.toList_toArray, List.drop_zero, List.drop_succ_cons, List.take_zero, List.take_succ_cons, Nat.zero_add, Nat.add_zero, Nat.reduceAdd, putCells, Cfg, Chg]) <;> rfl) : p := h
theorem goK45 {G H : Prop} (h : H) (s : Stp G H := by (apply Stp.of; intro hS; (first | (refine q_ld bk_ nmK45 ?_) | (refine q_ldU bk_ rfl nmK45 ?_) | (refine q_ldW bk_ (by rfl) ?_) | (refine q_ldWU bk_ rfl (by rfl) ?_) | (refine q_ldP bk_ (Nat.le_of_ble_eq_true rfl) nmK45 ?_) | (refine q_ldPU bk_ rfl (Nat.le_of_ble_eq_true rfl) nmK45 ?_) | (refine q_ext nmK45 ?_) | (refine u_st bk_ (Nat.le_of_ble_eq_true rfl) (by first | rfl | assumption) nmK45 ?_) | (refine u_stA bk_ (Nat.le_of_ble_eq_true rfl) (by rfl) (by rfl) nmK45 ?_) | (refine q_field nmK45 ?_)); exact hS.out)) : G := s.f h
set_option linter.unusedVariables false
set_option linter.unusedSimpArgs false
attribute [local irreducible] Instr.box Instr.alloc Instr.loadAt Instr.storeAt Instr.fieldAt Instr.indexAt Instr.build Instr.buildSlice Instr.makeSlice Instr.makeMap Instr.mapUpdate Instr.lookup Instr.range Instr.next Instr.entry Instr.extract Instr.makeInterface Instr.makeFunc Instr.sliceAt Instr.typeAssert Instr.field Instr.index Builtin.len_ Builtin.cap_ Builtin.max_ Builtin.min_ Builtin.append_ Builtin.copy_ Builtin.delete_ convert binS pickS nilS callV callM Op.unary Own Mp It Cu


variable {K : Value → World → Prop} {w : World} {te : Option Nat}

theorem chX_mem {kd x y : Int} {xs : List Int} (h : y ∈ xs) : y ∈ chX kd x xs := by
  unfold chX
  split
  · exact List.mem_append_left _ h
  · exact h

theorem k152 {base vb pm vt : Nat} {lm : Option Nat} {mi mb li kd : Int} {xs ys : List Int} {ps : Ps} {x : Int} {v p : Value} (c : CG base vb lm pm xs ys ps w) (hs : Sl w te 1 v [[p]]) (hp : PCh p kd x w) (hkd : kd = 0 ∨ kd = 3 ∧ xs ≠ []) (hx : x ∉ xs ++ ys) (hx0 : x ≠ 0) (hl : xs.length + 1 ≤ 9 ∨ kd = 3) (hl2 : ys.length + 1 ≤ 4 ∨ kd = 0)
    (h : ∀ vb' lm' pm' xs' ys' ps' w', Ex w w' → xs'.Perm (chX kd x xs) → ys'.Perm (chY kd x ys) → CG base vb' lm' pm' xs' ys' ps' w' → K (.tuple #[.agg (Cfg vb' lm'), .map (some pm'), .nilIface]) w') :
    CK Pr 152 #[.agg (Chg vb lm pm vt mi mb li), v] w K := by
  refine c152 ?_
  unfold t152
  refine e_boxA fun b1 w1 e1 hb1 s1 s2 => ?_
  refine e_allocA fun b2 w2 e2 hb2 s3 s4 => ?_
  have hb12 := e2.at_ hb1
  refine q_ldW hb12 (by rfl) ?_
  refine cl_fn (k216 ((c.ex e1).ex e2) fun vb3 lm3 pm3 xs3 ys3 ps3 w3 e3 n1 n2 n3 px py c3 => ?_)
  refine q_ext (x := .agg (Cfg vb3 lm3)) rfl ?_
  refine q_ext (x := .map (some pm3)) rfl ?_
  refine q_ext (x := .nilIface) rfl ?_
  refine e_allocA fun cb w4 e4 hb4 s5 s6 => ?_
  refine u_stA hb4 (Nat.le_of_ble_eq_true rfl) (by rfl) (by rfl) nmK45 fun w5 u5 hb5 z5 => ?_
  clear hb4
  have zz1 := e1.size
  have zz2 := e2.size
  have zz3 := e3.size
  have zz4 := e4.size
  have ex5 : Ex w3 w5 := e4.new u5 (by intro z hz; omega)
  have E5 : Ex w w5 := ((e1.trans e2).trans e3).trans ex5
  have hb15 := ex5.at_ (e3.at_ hb12)
  have hb25 := ex5.at_ (e3.at_ hb2)
  have c5 := c3.ex ex5
  (repeat (first | (refine go ?_; intros) | (refine goK45 ?_; intros)))
  unfold t152_2
  refine q_ldW hb5 (by rfl) ?_
  refine cl_fn (k218 (vb := vb3) (lm := lm3) fun w6 e6 => ?_)
  (repeat (first | (refine go ?_; intros) | (refine goK45 ?_; intros)))
  unfold t152_1
  have hb16 := e6.at_ hb15
  have hb26 := e6.at_ hb25
  have hb56 : Bk w6 cb (.cells (Cfg vb3 lm3) 136 (0, 0)) := e6.at_ hb5
  have E6 := E5.trans e6
  have zz6 := E6.size
  clear hb5 hb15 hb25 hb1 hb12 hb2
  refine q_ldW hb16 (by rfl) ?_
  have pxy : (xs3 ++ ys3).Perm (xs ++ ys) := List.Perm.append px py
  refine cl_fn (k220 (n0 := w2.heap.size) (te := te) (c5.ex e6) hb56 (hs.ex E6) (hp.ex E6) (by
      rcases hkd with hkd | ⟨hkd, hne⟩
      · exact .inl hkd
      · refine .inr ⟨hkd, fun e => hne ?_⟩
        rw [e] at px
        exact List.perm_nil.1 px.symm) (fun hh => hx (pxy.mem_iff.1 hh)) hx0 (by rw [px.length_eq]; exact hl) (by rw [py.length_eq]; exact hl2) (by omega) (fun b hb => by have := n2 b hb; omega) n1 (by omega) (by omega) (fun b hb => by have := n2 b hb; omega) (by have := e6.size; omega) fun lm7 ps7 w7 u7 hb7 c7 hn7 => ?_)
  have E7 : Ex w w7 := E6.new u7 (by intro z hz; omega)
  have hb17 := u7.at_ hb16 rfl
  have hb27 := u7.off hb26 (by intro hh; omega)
  clear hb16 hb26 hb56
  (repeat (first | (refine go ?_; intros) | (refine goK45 ?_; intros)))
  refine dr_rule No [] fun w8 e8 z8 => ?_
  have hb18 := e8.at_ hb17
  have hb78 := e8.at_ hb7
  have c8 := c7.ex e8
  unfold Chg at hb18
  unfold Cfg at hb78
  (repeat (first | (refine go ?_; intros) | (refine goK45 ?_; intros)))
  refine cl_fn (k222 fun w9 e9 => ⟨e9, ?_⟩)
  have hb79 := e9.at_ hb78
  (repeat (first | (refine go ?_; intros) | (refine goK45 ?_; intros)))
  refine cl_fn (k222 fun w10 e10 => ⟨e9.trans e10, ?_⟩)
  have c10 := c8.ex (e9.trans e10)
  have cold : CG base vb lm pm xs ys ps w10 := c.ex (E7.trans (e8.trans (e9.trans e10)))
  refine cl_fn (k221 (x := x) cold.vo c10.vo cold.ndx c10.ndx (fun y hy => chX_mem (px.mem_iff.2 hy)) (fun y hy hny => by
      unfold chX at hy
      split at hy
      · rcases List.mem_append.1 hy with hy | hy
        · exact absurd (px.mem_iff.1 hy) hny
        · exact List.mem_singleton.1 hy
      · exact absurd (px.mem_iff.1 hy) hny) ⟨by have := c.lx; omega, by have := c10.lx; omega⟩ fun n w11 e11 hn => ⟨(e9.trans e10).trans e11, ?_⟩)
  have hb711 := e11.at_ (e10.at_ hb79)
  (repeat (first | (refine go ?_; intros) | (refine goK45 ?_; intros)))
  rw [decide_eq_false (show ¬ ((1 : Int) < (n : Nat)) by omega)]
  refine if_f ?_
  refine q_ldW hb711 (by rfl) ?_
  refine cl_fn (k223 (c10.ex e11) fun w12 e12 => ?_)
  refine q_ext (x := .agg (Cfg vb3 lm7)) rfl ?_
  refine q_ext (x := .map (some pm3)) rfl ?_
  refine q_ext (x := .nilIface) rfl ?_
  have E78 : Ex w7 w12 := (((e8.trans e9).trans e10).trans e11).trans e12
  have hb212 := E78.at_ hb27
  refine u_stA hb212 (Nat.le_of_ble_eq_true rfl) (by rfl) (by rfl) nmK45 fun w13 u13 hb13 z13 => ?_
  refine q_ldW hb13 (by rfl) ?_
  have c13 := (c10.ex e11).ex e12
  refine h vb3 lm7 pm3 _ _ ps7 w13 ((E7.trans E78).new u13 (by intro z hz; omega)) ?_ ?_ ⟨c13.vo.up u13 (.inl rfl), c13.le.up u13 (.inl rfl), c13.pr.up u13 (.inl rfl) (.inl rfl) rfl, c13.keys, c13.nd, c13.lea, c13.lx, c13.ly⟩
  · unfold chX
    split
    · exact px.append_right _
    · exact px
  · unfold chY
    split
    · exact py
    · exact py.append_right _

theorem k151 {base vb pm vt pb : Nat} {lm : Option Nat} {mi mb li kd : Int} {xs ys : List Int} {ps : Ps} {x : Int} {p : Value} (c : CG base vb lm pm xs ys ps w) (hb : Bk w pb (.cells #[p] 251 (0, 0))) (hp : PCh p kd x w) (hkd : kd = 0 ∨ kd = 3 ∧ xs ≠ []) (hx : x ∉ xs ++ ys) (hx0 : x ≠ 0) (hl : xs.length + 1 ≤ 9 ∨ kd = 3) (hl2 : ys.length + 1 ≤ 4 ∨ kd = 0)
    (h : ∀ vb' lm' pm' xs' ys' ps' w', Ex w w' → xs'.Perm (chX kd x xs) → ys'.Perm (chY kd x ys) → CG base vb' lm' pm' xs' ys' ps' w' → K (.tuple #[.agg (Cfg vb' lm'), .map (some pm'), .nilIface]) w') :
    CK Pr 151 #[.agg (Chg vb lm pm vt mi mb li), .pointer (some ⟨pb, 0, none⟩)] w K := by
  refine c151 ?_
  unfold t151
  refine e_boxA fun b1 w1 e1 hb1 s1 s2 => ?_
  refine e_allocA fun b2 w2 e2 hb2 s3 s4 => ?_
  have hb12 := e2.at_ hb1
  have hbp := e2.at_ (e1.at_ hb)
  refine q_ldW hb12 (by rfl) ?_
  refine q_ld (x := p) hbp (by rfl) ?_
  have po := hp.one
  refine e_bs1 (n := 1) (by rw [one_cells' po]; rfl) (by omega) fun w3 e3 o3 z3 => ?_
  rw [one_cells' po] at o3
  have E3 : Ex w w3 := (e1.trans e2).trans e3
  refine cl_fn (k152 (te := some 251) (c.ex E3) o3.sl (hp.ex E3) hkd hx hx0 hl hl2 fun vb' lm' pm' xs' ys' ps' w4 e4 px py c4 => ?_)
  refine q_ext (x := .agg (Cfg vb' lm')) rfl ?_
  refine q_ext (x := .map (some pm')) rfl ?_
  refine q_ext (x := .nilIface) rfl ?_
  have hb24 := e4.at_ (e3.at_ hb2)
  refine u_stA hb24 (Nat.le_of_ble_eq_true rfl) (by rfl) (by rfl) nmK45 fun w5 u5 hb5 z5 => ?_
  refine q_ldW hb5 (by rfl) ?_
  have zz1 := e1.size
  exact h vb' lm' pm' xs' ys' ps' w5 ((E3.trans e4).new u5 (by intro z hz; omega)) px py ⟨c4.vo.up u5 (.inl rfl), c4.le.up u5 (.inl rfl), c4.pr.up u5 (.inl rfl) (.inl rfl) rfl, c4.keys, c4.nd, c4.lea, c4.lx, c4.ly⟩

end Go.Proofs.YtmmpogfbhelioaaGreat
/-
  Contracts: the changes out of a configuration; a chain of them; Restore.
  Conditions: the configuration is not joint, all its members differ, and there is a voter.
-/
namespace Go.Proofs.YtmmpogfbhelioaaGreat
set_option maxRecDepth 10000
set_option linter.unusedVariables false
set_option linter.unusedSimpArgs false
set_option linter.unusedVariables false
set_option linter.unusedSimpArgs false
attribute [local irreducible] Instr.box Instr.alloc Instr.loadAt Instr.storeAt Instr.fieldAt Instr.indexAt Instr.build Instr.buildSlice Instr.makeSlice Instr.makeMap Instr.mapUpdate Instr.lookup Instr.range Instr.next Instr.entry Instr.extract Instr.makeInterface Instr.makeFunc Instr.sliceAt Instr.typeAssert Instr.field Instr.index Builtin.len_ Builtin.cap_ Builtin.max_ Builtin.min_ Builtin.append_ Builtin.copy_ Builtin.delete_ convert binS pickS nilS callV callM Op.unary Own Mp It Cu


variable {K : Value → World → Prop} {w : World} {te : Option Nat}

theorem k215 {n : Int} (h : ∀ b' w', Ex w w' → w.heap.size ≤ b' → Bk w' b' (.cells #[.int .i32 n] 306 (0, 0)) → K (.pointer (some ⟨b', 0, none⟩)) w') : CK Pr 215 #[.int .i32 n] w K := by
  refine c215 ?_
  unfold t215
  (repeat (first | (refine go ?_; intros) | (refine gon ?_; intros)))
  rename_i b1 w1 e1 hb1 s1 s2 w2 u2 hb2 z2
  exact h b1 w2 (e1.new u2 (by intro x hx; subst hx; omega)) (by omega) hb2

/-- Lists of pointers to changes. -/
inductive PChs : List Value → List (Int × Int) → World → Prop where
  | nil (w : World) : PChs [] [] w
  | cons {v : Value} {e : Int × Int} {vs : List Value} {es : List (Int × Int)} {w : World} (h : PCh v e.1 e.2 w) (r : PChs vs es w) : PChs (v :: vs) (e :: es) w
theorem PChs.ex {vs : List Value} {es : List (Int × Int)} {w' : World} (u : Ex w w') (h : PChs vs es w) : PChs vs es w' := by
  induction h with
  | nil => exact .nil _
  | cons h r ih => exact .cons (h.ex u) (ih u)
theorem PChs.mt {vs : List Value} {es : List (Int × Int)} {w' : World} {C : Nat → Prop} {T : List Nat} (u : Up C T w w') (hT : (T.contains 311 || T.contains 308 || T.contains 24) = false) (h : PChs vs es w) : PChs vs es w' := by
  induction h with
  | nil => exact .nil _
  | cons h r ih => exact .cons (h.mt u hT) (ih u)
theorem PChs.len {vs : List Value} {es : List (Int × Int)} (h : PChs vs es w) : vs.length = es.length := by
  induction h with
  | nil => rfl
  | cons _ _ ih => simp [ih]
theorem PChs.app {vs us : List Value} {es fs : List (Int × Int)} (h : PChs vs es w) (h' : PChs us fs w) : PChs (vs ++ us) (es ++ fs) w := by
  induction h with
  | nil => exact h'
  | cons h _ ih => exact .cons h (ih h')
theorem PChs.get {vs : List Value} {es : List (Int × Int)} (h : PChs vs es w) {i : Nat} {v : Value} (hv : vs[i]? = some v) : ∃ e, es[i]? = some e ∧ PCh v e.1 e.2 w := by
  induction h generalizing i with
  | nil => simp at hv
  | cons h r ih =>
    cases i with
    | zero => simp at hv; subst hv; exact ⟨_, rfl, h⟩
    | succ i => simpa using ih (by simpa using hv)

/-- The changes that make a configuration of voters and learners. -/
def chs (k : Int) (l : List Int) : List (Int × Int) := l.map fun x => (k, x)

-- the changes out of a configuration
theorem k150 {v : Value} {c : Cf} (hc : PC v c w) (ho : c.o = []) (hn : c.n = []) (hl : c.v.length ≤ 9 ∧ c.l.length ≤ 4) (h : ∀ v' us w', Ex w w' → Sl w' (some 251) 1 v' (ones us) → PChs us (chs 0 c.v ++ chs 3 c.l) w' → K (.tuple #[.slice none 0 0, v']) w') : CK Pr 150 #[v] w K := by
  refine c150 ?_
  unfold t150
  obtain ⟨b, v1, v2, v3, v4, v5, rfl, hb, h1, h2, h3, h4, h5⟩ := hc
  rw [ho] at h3
  rw [hn] at h4
  (repeat (first | (refine go ?_; intros) | (refine gon ?_; intros)))
  refine loop_n (α := Unit) (fun _ τ w' => g τ 0 = .slice none 0 0 ∧ g τ 2 = .int .i64 0 ∧ w' = w) (fun _ => 0) () ⟨rfl, rfl, rfl⟩ ?_
  rintro _ τ w' R ⟨h00, h02, rfl⟩ hR
  rw [h02]
  (repeat (first | (refine go ?_; intros) | (refine gon ?_; intros)))
  unfold t150_3
  (repeat (first | (refine go ?_; intros) | (refine gon ?_; intros)))
  refine loop_n (α := Unit) (fun _ τ1 w1 => g τ1 0 = .slice none 0 0 ∧ g τ1 2 = .int .i64 0 ∧ w1 = w') (fun _ => 0) () ⟨rfl, rfl, rfl⟩ ?_
  rintro _ τ1 w1 R1 ⟨h10, h12, rfl⟩ hR1
  rw [h12]
  (repeat (first | (refine go ?_; intros) | (refine gon ?_; intros)))
  unfold t150_2
  rw [h10]
  (repeat (first | (refine go ?_; intros) | (refine gon ?_; intros)))
  refine loop_n (α := Nat × List Value) (fun a τ2 w2 => g τ2 2 = .int .i64 (a.1 : Nat) ∧ a.1 ≤ c.v.length ∧ a.2.length = a.1 ∧ Ex w1 w2 ∧ Own w2 w1.heap.size 251 1 (g τ2 0) (ones a.2) ∧ PChs a.2 (chs 0 (c.v.take a.1)) w2) (fun a => c.v.length - a.1) (0, []) ⟨rfl, Nat.zero_le _, rfl, .refl _ _ _, Own.nil _ _ _ _, .nil _⟩ ?_
  rintro ⟨j, us⟩ τ2 w2 R2 ⟨hj, hle, hul, ex, own, pcs⟩ hR2
  simp only at hj hle hul own pcs hR2
  rw [hj]
  (repeat (first | (refine go ?_; intros) | (refine gon ?_; intros)))
  rw [nums_len]
  have zx := ex.size
  refine if_split (fun hbj => ?_) (fun hbj => ?_)
  · have hj' : j < c.v.length := by simpa using hbj
    obtain ⟨x, hx⟩ : ∃ x, c.v[j]? = some x := ⟨_, List.getElem?_eq_getElem hj'⟩
    refine q_ixs (x := .int .u64 x) j (h1.ex ex) rfl (by simp [nums, hx]) fun _ => ?_
    refine cl_fn (k215 fun kb w3 e3 s3 hkb => ?_)
    (repeat (first | (refine go ?_; intros) | (refine gon ?_; intros) | refine b309_0_1 (by first | rfl | assumption) (by first | rfl | assumption) ?_))
    rename_i nb w4 e4 hnb s4 s4' cb w5 e5 hcb s5 s5'
    have E5 : Ex w2 w5 := (e3.trans e4).trans e5
    have hp : PCh (.pointer (some ⟨cb, 0, none⟩)) 0 x w5 := ⟨cb, _, _, rfl, hcb, ⟨kb, rfl, e5.at_ (e4.at_ hkb)⟩, ⟨nb, rfl, e5.at_ hnb⟩⟩
    have zz3 := e3.size
    refine e_push1 (base := w1.heap.size) (own.ex E5) rfl (by simp [ones, hul]; omega) (by simp [ones, hul]; omega) (by omega) fun s6 v6 w6 u6 own6 hb6 z6 => ?_
    have lt := own.lt
    have e56 : Ex w1 w6 := (ex.trans E5).new u6 (by intro y hy; exact (lt y hy).1)
    (repeat (first | (refine go ?_; intros) | (refine gon ?_; intros)))
    rw [wrapS (by omega)]
    refine hR2 (j + 1, us ++ [.pointer (some ⟨cb, 0, none⟩)]) _ _ ⟨rfl, by show j + 1 ≤ _; omega, by simp [hul], e56, ?_, ?_⟩ (by show c.v.length - (j + 1) < _; omega)
    · have : ones (us ++ [.pointer (some ⟨cb, 0, none⟩)]) = ones us ++ [[.pointer (some ⟨cb, 0, none⟩)]] := by simp [ones]
      rw [this]
      exact own6
    · rw [take_snoc hx]
      have := ((pcs.ex E5).app (.cons (e := (0, x)) hp (.nil _))).mt u6 rfl
      simpa [chs] using this
  · have hjl : j = c.v.length := by
      have := of_decide_eq_false hbj
      omega
    subst hjl
    rw [List.take_length] at pcs
    unfold t150_1
    have hbw := ex.at_ hb
    (repeat (first | (refine go ?_; intros) | (refine gon ?_; intros)))
    refine loop_n (α := Nat × List Value) (fun a τ3 w3 => g τ3 2 = .int .i64 (a.1 : Nat) ∧ a.1 ≤ c.l.length ∧ a.2.length = a.1 + us.length ∧ Ex w1 w3 ∧ Own w3 w1.heap.size 251 1 (g τ3 0) (ones a.2) ∧ PChs a.2 (chs 0 c.v ++ chs 3 (c.l.take a.1)) w3) (fun a => c.l.length - a.1) (0, us) ⟨rfl, Nat.zero_le _, by simp, ex, own, by simpa [chs] using pcs⟩ ?_
    rintro ⟨j, qs⟩ τ3 w3 R3 ⟨hj, hle, hql, ex3, own3, pcs3⟩ hR3
    simp only at hj hle hql own3 pcs3 hR3
    rw [hj]
    (repeat (first | (refine go ?_; intros) | (refine gon ?_; intros)))
    rw [nums_len]
    have zx3 := ex3.size
    refine if_split (fun hbj => ?_) (fun hbj => ?_)
    · have hj' : j < c.l.length := by simpa using hbj
      obtain ⟨x, hx⟩ : ∃ x, c.l[j]? = some x := ⟨_, List.getElem?_eq_getElem hj'⟩
      refine q_ixs (x := .int .u64 x) j (h2.ex ex3) rfl (by simp [nums, hx]) fun _ => ?_
      refine cl_fn (k215 fun kb w4 e4 s4 hkb => ?_)
      (repeat (first | (refine go ?_; intros) | (refine gon ?_; intros) | refine b309_0_1 (by first | rfl | assumption) (by first | rfl | assumption) ?_))
      rename_i nb w5 e5 hnb s5 s5' cb w6 e6 hcb s6 s6'
      have E6 : Ex w3 w6 := (e4.trans e5).trans e6
      have hp : PCh (.pointer (some ⟨cb, 0, none⟩)) 3 x w6 := ⟨cb, _, _, rfl, hcb, ⟨kb, rfl, e6.at_ (e5.at_ hkb)⟩, ⟨nb, rfl, e6.at_ hnb⟩⟩
      have zz4 := e4.size
      refine e_push1 (base := w1.heap.size) (own3.ex E6) rfl (by simp [ones, hql, hul]; omega) (by simp [ones, hql, hul]; omega) (by omega) fun s7 v7 w7 u7 own7 hb7 z7 => ?_
      have lt := own3.lt
      have e67 : Ex w1 w7 := (ex3.trans E6).new u7 (by intro y hy; exact (lt y hy).1)
      (repeat (first | (refine go ?_; intros) | (refine gon ?_; intros)))
      rw [wrapS (by omega)]
      refine hR3 (j + 1, qs ++ [.pointer (some ⟨cb, 0, none⟩)]) _ _ ⟨rfl, by show j + 1 ≤ _; omega, by simp [hql]; omega, e67, ?_, ?_⟩ (by show c.l.length - (j + 1) < _; omega)
      · have : ones (qs ++ [.pointer (some ⟨cb, 0, none⟩)]) = ones qs ++ [[.pointer (some ⟨cb, 0, none⟩)]] := by simp [ones]
        rw [this]
        exact own7
      · rw [take_snoc hx]
        have := ((pcs3.ex E6).app (.cons (e := (3, x)) hp (.nil _))).mt u7 rfl
        simpa [chs] using this
    · have hjl : j = c.l.length := by
        have := of_decide_eq_false hbj
        omega
      subst hjl
      rw [List.take_length] at pcs3
      have hbw3 := ex3.at_ hb
      (repeat (first | (refine go ?_; intros) | (refine gon ?_; intros)))
      refine loop_n (α := Unit) (fun _ τ4 w4 => g τ4 0 = g τ3 0 ∧ g τ4 2 = .int .i64 0 ∧ w4 = w3) (fun _ => 0) () ⟨rfl, rfl, rfl⟩ ?_
      rintro _ τ4 w4 R4 ⟨h40, h42, rfl⟩ hR4
      rw [h42, h40, h00]
      (repeat (first | (refine go ?_; intros) | (refine gon ?_; intros)))
      exact h _ qs _ ex3 own3.sl pcs3

end Go.Proofs.YtmmpogfbhelioaaGreat
/-
  Contracts: a chain of changes; Restore.
  Conditions: the configuration is not joint, all its members differ, and there is a voter.
-/
namespace Go.Proofs.YtmmpogfbhelioaaGreat
set_option maxRecDepth 10000
set_option linter.unusedVariables false
set_option linter.unusedSimpArgs false
theorem nmK47 {p : Prop} (h : p := by (try simp only [List.getElem?_toArray, List.getElem?_cons_zero, List.getElem?_cons_succ, List.setIfInBounds_toArray, List.set_cons_zero, List.set_cons_succ, List.toList_toArray, List.drop_zero, List.drop_succ_cons, List.take_zero, List.take_succ_cons, Nat.zero_add, Nat.add_zero, Nat.reduceAdd, putCells, Cfg, Chg]) <;> rfl) : p := h
theorem goK47 {G H : Prop} (h : H) (s : Stp G H := by (apply Stp.of; intro hS; (first | (refine q_ld bk_ nmK47 ?_) | (refine q_ldU bk_ rfl nmK47 ?_) | (refine q_ldW bk_ (by rfl) ?_) | (refine q_ldWU bk_ rfl (by rfl) ?_) | (refine q_ldP bk_ (Nat.le_of_ble_eq_true rfl) nmK47 ?_) | (refine q_ldPU bk_ rfl (Nat.le_of_ble_eq_true rfl) nmK47 ?_) | (refine q_ext nmK47 ?_) | (refine u_st bk_ (Nat.le_of_ble_eq_true rfl) (by first | rfl | assumption) nmK47 ?_) | (refine u_stA bk_ (Nat.le_of_ble_eq_true rfl) (by rfl) (by rfl) nmK47 ?_) | (refine q_field nmK47 ?_)); exact hS.out)) : G := s.f h
set_option linter.unusedVariables false
set_option linter.unusedSimpArgs false
attribute [local irreducible] Instr.box Instr.alloc Instr.loadAt Instr.storeAt Instr.fieldAt Instr.indexAt Instr.build Instr.buildSlice Instr.makeSlice Instr.makeMap Instr.mapUpdate Instr.lookup Instr.range Instr.next Instr.entry Instr.extract Instr.makeInterface Instr.makeFunc Instr.sliceAt Instr.typeAssert Instr.field Instr.index Builtin.len_ Builtin.cap_ Builtin.max_ Builtin.min_ Builtin.append_ Builtin.copy_ Builtin.delete_ convert binS pickS nilS callV callM Op.unary Own Mp It Cu


variable {K : Value → World → Prop} {w : World} {te : Option Nat}

/-- Lists of functions that make a change each. -/
inductive PFs : List Value → List (Int × Int) → World → Prop where
  | nil (w : World) : PFs [] [] w
  | cons {b : Nat} {p : Value} {e : Int × Int} {vs : List Value} {es : List (Int × Int)} {w : World} (hb : Bk w b (.cells #[p] 251 (0, 0))) (h : PCh p e.1 e.2 w) (r : PFs vs es w) : PFs (.func (.func 151) #[] #[.pointer (some ⟨b, 0, none⟩)] :: vs) (e :: es) w
theorem PFs.mt {vs : List Value} {es : List (Int × Int)} {w' : World} {C : Nat → Prop} {T : List Nat} (u : Up C T w w') (hT : (T.contains 311 || T.contains 308 || T.contains 24) = false) (h2 : T.contains 253 = false) (h : PFs vs es w) : PFs vs es w' := by
  induction h with
  | nil => exact .nil _
  | cons hb h r ih => exact .cons (u.at_ hb h2) (h.mt u hT) (ih u)
theorem PFs.ex {vs : List Value} {es : List (Int × Int)} {w' : World} (u : Ex w w') (h : PFs vs es w) : PFs vs es w' := h.mt u rfl rfl
theorem PFs.len {vs : List Value} {es : List (Int × Int)} (h : PFs vs es w) : vs.length = es.length := by
  induction h with
  | nil => rfl
  | cons _ _ _ ih => simp [ih]
theorem PFs.snoc {b : Nat} {p : Value} {e : Int × Int} {vs : List Value} {es : List (Int × Int)} (h : PFs vs es w) (hb : Bk w b (.cells #[p] 251 (0, 0))) (hp : PCh p e.1 e.2 w) : PFs (vs ++ [.func (.func 151) #[] #[.pointer (some ⟨b, 0, none⟩)]]) (es ++ [e]) w := by
  induction h with
  | nil => exact .cons hb hp (.nil _)
  | cons q1 q2 _ ih => exact .cons q1 q2 (ih hb hp)
theorem PFs.get {vs : List Value} {es : List (Int × Int)} (h : PFs vs es w) {i : Nat} {v : Value} (hv : vs[i]? = some v) : ∃ e b p, es[i]? = some e ∧ v = .func (.func 151) #[] #[.pointer (some ⟨b, 0, none⟩)] ∧ Bk w b (.cells #[p] 251 (0, 0)) ∧ PCh p e.1 e.2 w := by
  induction h generalizing i with
  | nil => simp at hv
  | cons hb h r ih =>
    cases i with
    | zero => simp at hv; subst hv; exact ⟨_, _, _, rfl, rfl, hb, h⟩
    | succ i => simpa using ih (by simpa using hv)

def accX (l : List (Int × Int)) : List Int := (l.filter fun e => decide (e.1 = 0)).map (·.2)
def accY (l : List (Int × Int)) : List Int := (l.filter fun e => decide (e.1 ≠ 0)).map (·.2)
theorem accX_snoc (l : List (Int × Int)) (e : Int × Int) : accX (l ++ [e]) = chX e.1 e.2 (accX l) := by
  unfold accX chX
  rw [List.filter_append, List.map_append]
  by_cases h : e.1 = 0 <;> simp [h]
theorem accY_snoc (l : List (Int × Int)) (e : Int × Int) : accY (l ++ [e]) = chY e.1 e.2 (accY l) := by
  unfold accY chY
  rw [List.filter_append, List.map_append]
  by_cases h : e.1 = 0 <;> simp [h]
theorem chX_perm {k x : Int} {l m : List Int} (h : l.Perm m) : (chX k x l).Perm (chX k x m) := by
  unfold chX
  split
  · exact h.append_right _
  · exact h
theorem chY_perm {k x : Int} {l m : List Int} (h : l.Perm m) : (chY k x l).Perm (chY k x m) := by
  unfold chY
  split
  · exact h
  · exact h.append_right _

/-- What changes a chain may have. -/
def ChOk (es : List (Int × Int)) : Prop := ∀ (j : Nat) (e : Int × Int), es[j]? = some e → (e.1 = 0 ∨ e.1 = 3 ∧ accX (es.take j) ≠ []) ∧ e.2 ∉ accX (es.take j) ++ accY (es.take j) ∧ e.2 ≠ 0 ∧ ((accX (es.take j)).length + 1 ≤ 9 ∨ e.1 = 3) ∧ ((accY (es.take j)).length + 1 ≤ 4 ∨ e.1 = 0)

theorem k157 {base vb pm vt : Nat} {lm : Option Nat} {mi mb li : Int} {v : Value} {fs : List Value} {es : List (Int × Int)} (c : CG base vb lm pm [] [] [] w) (hs : Sl w (some 253) 1 v (ones fs)) (hf : PFs fs es w) (ok : ChOk es) (hl : es.length ≤ 100)
    (h : ∀ vb' lm' pm' xs ys ps w', Ex w w' → xs.Perm (accX es) → ys.Perm (accY es) → CG base vb' lm' pm' xs ys ps w' → K (.tuple #[.agg (Cfg vb' lm'), .map (some pm'), .nilIface]) w') :
    CK Pr 157 #[.agg (Chg vb lm pm vt mi mb li), v] w K := by
  refine c157 ?_
  unfold t157
  refine e_boxA fun b1 w1 e1 hb1 s1 s2 => ?_
  refine e_allocA fun b2 w2 e2 hb2 s3 s4 => ?_
  have E2 := e1.trans e2
  have hfl := hf.len
  have zz1 := e1.size
  have zz2 := e2.size
  refine q_lenSl (hs.ex E2) ?_
  rw [show (ones fs).length = es.length by simp [ones, hfl]]
  refine loop_n (α := Nat) (fun j τ w' => g τ 6 = .int .i64 j ∧ j ≤ es.length ∧ Ex w w' ∧ w2.heap.size ≤ w'.heap.size ∧ Bk w' b2 (.cells #[.map none, .map none, .bool false, .map none, .map none] 136 (0, 0)) ∧ ∃ vb lm pm xs ys ps, Bk w' b1 (.cells (Chg vb lm pm vt mi mb li) 209 (0, 0)) ∧ CG base vb lm pm xs ys ps w' ∧ xs.Perm (accX (es.take j)) ∧ ys.Perm (accY (es.take j))) (fun j => es.length - j) 0
    ⟨rfl, Nat.zero_le _, E2, Nat.le_refl _, hb2, vb, lm, pm, [], [], [], e2.at_ hb1, c.ex E2, .refl _, .refl _⟩ ?_
  clear hb1 hb2
  rintro j τ w' R ⟨hj, hle, ex, hz, hb2, vb3, lm3, pm3, xs, ys, ps, hb1, c3, px, py⟩ hR
  rw [hj]
  (repeat (first | (refine go ?_; intros) | (refine goK47 ?_; intros)))
  have zx := ex.size
  refine if_split (fun hbj => ?_) (fun hbj => ?_)
  · have hj' : j < es.length := by simpa using hbj
    obtain ⟨f, hfj⟩ : ∃ f, fs[j]? = some f := ⟨_, List.getElem?_eq_getElem (by omega)⟩
    obtain ⟨e, pb, p, he, rfl, hpb, hpc⟩ := (hf.ex ex).get hfj
    obtain ⟨k1, k2, k3, k4, k5⟩ := ok j e he
    refine q_ixs (x := .func (.func 151) #[] #[.pointer (some ⟨pb, 0, none⟩)]) j (hs.ex ex) rfl (by simp [ones, hfj]) fun _ => ?_
    refine q_ldW hb1 (by rfl) ?_
    have pxy : (xs ++ ys).Perm (accX (es.take j) ++ accY (es.take j)) := List.Perm.append px py
    refine cl_clo (k151 c3 hpb hpc (k1.imp id fun q => ⟨q.1, fun hh => q.2 (by rw [hh] at px; exact List.perm_nil.1 px.symm)⟩) (fun hh => k2 (pxy.mem_iff.1 hh)) k3 (by rw [px.length_eq]; exact k4) (by rw [py.length_eq]; exact k5) fun vb4 lm4 pm4 xs4 ys4 ps4 w4 e4 qx qy c4 => ?_)
    refine q_ext (x := .agg (Cfg vb4 lm4)) rfl ?_
    refine q_ext (x := .map (some pm4)) rfl ?_
    refine q_ext (x := .nilIface) rfl ?_
    refine e_allocA fun b5 w5 e5 hb5 s5 s6 => ?_
    refine u_stA hb5 (Nat.le_of_ble_eq_true rfl) (by rfl) (by rfl) nmK47 fun w6 u6 hb6 z6 => ?_
    have zz4 := e4.size
    have E6 : Ex w' w6 := (e4.trans e5).new u6 (by intro y hy; omega)
    have hb16 := E6.at_ hb1
    have hb26 := E6.at_ hb2
    clear hb1 hb5
    (repeat (first | (refine go ?_; intros) | (refine goK47 ?_; intros)))
    rename_i w7 u7 hb7 z7 w8 u8 hb8 z8
    rw [wrapS (by omega)]
    have U78 : Up (fun x => x = b1) [211] w6 w8 := u7.trans u8
    refine hR (j + 1) _ _ ⟨rfl, by omega, (ex.trans E6).new U78 (by intro y hy; omega), by have := E6.size; omega, U78.at_ hb26 rfl, vb4, lm4, pm4, xs4, ys4, ps4, hb8, ?_, ?_, ?_⟩ (by omega)
    · have c6 : CG base vb4 lm4 pm4 xs4 ys4 ps4 w6 := c4.ex (e5.new u6 (by intro y hy; omega))
      exact ⟨c6.vo.up U78 (.inl rfl), c6.le.up U78 (.inl rfl), c6.pr.up U78 (.inl rfl) (.inl rfl) rfl, c6.keys, c6.nd, c6.lea, c6.lx, c6.ly⟩
    · rw [take_snoc he, accX_snoc]
      exact qx.trans (chX_perm px)
    · rw [take_snoc he, accY_snoc]
      exact qy.trans (chY_perm py)
  · have hjl : j = es.length := by
      have := of_decide_eq_false hbj
      omega
    subst hjl
    rw [List.take_length] at px py
    refine dr_rule (fun x => x = b2) [138] fun w4 e4 z4 => ?_
    have hb14 := e4.at_ hb1
    have hb24 := e4.at_ hb2
    clear hb1 hb2
    (repeat (first | (refine go ?_; intros) | (refine goK47 ?_; intros)))
    rename_i w5 u5 hb5 z5
    refine ⟨u5, ?_⟩
    (repeat (first | (refine go ?_; intros) | (refine goK47 ?_; intros)))
    have c4 := c3.ex e4
    exact h vb3 lm3 pm3 xs ys ps w5 ((ex.trans e4).new u5 (by intro y hy; omega)) px py ⟨c4.vo.up u5 (.inl rfl), c4.le.up u5 (.inl rfl), c4.pr.up u5 (.inl rfl) (.inl rfl) rfl, c4.keys, c4.nd, c4.lea, c4.lx, c4.ly⟩

end Go.Proofs.YtmmpogfbhelioaaGreat
/-
  Contract: Restore of a configuration.
  Conditions: the configuration is not joint, all its members differ, and there is a voter.
-/
namespace Go.Proofs.YtmmpogfbhelioaaGreat
set_option maxRecDepth 10000
set_option linter.unusedVariables false
set_option linter.unusedSimpArgs false
theorem nmK48 {p : Prop} (h : p := by (try simp only [List.getElem?_toArray, List.getElem?_cons_zero, List.getElem?_cons_succ, List.setIfInBounds_toArray, List.set_cons_zero, List.set_cons_succ, List.toList_toArray, List.drop_zero, List.drop_succ_cons, List.take_zero, List.take_succ_cons, Nat.zero_add, Nat.add_zero, Nat.reduceAdd, putCells, Cfg, Chg]) <;> rfl) : p := h
theorem goK48 {G H : Prop} (h : H) (s : Stp G H := by (apply Stp.of; intro hS; (first | (refine q_ld bk_ nmK48 ?_) | (refine q_ldU bk_ rfl nmK48 ?_) | (refine q_ldW bk_ (by rfl) ?_) | (refine q_ldWU bk_ rfl (by rfl) ?_) | (refine q_ldP bk_ (Nat.le_of_ble_eq_true rfl) nmK48 ?_) | (refine q_ldPU bk_ rfl (Nat.le_of_ble_eq_true rfl) nmK48 ?_) | (refine q_ext nmK48 ?_) | (refine u_st bk_ (Nat.le_of_ble_eq_true rfl) (by first | rfl | assumption) nmK48 ?_) | (refine u_stA bk_ (Nat.le_of_ble_eq_true rfl) (by rfl) (by rfl) nmK48 ?_) | (refine q_field nmK48 ?_)); exact hS.out)) : G := s.f h
set_option linter.unusedVariables false
set_option linter.unusedSimpArgs false
attribute [local irreducible] Instr.box Instr.alloc Instr.loadAt Instr.storeAt Instr.fieldAt Instr.indexAt Instr.build Instr.buildSlice Instr.makeSlice Instr.makeMap Instr.mapUpdate Instr.lookup Instr.range Instr.next Instr.entry Instr.extract Instr.makeInterface Instr.makeFunc Instr.sliceAt Instr.typeAssert Instr.field Instr.index Builtin.len_ Builtin.cap_ Builtin.max_ Builtin.min_ Builtin.append_ Builtin.copy_ Builtin.delete_ convert binS pickS nilS callV callM Op.unary Own Mp It Cu


variable {K : Value → World → Prop} {w : World} {te : Option Nat}

theorem accX_chs (v m : List Int) : accX (chs 0 v ++ chs 3 m) = v := by
  have h1 : (chs 0 v).filter (fun e => decide (e.1 = 0)) = chs 0 v := List.filter_eq_self.2 fun a ha => by
    obtain ⟨x, _, rfl⟩ := List.mem_map.1 ha
    rfl
  have h2 : (chs 3 m).filter (fun e => decide (e.1 = 0)) = [] := List.filter_eq_nil_iff.2 fun a ha => by
    obtain ⟨x, _, rfl⟩ := List.mem_map.1 ha
    simp
  unfold accX
  rw [List.filter_append, h1, h2, List.append_nil]
  simp [chs, Function.comp_def]
theorem accY_chs (v m : List Int) : accY (chs 0 v ++ chs 3 m) = m := by
  have h1 : (chs 0 v).filter (fun e => decide (e.1 ≠ 0)) = [] := List.filter_eq_nil_iff.2 fun a ha => by
    obtain ⟨x, _, rfl⟩ := List.mem_map.1 ha
    simp
  have h2 : (chs 3 m).filter (fun e => decide (e.1 ≠ 0)) = chs 3 m := List.filter_eq_self.2 fun a ha => by
    obtain ⟨x, _, rfl⟩ := List.mem_map.1 ha
    rfl
  unfold accY
  rw [List.filter_append, h1, h2, List.nil_append]
  simp [chs, Function.comp_def]
theorem chok {v l : List Int} (hn : (v ++ l).Nodup) (hv : v ≠ []) (h0 : ∀ x ∈ v ++ l, x ≠ 0) (h9 : v.length ≤ 9) (h4 : l.length ≤ 4) : ChOk (chs 0 v ++ chs 3 l) := by
  intro j e he
  have hnd := List.nodup_append.1 hn
  have hcl : (chs 0 v).length = v.length := by simp [chs]
  rcases Nat.lt_or_ge j v.length with hj | hj
  · rw [List.getElem?_append_left (by omega)] at he
    obtain ⟨x, hx⟩ : ∃ x, v[j]? = some x := ⟨_, List.getElem?_eq_getElem hj⟩
    have he2 : (chs 0 v)[j]? = some (0, x) := by simp [chs, hx]
    rw [he2] at he
    cases he
    have ht : (chs 0 v ++ chs 3 l).take j = chs 0 (v.take j) ++ chs 3 [] := by
      rw [List.take_append_of_le_length (by omega)]
      simp [chs, List.map_take]
    rw [ht, accX_chs, accY_chs]
    refine ⟨.inl rfl, ?_, h0 x (List.mem_append_left _ (List.mem_of_getElem? hx)), .inl (by rw [List.length_take]; omega), .inr rfl⟩
    rw [List.append_nil]
    exact notin_take hnd.1 hx
  · rw [List.getElem?_append_right (by omega), hcl] at he
    have hjl : j - v.length < l.length := by
      have := (List.getElem?_eq_some_iff.1 he).1
      simpa [chs] using this
    obtain ⟨x, hx⟩ : ∃ x, l[j - v.length]? = some x := ⟨_, List.getElem?_eq_getElem hjl⟩
    have he2 : (chs 3 l)[j - v.length]? = some (3, x) := by simp [chs, hx]
    rw [he2] at he
    cases he
    have ht : (chs 0 v ++ chs 3 l).take j = chs 0 v ++ chs 3 (l.take (j - v.length)) := by
      rw [List.take_append, List.take_of_length_le (by omega), hcl]
      simp [chs, List.map_take]
    rw [ht, accX_chs, accY_chs]
    refine ⟨.inr ⟨rfl, hv⟩, ?_, h0 x (List.mem_append_right _ (List.mem_of_getElem? hx)), .inr rfl, .inl (by rw [List.length_take]; omega)⟩
    rw [List.mem_append, not_or]
    exact ⟨fun hh => hnd.2.2 x hh x (List.mem_of_getElem? hx) rfl, notin_take hnd.2.1 hx⟩

theorem k103 {base vb pm vt : Nat} {mi mb li : Int} {v : Value} {c : Cf} (cg : CG base vb none pm [] [] [] w) (hc : PC v c w) (ho : c.o = []) (hn : c.n = []) (nd : (c.v ++ c.l).Nodup) (ne : c.v ≠ []) (h0 : ∀ x ∈ c.v ++ c.l, x ≠ 0) (l9 : c.v.length ≤ 9) (l4 : c.l.length ≤ 4)
    (h : ∀ vb' lm' pm' xs ys ps w', Ex w w' → xs.Perm c.v → ys.Perm c.l → CG base vb' lm' pm' xs ys ps w' → K (.tuple #[.agg (Cfg vb' lm'), .map (some pm'), .nilIface]) w') : CK Pr 103 #[.agg (Chg vb none pm vt mi mb li), v] w K := by
  refine c103 ?_
  unfold t103
  refine e_boxA fun b1 w1 e1 hb1 s1 s2 => ?_
  have vo := hc.one
  refine e_box1 vo fun b2 w2 e2 hb2 s3 s4 => ?_
  refine e_allocA fun b3 w3 e3 hb3 s5 s6 => ?_
  have E3 := (e1.trans e2).trans e3
  have hb13 := e3.at_ (e2.at_ hb1)
  refine q_ld (x := v) (e3.at_ hb2) (by rfl) ?_
  refine cl_fn (k150 (hc.ex E3) ho hn ⟨l9, l4⟩ fun v4 us w4 e4 hs4 pcs => ?_)
  refine q_ext (x := .slice none 0 0) rfl ?_
  refine q_ext (x := v4) rfl ?_
  refine e_alloc1 rfl fun b5 w5 e5 hb5 s7 s8 => ?_
  have ov4 := hs4.one
  refine u_st hb5 (by simp) ov4 rfl fun w6 u6 hb6 z6 => ?_
  have zz1 := e1.size
  have zz2 := e2.size
  have zz3 := e3.size
  have zz4 := e4.size
  have E46 : Ex w4 w6 := e5.new u6 (by intro y hy; omega)
  have E6 : Ex w w6 := (E3.trans e4).trans E46
  have hs6 := hs4.ex E46
  have pcs6 := pcs.ex E46
  have hb16 := E46.at_ (e4.at_ hb13)
  have hb36 := E46.at_ (e4.at_ hb3)
  have hul := pcs.len
  have hel : (chs 0 c.v ++ chs 3 c.l).length ≤ 100 := by simp [chs]; omega
  have ok := chok nd ne h0 l9 l4
  have ex1 := accX_chs c.v c.l
  have ey1 := accY_chs c.v c.l
  generalize chs 0 c.v ++ chs 3 c.l = es at pcs pcs6 hul hel ok ex1 ey1
  clear hb5 hb13 hb1 hb2 hb3 hs4
  unfold Jo
  (repeat (first | (refine go ?_; intros) | (refine goK48 ?_; intros)))
  rw [show (ones us).length = es.length by simp [ones, hul]]
  refine loop_n (α := Nat × List Value) (fun a τ w' => g τ 3 = .int .i64 (a.1 : Nat) ∧ a.1 ≤ es.length ∧ Ex w6 w' ∧ Own w' w6.heap.size 253 1 (g τ 0) (ones a.2) ∧ PFs a.2 (es.take a.1) w') (fun a => es.length - a.1) (0, []) ⟨rfl, Nat.zero_le _, .refl _ _ _, Own.nil _ _ _ _, .nil _⟩ ?_
  rintro ⟨j, fs⟩ τ w' R ⟨hj, hle, ex, own, pfs⟩ hR
  simp only at hj hle own pfs hR
  have zx := ex.size
  have hfl := pfs.len
  rw [List.length_take] at hfl
  rw [hj]
  (repeat (first | (refine go ?_; intros) | (refine goK48 ?_; intros)))
  refine if_split (fun hbj => ?_) (fun hbj => ?_)
  · have hj' : j < es.length := by simpa using hbj
    obtain ⟨u, hu⟩ : ∃ u, us[j]? = some u := ⟨_, List.getElem?_eq_getElem (by omega)⟩
    obtain ⟨e, he, hpc⟩ := pcs6.get hu
    have uo := hpc.one
    refine q_ixs (x := u) j (hs6.ex ex) rfl (by simp [ones, hu]) fun _ => ?_
    refine e_alloc1 rfl fun cb w7 e7 hcb s9 s10 => ?_
    refine u_st hcb (by simp) uo rfl fun w8 u8 hb8 z8 => ?_
    have hb8' : Bk w8 cb (.cells #[u] 251 (0, 0)) := hb8
    have E8 : Ex w' w8 := e7.new u8 (by intro y hy; omega)
    refine q_mkf ?_
    refine e_push1 (base := w6.heap.size) (own.ex E8) rfl (by simp [ones, hfl]; omega) (by simp [ones, hfl]; omega) (by omega) fun s11 v9 w9 u9 own9 hb9 z9 => ?_
    have lt := own.lt
    (repeat (first | (refine go ?_; intros) | (refine goK48 ?_; intros)))
    rw [wrapS (by omega)]
    refine hR (j + 1, fs ++ [.func (.func 151) #[] #[.pointer (some ⟨cb, 0, none⟩)]]) _ _ ⟨rfl, by show j + 1 ≤ _; omega, (ex.trans E8).new u9 (by intro y hy; exact (lt y hy).1), ?_, ?_⟩ (by show es.length - (j + 1) < _; omega)
    · have : ones (fs ++ [.func (.func 151) #[] #[.pointer (some ⟨cb, 0, none⟩)]]) = ones fs ++ [[.func (.func 151) #[] #[.pointer (some ⟨cb, 0, none⟩)]]] := by simp [ones]
      rw [this]
      exact own9
    · rw [take_snoc he]
      exact ((pfs.ex E8).snoc hb8' (hpc.ex (ex.trans E8))).mt u9 rfl rfl
  · have hjl : j = es.length := by
      have := of_decide_eq_false hbj
      omega
    subst hjl
    rw [List.take_length] at pfs
    have hb17 := ex.at_ hb16
    refine q_ldW hb17 (by rfl) ?_
    have cgw : CG base vb none pm [] [] [] w' := cg.ex (E6.trans ex)
    refine cl_fn (k157 cgw own.sl pfs ok hel fun vb' lm' pm' xs ys ps w8 e8 px py c8 => ?_)
    refine q_ext (x := .agg (Cfg vb' lm')) rfl ?_
    refine q_ext (x := .map (some pm')) rfl ?_
    refine q_ext (x := .nilIface) rfl ?_
    have hb38 := e8.at_ (ex.at_ hb36)
    refine u_stA hb38 (Nat.le_of_ble_eq_true rfl) (by rfl) (by rfl) nmK48 fun w9 u9 hb9 z9 => ?_
    refine q_ldW hb9 (by rfl) ?_
    rw [ex1] at px
    rw [ey1] at py
    exact h vb' lm' pm' xs ys ps w9 (((E6.trans ex).trans e8).new u9 (by intro y hy; omega)) px py ⟨c8.vo.up u9 (.inl rfl), c8.le.up u9 (.inl rfl), c8.pr.up u9 (.inl rfl) (.inl rfl) rfl, c8.keys, c8.nd, c8.lea, c8.lx, c8.ly⟩

end Go.Proofs.YtmmpogfbhelioaaGreat
/-
  Contracts: the configuration in words of the package; the machine takes a configuration on.
  Conditions: the configuration is not joint; the machine is a follower.
-/
namespace Go.Proofs.YtmmpogfbhelioaaGreat
set_option maxRecDepth 10000
set_option linter.unusedVariables false
set_option linter.unusedSimpArgs false
theorem nmK51 {p : Prop} (h : p := by (try simp only [List.getElem?_toArray, List.getElem?_cons_zero, List.getElem?_cons_succ, List.setIfInBounds_toArray, List.set_cons_zero, List.set_cons_succ, List.toList_toArray, List.drop_zero, List.drop_succ_cons, List.take_zero, List.take_succ_cons, Nat.zero_add, Nat.add_zero, Nat.reduceAdd, putCells, Rf.cells, Cfg]) <;> rfl) : p := h
theorem goK51 {G H : Prop} (h : H) (s : Stp G H := by (apply Stp.of; intro hS; (first | (refine q_ld bk_ nmK51 ?_) | (refine q_ldU bk_ rfl nmK51 ?_) | (refine q_ldW bk_ (by rfl) ?_) | (refine q_ldWU bk_ rfl (by rfl) ?_) | (refine q_ldP bk_ (Nat.le_of_ble_eq_true rfl) nmK51 ?_) | (refine q_ldPU bk_ rfl (Nat.le_of_ble_eq_true rfl) nmK51 ?_) | (refine q_ext nmK51 ?_) | (refine u_st bk_ (Nat.le_of_ble_eq_true rfl) (by first | rfl | assumption) nmK51 ?_) | (refine u_stA bk_ (Nat.le_of_ble_eq_true rfl) (by rfl) (by rfl) nmK51 ?_) | (refine q_field nmK51 ?_)); exact hS.out)) : G := s.f h
set_option linter.unusedVariables false
set_option linter.unusedSimpArgs false
attribute [local irreducible] Instr.box Instr.alloc Instr.loadAt Instr.storeAt Instr.fieldAt Instr.indexAt Instr.build Instr.buildSlice Instr.makeSlice Instr.makeMap Instr.mapUpdate Instr.lookup Instr.range Instr.next Instr.entry Instr.extract Instr.makeInterface Instr.makeFunc Instr.sliceAt Instr.typeAssert Instr.field Instr.index Builtin.len_ Builtin.cap_ Builtin.max_ Builtin.min_ Builtin.append_ Builtin.copy_ Builtin.delete_ convert binS pickS nilS callV callM Op.unary Own Mp It Cu


variable {K : Value → World → Prop} {w : World} {te : Option Nat}

theorem k160 {b vb : Nat} {lm : Option Nat} {R : Rf} {xs ys : List Int} (hb : Bk w b (.cells R.cells 187 (0, 0))) (h1 : R.vb = some vb) (h2 : R.v1 = none) (h3 : R.al = false) (h4 : R.lm = lm) (h5 : R.lx = none)
    (hv : Mp w vb (ms xs)) (hl : MpO w lm (ms ys)) (lx : xs.length ≤ 9) (ly : ys.length ≤ 4)
    (h : ∀ v w' c, Ex w w' → PC v c w' → c.v.Perm xs → c.l.Perm ys → c.o = [] → c.n = [] → c.a = false → K v w') : CK Pr 160 #[.pointer (some ⟨b, 7, none⟩)] w K := by
  refine c160 ?_
  unfold t160
  refine dr_rule No [] fun w1 e1 z1 => ?_
  have hb1 := e1.at_ hb
  (repeat (first | (refine go ?_; intros) | (refine goK51 ?_; intros)))
  refine q_ia 0 rfl (by omega) ?_
  (repeat (first | (refine go ?_; intros) | (refine goK51 ?_; intros)))
  rw [h1]
  refine cl_fn (k87 (o := some vb) (l := ms xs) (hv.ex e1) (by simp [ms]; omega) fun u1 w2 ps e2 p1 s1 => ⟨e2, ?_⟩)
  rw [ms_keys] at p1
  (repeat (first | (refine go ?_; intros) | (refine goK51 ?_; intros)))
  refine q_ia 1 rfl (by omega) ?_
  (repeat (first | (refine go ?_; intros) | (refine goK51 ?_; intros)))
  rw [h2]
  refine cl_fn (k87 (o := none) (l := []) (show MpO _ none [] from rfl) (by simp) fun u2 w3 qs e3 p2 s2 => ⟨e2.trans e3, ?_⟩)
  have := p2.length_eq
  cases (List.length_eq_zero_iff.1 (by simpa using this) : qs = [])
  clear this p2
  (repeat (first | (refine go ?_; intros) | (refine goK51 ?_; intros)))
  rw [h4]
  refine cl_fn (k87 (o := lm) (l := ms ys) (hl.ex ((e1.trans e2).trans e3)) (by simp [ms]; omega) fun u3 w4 rs e4 p3 s3 => ⟨(e2.trans e3).trans e4, ?_⟩)
  rw [ms_keys] at p3
  (repeat (first | (refine go ?_; intros) | (refine goK51 ?_; intros)))
  rw [h5]
  refine cl_fn (k87 (o := none) (l := []) (show MpO _ none [] from rfl) (by simp) fun u4 w5 qs e5 p4 s4 => ⟨((e2.trans e3).trans e4).trans e5, ?_⟩)
  have := p4.length_eq
  cases (List.length_eq_zero_iff.1 (by simpa using this) : qs = [])
  clear this p4
  (repeat (first | (refine go ?_; intros) | (refine goK51 ?_; intros)))
  rename_i b6 w6 e6 hb6 z6 s6
  rw [h3] at hb6
  refine ⟨(((e2.trans e3).trans e4).trans e5).trans e6, ?_⟩
  refine b200_0_2_1_3_4 s1.one s2.one s3.one s4.one rfl ?_
  refine e_boxA fun b7 w7 e7 hb7 z7 s7 => ⟨((((e2.trans e3).trans e4).trans e5).trans e6).trans e7, ?_⟩
  refine h _ w7 ⟨ps, rs, [], [], false⟩ ((((((e1.trans e2).trans e3).trans e4).trans e5).trans e6).trans e7) ⟨b7, u1, u3, u2, u4, _, rfl, hb7, ?_, ?_, ?_, ?_, ⟨b6, rfl, e7.at_ hb6⟩⟩ p1 p3 rfl rfl rfl
  · exact s1.ex ((((e3.trans e4).trans e5).trans e6).trans e7)
  · exact s3.ex ((e5.trans e6).trans e7)
  · exact s2.ex (((e4.trans e5).trans e6).trans e7)
  · exact s4.ex (e6.trans e7)

theorem k106 {base b vb pm : Nat} {lm : Option Nat} {R : Rf} {L : Lg} {ps0 ps : Ps} {vo0 le0 xs ys : List Int} (r : RM base b R L ps0 vo0 le0 w) (hst : R.st = 0) (cg : CG base vb lm pm xs ys ps w)
    (h : ∀ v w' c il, Up (fun x => x = b) [189] w w' → RM base b { R with vb := some vb, v1 := none, al := false, lm := lm, lx := none, pm := pm, il := il } L ps xs ys w' → PC v c w' → c.v.Perm xs → c.l.Perm ys → c.o = [] → c.n = [] → c.a = false → K v w') : CK Pr 106 #[.pointer (some ⟨b, 0, none⟩), .agg (Cfg vb lm), .map (some pm)] w K := by
  refine c106 ?_
  unfold t106
  have rb := r.bk
  have hbl := rb.lt
  (repeat (first | (refine go ?_; intros) | (refine goK51 ?_; intros)))
  rename_i b1 w1 e1 hb1 z1 s1 b2 w2 e2 hb2 z2 s2 w3 u3 hb3 z3 w4 u4 hb4 z4
  obtain ⟨R', hR'⟩ : ∃ R' : Rf, R' = { R with vb := some vb, v1 := none, al := false, lm := lm, lx := none, pm := pm } := ⟨_, rfl⟩
  have hb4' : Bk w4 b (.cells R'.cells 187 (0, 0)) := by rw [hR']; exact hb4
  have U4 : Up (fun x => x = b) [189] w2 w4 := u3.trans u4
  have U : Up (fun x => x = b) [189] w w4 := (Up.of_ex (e1.trans e2)).trans U4
  have cg4 : CG base vb lm pm xs ys ps w4 := ⟨cg.vo.up U (.inl rfl), cg.le.up U (.inl rfl), cg.pr.up U (.inl rfl) (.inl rfl) rfl, cg.keys, cg.nd, cg.lea, cg.lx, cg.ly⟩
  have hbx4 := U4.at_ (e2.at_ hb1) rfl
  have lg4 : LG base R'.lb L w4 := by rw [hR']; exact r.lg.mt rfl rfl rfl rfl U
  have vt4 : Mp w4 R'.vt [] := by rw [hR']; exact r.vt.up U (.inl rfl)
  have ro4 : RdO R'.ro w4 := by rw [hR']; exact r.ro.mt U rfl
  have r4 : RM base b R' L ps xs ys w4 := ⟨hb4', r.b0, lg4, r.lok, by rw [hR']; exact cg4.pr, by rw [hR']; exact cg4.vo, by rw [hR']; exact cg4.le, vt4, ro4⟩
  clear hb1 hb2 hb3 hb4 rb lg4 vt4 ro4
  refine cl_fn (k160 hb4' (by rw [hR']) (by rw [hR']) (by rw [hR']) (by rw [hR']) (by rw [hR']) cg4.vo cg4.le cg.lx cg.ly fun v w5 c e5 hc pv pl ho hn ha => ?_)
  refine dr_rule No [] fun w6 e6 z6 => ?_
  have E56 : Ex w4 w6 := e5.trans e6
  have r6 := r4.ex E56
  have rb6 := r6.bk
  have hbx6 := E56.at_ hbx4
  have hpm : R'.pm = pm := by rw [hR']
  have hst' : R'.st = 0 := by rw [hR']; exact hst
  have hfin : ∀ il w', Up (fun x => x = b) [189] w6 w' → Bk w' b (.cells ({ R' with il := il } : Rf).cells 187 (0, 0)) → K v w' := fun il w' u hb' => by
    have rr := r6.put u hb' ⟨rfl, rfl, rfl, rfl, rfl, rfl⟩
    rw [hR'] at rr
    exact h v w' c il ((U.ex E56).trans u) rr ((hc.ex e6).mt rfl u) pv pl ho hn ha
  clear hbx4 hb4' r4
  (repeat (first | (refine go ?_; intros) | (refine goK51 ?_; intros)))
  rw [hpm]
  refine q_lookS (l := kvP ps) (zv := .pointer none) (fun w' hw => Mp.ex hw (cg4.pr.mp.ex E56)) ?_
  have hpg := (cg4.pr.ex E56).pg
  cases hl : lk (kvP ps) R'.id with
  | none =>
    simp only [Option.getD_none, Option.isSome_none, if_true]
    refine q_ext (x := .pointer none) rfl ?_
    refine q_ext (x := .bool false) rfl ?_
    refine dr_rule (fun x => x = b) [189] fun w7 e7 z7 => ?_
    have hbx7 := e7.at_ hbx6
    have rb7 := e7.at_ rb6
    clear hbx6 rb6
    (repeat (first | (refine go ?_; intros) | (refine goK51 ?_; intros)))
    rename_i w8 u8 hb8 z8
    refine ⟨u8, ?_⟩
    have hbx8 := u8.at_ hbx7 rfl
    have hf := hfin false w8 ((Up.of_ex e7).trans u8) hb8
    clear hbx7 rb7
    have q1 : (R'.st == 2) = false := by rw [hst']; rfl
    (repeat (first | (refine go ?_; intros) | (refine goK51 ?_; intros)))
    rw [q1]
    (repeat (first | (refine go ?_; intros) | (refine goK51 ?_; intros)))
    unfold t106_3
    (repeat (first | (refine go ?_; intros) | (refine goK51 ?_; intros)))
    rw [q1, Bool.not_false]
    (repeat (first | (refine go ?_; intros) | (refine goK51 ?_; intros)))
    exact hf
  | some pv =>
    simp only [Option.getD_some, Option.isSome_some, if_true]
    refine q_ext (x := pv) rfl ?_
    refine q_ext (x := .bool true) rfl ?_
    obtain ⟨y, hy, hyx, rfl⟩ := lk_kvP hl
    obtain ⟨_, ib, _, hp, _⟩ := hpg y hy
    refine dr_rule (fun x => x = b) [189] fun w7 e7 z7 => ?_
    have hbx7 := e7.at_ hbx6
    have rb7 := e7.at_ rb6
    have hp7 := e7.at_ hp
    unfold Pg.cells at hp7
    clear hbx6 rb6 hp
    (repeat (first | (refine go ?_; intros) | (refine goK51 ?_; intros)))
    rename_i w8 u8 hb8 z8
    refine ⟨u8, ?_⟩
    have hbx8 := u8.at_ hbx7 rfl
    have hf := hfin y.2.2.le w8 ((Up.of_ex e7).trans u8) hb8
    clear hbx7 rb7
    have q1 : (R'.st == 2) = false := by rw [hst']; rfl
    cases hle : y.2.2.le with
    | false =>
      rw [hle] at hb8
      (repeat (first | (refine go ?_; intros) | (refine goK51 ?_; intros)))
      unfold t106_3
      (repeat (first | (refine go ?_; intros) | (refine goK51 ?_; intros)))
      rw [q1, Bool.not_false]
      (repeat (first | (refine go ?_; intros) | (refine goK51 ?_; intros)))
      exact hf
    | true =>
      rw [hle] at hb8
      (repeat (first | (refine go ?_; intros) | (refine goK51 ?_; intros)))
      rw [q1]
      (repeat (first | (refine go ?_; intros) | (refine goK51 ?_; intros)))
      unfold t106_3
      (repeat (first | (refine go ?_; intros) | (refine goK51 ?_; intros)))
      rw [q1, Bool.not_false]
      (repeat (first | (refine go ?_; intros) | (refine goK51 ?_; intros)))
      exact hf

end Go.Proofs.YtmmpogfbhelioaaGreat
/-
  Contract: restore, its last part: the log and the configuration out of a snapshot.
  Conditions: the snapshot's configuration is not joint; the machine is a follower.
-/
namespace Go.Proofs.YtmmpogfbhelioaaGreat
set_option maxRecDepth 10000
set_option linter.unusedVariables false
set_option linter.unusedSimpArgs false
theorem nmK52 {p : Prop} (h : p := by (try simp only [List.getElem?_toArray, List.getElem?_cons_zero, List.getElem?_cons_succ, List.setIfInBounds_toArray, List.set_cons_zero, List.set_cons_succ, List.toList_toArray, List.drop_zero, List.drop_succ_cons, List.take_zero, List.take_succ_cons, Nat.zero_add, Nat.add_zero, Nat.reduceAdd, putCells, Rf.cells, Chg]) <;> rfl) : p := h
theorem goK52 {G H : Prop} (h : H) (s : Stp G H := by (apply Stp.of; intro hS; (first | (refine q_ld bk_ nmK52 ?_) | (refine q_ldU bk_ rfl nmK52 ?_) | (refine q_ldW bk_ (by rfl) ?_) | (refine q_ldWU bk_ rfl (by rfl) ?_) | (refine q_ldP bk_ (Nat.le_of_ble_eq_true rfl) nmK52 ?_) | (refine q_ldPU bk_ rfl (Nat.le_of_ble_eq_true rfl) nmK52 ?_) | (refine q_ext nmK52 ?_) | (refine u_st bk_ (Nat.le_of_ble_eq_true rfl) (by first | rfl | assumption) nmK52 ?_) | (refine u_stA bk_ (Nat.le_of_ble_eq_true rfl) (by rfl) (by rfl) nmK52 ?_) | (refine q_field nmK52 ?_)); exact hS.out)) : G := s.f h
set_option linter.unusedVariables false
set_option linter.unusedSimpArgs false
attribute [local irreducible] Instr.box Instr.alloc Instr.loadAt Instr.storeAt Instr.fieldAt Instr.indexAt Instr.build Instr.buildSlice Instr.makeSlice Instr.makeMap Instr.mapUpdate Instr.lookup Instr.range Instr.next Instr.entry Instr.extract Instr.makeInterface Instr.makeFunc Instr.sliceAt Instr.typeAssert Instr.field Instr.index Builtin.len_ Builtin.cap_ Builtin.max_ Builtin.min_ Builtin.append_ Builtin.copy_ Builtin.delete_ convert binS pickS nilS callV callM Op.unary Own Mp It Cu


variable {K : Value → World → Prop} {w : World} {te : Option Nat}

theorem Up.tu {C C' : Nat → Prop} {T T' : List Nat} {w' : World} (u : Up C T w w') (hC : ∀ b, C b → C' b) (hT : (T.all fun k => T'.contains k) = true) : Up C' T' w w' :=
  u.mono (fun b _ h => hC b h) (fun k hk => List.all_eq_true.1 hT k (List.contains_iff_mem.1 hk))

/-- The log turned, and nothing else of the machine. -/
theorem RM.log {base b : Nat} {R : Rf} {L L' : Lg} {ps : Ps} {vo le : List Int} {w' : World} {C : Nat → Prop} (r : RM base b R L ps vo le w) (u : Up C [227, 198] w w') (lg : LG base R.lb L' w') (ok : L'.Ok) : RM base b R L' ps vo le w' :=
  ⟨u.at_ r.bk rfl, r.b0, lg, ok, r.pr.up u (.inl rfl) (.inl rfl) rfl, r.vo.up u (.inl rfl), r.le.up u (.inl rfl), r.vt.up u (.inl rfl), r.ro.mt u rfl⟩

/-- A configuration that a snapshot may bring. -/
structure CfOk (c : Cf) : Prop where
  o : c.o = []
  n : c.n = []
  a : c.a = false
  nd : (c.v ++ c.l).Nodup
  ne : c.v ≠ []
  h0 : ∀ x ∈ c.v ++ c.l, x ≠ 0
  l9 : c.v.length ≤ 9
  l4 : c.l.length ≤ 4

/-- The log behind a snapshot. -/
def Lg.snap (L : Lg) (s : Sn) : Lg := { L with us := some s, un := [], off := s.i + 1, sip := false, oip := s.i + 1, cm := s.i }
theorem Lg.Ok.snap {L : Lg} {s : Sn} (h : L.Ok) (hi : 0 ≤ s.i ∧ s.i ≤ 100000000000000) : (L.snap s).Ok :=
  ⟨h.ne, h.len, ⟨by show 0 ≤ s.i + 1; omega, by show s.i + 1 ≤ _; omega⟩, by show ([] : List En).length ≤ _; simp, fun s' hs => by cases hs; omega⟩
/-- The machine's fields behind a snapshot. -/
def Rf.snap (R : Rf) (vb : Nat) (lm : Option Nat) (pm vt : Nat) (il : Bool) : Rf := { R with vb := some vb, v1 := none, al := false, lm := lm, lx := none, pm := pm, vt := vt, il := il }

theorem CG.none {base vb pm : Nat} (h1 : Mp w vb []) (h2 : Mp w pm []) (hb : base ≤ pm) : CG base vb none pm [] [] [] w :=
  ⟨h1, rfl, ⟨h2, List.nodup_nil, fun x hx => (by cases hx), hb⟩, .refl _, List.nodup_nil, fun x hx => (by cases hx), Nat.zero_le _, Nat.zero_le _⟩

theorem r54_1 {base b : Nat} {R : Rf} {L : Lg} {ps : Ps} {vo le : List Int} {v cs : Value} {s : Sn} (r : RM base b R L ps vo le w) (hst : R.st = 0) (hs : PS v s w) (hc : PC cs s.c w) (ck : CfOk s.c) (hi : 0 ≤ s.i ∧ s.i ≤ 100000000000000) (hd : s.d.size ≤ 1000000) (sm : CfSm s.c)
    (h : ∀ vb lm pm vt il xs ys ps' w', Up (fun x => base ≤ x) [189, 198, 227] w w' → xs.Perm s.c.v → ys.Perm s.c.l → (ps'.map (·.1)).Perm (xs ++ ys) → RM base b (R.snap vb lm pm vt il) (L.snap s) ps' xs ys w' → K (.bool true) w') :
    t54_1 w (.pointer (some ⟨b, 0, none⟩)) v cs K := by
  unfold t54_1
  have rb := r.bk
  have hb0 := r.b0
  have hbl := rb.lt
  have hlb := r.lg.b1
  (repeat (first | (refine go ?_; intros) | (refine goK52 ?_; intros)))
  refine cl_fn (k102 r.lg hs ⟨hi.1, by omega⟩ hd sm fun w1 u1 lg1 => ?_)
  have ok1 := r.lok.snap hi
  have r1 : RM base b R (L.snap s) ps vo le w1 := r.log (u1.tu (fun _ h => h) (T' := [227, 198]) rfl) lg1 ok1
  have hc1 : PC cs s.c w1 := hc.mt rfl u1
  have rb1 := r1.bk
  clear rb
  refine dr_ruleG (fun x => x = b) [189] (fun x => ∃ cs et fz, Bk x b (.cells cs et fz) ∧ cs[14]? = some (.int .i64 R.mi) ∧ cs[15]? = some (.int .u64 R.mb)) (fun w1 e => ⟨_, _, _, e.at_ rb1, rfl, rfl⟩) fun w2 e2 z2 => ?_
  have rb2 := e2.at_ rb1
  clear rb1
  (repeat (first | (refine go ?_; intros) | (refine goK52 ?_; intros) | refine q_ldG bk_ rfl nmK52 ?_ | refine q_ldGW bk_ rfl (by rfl) ?_))
  refine q_ldX (x := .int .i64 R.mi) (fun w' s => by obtain ⟨cs, et, fz, g1, g2, g3⟩ := s.2; exact ⟨cs, et, fz, g1, g2⟩) ?_
  (repeat (first | (refine go ?_; intros) | (refine goK52 ?_; intros) | refine q_ldG bk_ rfl nmK52 ?_ | refine q_ldGW bk_ rfl (by rfl) ?_))
  refine q_ldX (x := .int .u64 R.mb) (fun w' s => by obtain ⟨cs, et, fz, g1, g2, g3⟩ := s.2; exact ⟨cs, et, fz, g1, g3⟩) ?_
  refine cl_fn (k74 fun vb0 pm0 vt0 w3 e3 i1 i2 i3 n1 n2 n3 m1 m2 m3 => ⟨⟨.of_ex e3, _, _, _, e3.at_ rb2, rfl, rfl⟩, ?_⟩)
  have rb3 := e3.at_ rb2
  (repeat (first | (refine go ?_; intros) | (refine goK52 ?_; intros) | refine q_ldG bk_ rfl nmK52 ?_ | refine q_ldGW bk_ rfl (by rfl) ?_))
  rename_i w4 u4 hb4 z4
  refine ⟨⟨(Up.of_ex e3).trans u4, _, _, _, hb4, rfl, rfl⟩, ?_⟩
  have zz1 := u1.size
  have zz2 := e2.size
  have zz3 := e3.size
  have U1 : Up (fun x => base ≤ x) [189, 198, 227] w w1 := u1.tu (fun y hy => by subst hy; exact hlb.2) rfl
  have e23 : Ex w1 w3 := e2.trans e3
  have U4 : Up (fun x => base ≤ x) [189, 198, 227] w w4 := (U1.ex e23).trans (u4.tu (fun y hy => by subst hy; exact hb0) rfl)
  have r4 : RM base b (R.snap vb0 none pm0 vt0 R.il) (L.snap s) [] [] [] w4 := ⟨hb4, hb0, (r1.lg.ex e23).mt rfl rfl rfl rfl u4, ok1, ⟨m2.up u4 (.inl rfl), List.nodup_nil, fun x hx => (by cases hx), by show base ≤ pm0; omega⟩, m1.up u4 (.inl rfl), rfl, m3.up u4 (.inl rfl), (r1.ro.ex e23).mt u4 rfl⟩
  have cg4 : CG base vb0 none pm0 [] [] [] w4 := CG.none (m1.up u4 (.inl rfl)) (m2.up u4 (.inl rfl)) (by omega)
  have hc4 : PC cs s.c w4 := (hc1.ex e23).mt rfl u4
  clear hb4 rb2 rb3
  refine jo_rule (fun J => ∀ cb vb lm pm xs ys ps' w', Up (fun x => base ≤ x) [189, 198, 227] w4 w' → Bk w' cb (.cells (Cfg vb lm) 136 (0, 0)) → CG base vb lm pm xs ys ps' w' → xs.Perm s.c.v → ys.Perm s.c.l → RM base b (R.snap vb0 none pm0 vt0 R.il) (L.snap s) [] [] [] w' → PC cs s.c w' → J (.pointer (some ⟨cb, 0, none⟩)) (.map (some pm)) .nilIface w') ?_ ?_
  · intro cb vb lm pm xs ys ps' w' U hcb cg px py r' hc'
    (repeat (first | (refine go ?_; intros) | (refine goK52 ?_; intros)))
    refine cl_fn (k106 r' hst cg fun v2 w5 c2 il u5 r5 hc5 pv pl ho hn ha => ?_)
    refine cl_fn (k105 (hc'.mt rfl u5) hc5 (pv.trans px) (pl.trans py) ck.o ck.n ho hn (by rw [ha, ck.a]) (by have := ck.l9; omega) (by have := ck.l4; omega) fun w6 e6 => ?_)
    refine h vb lm pm vt0 il xs ys ps' w6 ((((U4.trans U).trans (u5.tu (fun y hy => by subst hy; exact hb0) rfl))).ex e6) px py cg.keys (r5.ex e6)
  · intro J hJ
    refine dr_rule (fun x => x = L.sb) [227] fun w5 e5 z5 => ?_
    have r5 := r4.ex e5
    have rb5 := r5.bk
    have lb5 : (R.snap vb0 none pm0 vt0 R.il).lb = R.lb := rfl
    unfold Rf.snap at rb5
    have hc5 := hc4.ex e5
    have cg5 := cg4.ex e5
    (repeat (first | (refine go ?_; intros) | (refine goK52 ?_; intros)))
    constructor
    · refine cl_fn (k104 r5.lg r5.lok fun w6 u6 z6 lg6 => ⟨u6, ?_⟩)
      have r6 := r5.log (u6.tu (fun _ h => h) (T' := [227, 198]) rfl) lg6 r5.lok
      have cg6 : CG base vb0 none pm0 [] [] [] w6 := CG.none (cg5.vo.up u6 (.inl rfl)) (cg5.pr.mp.up u6 (.inl rfl)) cg5.pr.b0
      have hc6 := hc5.mt rfl u6
      have U6 : Up (fun x => base ≤ x) [189, 198, 227] w4 w6 := ((Up.of_ex e5).trans (u6.tu (fun y hy => by subst hy; exact hlb.1) rfl))
      (repeat (first | (refine go ?_; intros) | (refine goK52 ?_; intros) | refine b209_0_1 (by first | rfl | assumption) ?_))
      constructor
      · refine cl_fn (k103 (vb := vb0) (pm := pm0) (vt := vt0) (mi := R.mi) (mb := R.mb) (li := (L.snap s).last) cg6 hc6 ck.o ck.n ck.nd ck.ne ck.h0 ck.l9 ck.l4 fun vb lm pm xs ys ps' w7 e7 px py cg7 => ⟨u6.ex e7, ?_⟩)
        refine q_ext (x := .agg (Cfg vb lm)) rfl ?_
        refine q_ext (x := .map (some pm)) rfl ?_
        refine q_ext (x := .nilIface) rfl ?_
        refine e_allocA fun cb w8 e8 hb8 s1 s2 => ⟨(u6.ex e7).ex e8, ?_⟩
        refine u_stA hb8 (Nat.le_of_ble_eq_true rfl) (by rfl) (by rfl) nmK52 fun w9 u9 hb9 z9 => ?_
        have zz6 := u6.size
        have zz7 := e7.size
        have E79 : Ex w7 w9 := e8.new u9 (by intro y hy; omega)
        refine ⟨(u6.ex e7).ex E79, ?_⟩
        exact hJ cb vb lm pm xs ys ps' w9 ((U6.ex e7).ex E79) hb9 (cg7.ex E79) px py ((r6.ex e7).ex E79) ((hc6.ex e7).ex E79)
      · refine e_allocA fun cb w7 e7 hb7 s1 s2 => ⟨u6.ex e7, ?_⟩
        refine cl_fn (k103 (vb := vb0) (pm := pm0) (vt := vt0) (mi := R.mi) (mb := R.mb) (li := (L.snap s).last) (cg6.ex e7) (hc6.ex e7) ck.o ck.n ck.nd ck.ne ck.h0 ck.l9 ck.l4 fun vb lm pm xs ys ps' w8 e8 px py cg8 => ⟨(u6.ex e7).ex e8, ?_⟩)
        refine q_ext (x := .agg (Cfg vb lm)) rfl ?_
        refine q_ext (x := .map (some pm)) rfl ?_
        refine q_ext (x := .nilIface) rfl ?_
        have hb8 := e8.at_ hb7
        refine u_stA hb8 (Nat.le_of_ble_eq_true rfl) (by rfl) (by rfl) nmK52 fun w9 u9 hb9 z9 => ?_
        have zz5 := e5.size
        have zz6 := u6.size
        have zz7 := e7.size
        have E69 : Ex w6 w9 := (e7.trans e8).new u9 (by intro y hy; omega)
        refine ⟨u6.ex E69, ?_⟩
        exact hJ cb vb lm pm xs ys ps' w9 (U6.ex E69) hb9 ⟨cg8.vo.up u9 (.inl rfl), cg8.le.up u9 (.inl rfl), cg8.pr.up u9 (.inl rfl) (.inl rfl) rfl, cg8.keys, cg8.nd, cg8.lea, cg8.lx, cg8.ly⟩ px py (r6.ex E69) (hc6.ex E69)
    · refine e_allocA fun cb w6 e6 hb6 s1 s2 => ⟨.of_ex e6, ?_⟩
      have e56 : Ex w4 w6 := e5.trans e6
      refine cl_fn (k104 (r5.ex e6).lg (r5.ex e6).lok fun w7 u7 z7 lg7 => ⟨(Up.of_ex e6).trans u7, ?_⟩)
      have r7 := (r5.ex e6).log (u7.tu (fun _ h => h) (T' := [227, 198]) rfl) lg7 (r5.ex e6).lok
      have cg7 : CG base vb0 none pm0 [] [] [] w7 := CG.none ((cg5.ex e6).vo.up u7 (.inl rfl)) ((cg5.ex e6).pr.mp.up u7 (.inl rfl)) cg5.pr.b0
      have hc7 := (hc5.ex e6).mt rfl u7
      have hb7 := u7.at_ hb6 rfl
      have U7 : Up (fun x => base ≤ x) [189, 198, 227] w4 w7 := ((Up.of_ex e56).trans (u7.tu (fun y hy => by subst hy; exact hlb.1) rfl))
      clear hb6 e56
      (repeat (first | (refine go ?_; intros) | (refine goK52 ?_; intros) | refine b209_0_1 (by first | rfl | assumption) ?_))
      refine cl_fn (k103 (vb := vb0) (pm := pm0) (vt := vt0) (mi := R.mi) (mb := R.mb) (li := (L.snap s).last) cg7 hc7 ck.o ck.n ck.nd ck.ne ck.h0 ck.l9 ck.l4 fun vb lm pm xs ys ps' w8 e8 px py cg8 => ⟨((Up.of_ex e6).trans u7).ex e8, ?_⟩)
      refine q_ext (x := .agg (Cfg vb lm)) rfl ?_
      refine q_ext (x := .map (some pm)) rfl ?_
      refine q_ext (x := .nilIface) rfl ?_
      have hb8 := e8.at_ hb7
      refine u_stA hb8 (Nat.le_of_ble_eq_true rfl) (by rfl) (by rfl) nmK52 fun w9 u9 hb9 z9 => ?_
      have zz6 := e6.size
      have zz7 := u7.size
      have U59 : Up (fun x => x = L.sb) [227] w5 w9 := (((Up.of_ex e6).trans u7).ex e8).new u9 (by intro y hy; omega)
      have zz1' := e5.size
      have U49 : Up (fun x => base ≤ x) [189, 198, 227] w4 w9 := (U7.ex e8).new u9 (by intro y hy; omega)
      refine ⟨U59, ?_⟩
      exact hJ cb vb lm pm xs ys ps' w9 U49 hb9 ⟨cg8.vo.up u9 (.inl rfl), cg8.le.up u9 (.inl rfl), cg8.pr.up u9 (.inl rfl) (.inl rfl) rfl, cg8.keys, cg8.nd, cg8.lea, cg8.lx, cg8.ly⟩ px py ((r7.ex e8).mt rfl rfl u9) ((hc7.ex e8).mt rfl u9)

end Go.Proofs.YtmmpogfbhelioaaGreat
/-
  Contract: restore.
  Conditions: the snapshot's configuration is not joint and names the machine; the machine is a follower, its log has no snapshot that waits.
-/
namespace Go.Proofs.YtmmpogfbhelioaaGreat
set_option maxRecDepth 10000
set_option linter.unusedVariables false
set_option linter.unusedSimpArgs false
theorem nmK53 {p : Prop} (h : p := by (try simp only [List.getElem?_toArray, List.getElem?_cons_zero, List.getElem?_cons_succ, List.setIfInBounds_toArray, List.set_cons_zero, List.set_cons_succ, List.toList_toArray, List.drop_zero, List.drop_succ_cons, List.take_zero, List.take_succ_cons, Nat.zero_add, Nat.add_zero, Nat.reduceAdd, putCells, Rf.cells]) <;> rfl) : p := h
theorem goK53 {G H : Prop} (h : H) (s : Stp G H := by (apply Stp.of; intro hS; (first | (refine q_ld bk_ nmK53 ?_) | (refine q_ldU bk_ rfl nmK53 ?_) | (refine q_ldW bk_ (by rfl) ?_) | (refine q_ldWU bk_ rfl (by rfl) ?_) | (refine q_ldP bk_ (Nat.le_of_ble_eq_true rfl) nmK53 ?_) | (refine q_ldPU bk_ rfl (Nat.le_of_ble_eq_true rfl) nmK53 ?_) | (refine q_ext nmK53 ?_) | (refine u_st bk_ (Nat.le_of_ble_eq_true rfl) (by first | rfl | assumption) nmK53 ?_) | (refine u_stA bk_ (Nat.le_of_ble_eq_true rfl) (by rfl) (by rfl) nmK53 ?_) | (refine q_field nmK53 ?_)); exact hS.out)) : G := s.f h
set_option linter.unusedVariables false
set_option linter.unusedSimpArgs false
attribute [local irreducible] Instr.box Instr.alloc Instr.loadAt Instr.storeAt Instr.fieldAt Instr.indexAt Instr.build Instr.buildSlice Instr.makeSlice Instr.makeMap Instr.mapUpdate Instr.lookup Instr.range Instr.next Instr.entry Instr.extract Instr.makeInterface Instr.makeFunc Instr.sliceAt Instr.typeAssert Instr.field Instr.index Builtin.len_ Builtin.cap_ Builtin.max_ Builtin.min_ Builtin.append_ Builtin.copy_ Builtin.delete_ convert binS pickS nilS callV callM Op.unary Own Mp It Cu


variable {K : Value → World → Prop} {w : World} {te : Option Nat}

theorem Lg.at_le {L : Lg} {e : En} {r : List En} (p : L.Pl e r) {i t : Int} (h : L.at e r i = some t) : i ≤ L.last := by
  unfold Lg.at at h
  by_cases hi : i < e.i
  · rw [if_pos hi] at h; cases h
  · rw [if_neg hi] at h
    cases hx : ((e :: r) ++ L.un)[(i - e.i).toNat]? with
    | none => rw [hx] at h; cases h
    | some x =>
      have := (List.getElem?_eq_some_iff.1 hx).1
      rw [List.length_append, List.length_cons] at this
      have := p.last
      omega

theorem Lg.Ok.cm {L : Lg} {c : Int} (h : L.Ok) : ({ L with cm := c } : Lg).Ok := ⟨h.ne, h.len, h.off, h.un, h.us⟩

theorem r54_2 {base b : Nat} {R : Rf} {L : Lg} {ps : Ps} {vo le : List Int} {v cs : Value} {s : Sn} {e : En} {rr : List En} (r : RM base b R L ps vo le w) (hst : R.st = 0) (p : L.Pl e rr) (hs : PS v s w) (hc : PC cs s.c w) (ck : CfOk s.c) (hi : 0 ≤ s.i ∧ s.i ≤ 100000000000000) (hd : s.d.size ≤ 1000000) (sm : CfSm s.c) (hcm : L.cm < s.i)
    (h2 : ∀ w', Up (fun x => base ≤ x) [189, 198, 227] w w' → L.at e rr s.i = some s.t → RM base b R { L with cm := s.i } ps vo le w' → K (.bool false) w')
    (h : ∀ vb lm pm vt il xs ys ps' w', Up (fun x => base ≤ x) [189, 198, 227] w w' → L.at e rr s.i ≠ some s.t → xs.Perm s.c.v → ys.Perm s.c.l → (ps'.map (·.1)).Perm (xs ++ ys) → RM base b (R.snap vb lm pm vt il) (L.snap s) ps' xs ys w' → K (.bool true) w') :
    t54_2 v w (.pointer (some ⟨b, 0, none⟩)) K cs := by
  unfold t54_2
  have rb := r.bk
  have hlb := r.lg.b1
  have hbl := rb.lt
  have hb0 := r.b0
  refine cl_fn (k95 hs fun v1 hm1 => ?_)
  refine cl_fn (k99 hm1 ?_)
  refine cl_fn (k95 hs fun v2 hm2 => ?_)
  refine cl_fn (k96 hm2 ?_)
  (repeat (first | (refine go ?_; intros) | (refine goK53 ?_; intros) | refine b202_0_1 (by first | rfl | assumption) (by first | rfl | assumption) ?_))
  rename_i cb w1 e1 hb1 s1 s2 w2 u2 hb2 z2
  have E2 : Ex w w2 := e1.new u2 (by intro y hy; omega)
  have hb2' : Bk w2 cb (.cells #[.int .u64 s.t, .int .u64 s.i] 202 (0, 0)) := hb2
  have r2 := r.ex E2
  have hs2 := hs.ex E2
  have hc2 := hc.ex E2
  have zz := E2.size
  clear hb1 hb2 rb
  refine dr_rule (fun x => x = L.sb) [227] fun w3 e3 z3 => ?_
  have r3 := r2.ex e3
  have rb3 := r3.bk
  have hb3 := e3.at_ hb2'
  (repeat (first | (refine go ?_; intros) | (refine goK53 ?_; intros)))
  refine cl_fn (k100 (i := s.i) (t := s.t) r3.lg r3.lok p ⟨hi.1, by omega⟩ fun w4 u4 lg4 => ⟨u4, ?_⟩)
  have r4 := r3.log (u4.tu (fun _ h => h) (T' := [227, 198]) rfl) lg4 r3.lok
  have E3 : Ex w w3 := E2.trans e3
  have hs4 : PS v s w4 := (hs.ex E3).mt rfl u4
  have hc4 : PC cs s.c w4 := (hc.ex E3).mt rfl u4
  have U4 : Up (fun x => base ≤ x) [189, 198, 227] w w4 := (Up.of_ex E3).trans (u4.tu (fun y hy => by subst hy; exact hlb.1) rfl)
  clear rb3 hb3 hb2'
  by_cases hat : L.at e rr s.i = some s.t
  · rw [decide_eq_true hat]
    (repeat (first | (refine go ?_; intros) | (refine goK53 ?_; intros)))
    have hle := Lg.at_le p hat
    refine dr_ruleG (fun x => x = L.sb ∨ x = R.lb) [227, 198] (fun _ => True) (fun _ _ => trivial) fun w5 e5 z5 => ?_
    have r5 := r4.ex e5
    have rb5 := r5.bk
    (repeat (first | (refine go ?_; intros) | (refine goK53 ?_; intros) | refine q_ldG bk_ rfl nmK53 ?_ | refine q_ldGW bk_ rfl (by rfl) ?_))
    refine cl_fn (k95 (hs4.ex e5) fun v3 hm3 => ⟨⟨.refl _ _ _, trivial⟩, ?_⟩)
    refine cl_fn (k96 hm3 ⟨⟨.refl _ _ _, trivial⟩, ?_⟩)
    refine cl_fn (k101 r5.lg r5.lok hle fun w6 u6 lg6 => ⟨⟨u6, trivial⟩, ?_⟩)
    rw [if_pos hcm] at lg6
    exact h2 w6 ((U4.ex e5).trans (u6.tu (fun y hy => by rcases hy with hy | hy <;> subst hy; exact hlb.1; exact hlb.2) rfl)) hat (r5.log u6 lg6 r5.lok.cm)
  · rw [decide_eq_false hat]
    (repeat (first | (refine go ?_; intros) | (refine goK53 ?_; intros)))
    refine r54_1 r4 hst hs4 hc4 ck hi hd sm fun vb lm pm vt il xs ys ps' w' u px py pk r' => ?_
    exact h vb lm pm vt il xs ys ps' w' (U4.trans u) hat px py pk r'

theorem k54 {base b : Nat} {R : Rf} {L : Lg} {ps : Ps} {vo le : List Int} {v : Value} {s : Sn} {e : En} {rr : List En} (r : RM base b R L ps vo le w) (hst : R.st = 0) (p : L.Pl e rr) (hs : PS v s w) (hid : R.id ∈ s.c.v ∨ R.id ∈ s.c.l) (ck : CfOk s.c) (hi : 0 ≤ s.i ∧ s.i ≤ 100000000000000) (hd : s.d.size ≤ 1000000) (sm : CfSm s.c)
    (h1 : ∀ w', Up (fun x => base ≤ x) [189, 198, 227] w w' → s.i ≤ L.cm → RM base b R L ps vo le w' → K (.bool false) w')
    (h2 : ∀ w', Up (fun x => base ≤ x) [189, 198, 227] w w' → L.cm < s.i → L.at e rr s.i = some s.t → RM base b R { L with cm := s.i } ps vo le w' → K (.bool false) w')
    (h : ∀ vb lm pm vt il xs ys ps' w', Up (fun x => base ≤ x) [189, 198, 227] w w' → L.cm < s.i → L.at e rr s.i ≠ some s.t → xs.Perm s.c.v → ys.Perm s.c.l → (ps'.map (·.1)).Perm (xs ++ ys) → RM base b (R.snap vb lm pm vt il) (L.snap s) ps' xs ys w' → K (.bool true) w') :
    CK Pr 54 #[.pointer (some ⟨b, 0, none⟩), v] w K := by
  refine c54 ?_
  unfold t54
  refine dr_rule No [] fun w1 e1 z1 => ?_
  have r1 := r.ex e1
  have hs1 := hs.ex e1
  have rb1 := r1.bk
  obtain ⟨lim, vs, ve, qs, g1, g2, g3, g4, g5, g6, g7, g8, g9, g10⟩ := r1.lg
  refine cl_fn (k95 hs1 fun v1 hm1 => ⟨.refl _ _ _, ?_⟩)
  refine cl_fn (k96 hm1 ⟨.refl _ _ _, ?_⟩)
  unfold Lg.cells at g1
  (repeat (first | (refine go ?_; intros) | (refine goK53 ?_; intros)))
  refine if_split (fun hb => ?_) (fun hb => ?_)
  · exact h1 w1 (.of_ex e1) (of_decide_eq_true hb) r1
  have hcm : L.cm < s.i := by have := of_decide_eq_false hb; omega
  clear hb
  unfold t54_5
  have q1 : (R.st == 0) = true := by rw [hst]; rfl
  (repeat (first | (refine go ?_; intros) | (refine goK53 ?_; intros)))
  rw [q1, Bool.not_true]
  (repeat (first | (refine go ?_; intros) | (refine goK53 ?_; intros)))
  unfold t54_4
  refine cl_fn (k95 hs1 fun v2 hm2 => ?_)
  refine cl_fn (k97 hm2 fun v3 hc => ?_)
  refine cl_fn (k98 hc ?_)
  obtain ⟨cb, x1, x2, x3, x4, x5, rfl, hcb, n1, n2, n3, n4, n5⟩ := hc
  have hc : PC (.pointer (some ⟨cb, 0, none⟩)) s.c w1 := ⟨cb, x1, x2, x3, x4, x5, rfl, hcb, n1, n2, n3, n4, n5⟩
  refine dr_rule No [] fun w2 e2 z2 => ?_
  have hcb2 := e2.at_ hcb
  (repeat (first | (refine go ?_; intros) | (refine goK53 ?_; intros)))
  refine e_bs3 n1.one n2.one n3.one fun w3 e3 o3 z3 => ⟨.of_ex e3, ?_⟩
  refine q_lenSl o3.sl ?_
  have E3 : Ex w1 w3 := e2.trans e3
  have EW3 : Ex w w3 := e1.trans E3
  have r3 := r1.ex E3
  have rb3 := r3.bk
  have hrow : ∀ j, j < 3 → ∃ (x : Value) (l : List Int), [[x1], [x2], [x3]][j]? = some [x] ∧ [s.c.v, s.c.l, s.c.o][j]? = some l ∧ Nums w3 (some 22) x l := by
    intro j hj
    have : j = 0 ∨ j = 1 ∨ j = 2 := by omega
    rcases this with rfl | rfl | rfl
    · exact ⟨x1, s.c.v, rfl, rfl, n1.ex E3⟩
    · exact ⟨x2, s.c.l, rfl, rfl, n2.ex E3⟩
    · exact ⟨x3, s.c.o, rfl, rfl, n3.ex E3⟩
  have hin : R.id ∈ ([s.c.v, s.c.l, s.c.o].drop 0).flatten := by
    simp only [List.drop_zero, List.flatten_cons, List.mem_append]
    rcases hid with hh | hh
    · exact .inl hh
    · exact .inr (.inl hh)
  have hll : ∀ (j : Nat) (l : List Int), [s.c.v, s.c.l, s.c.o][j]? = some l → l.length ≤ 9 := by
    intro j l hl
    have := List.mem_of_getElem? hl
    simp only [List.mem_cons, List.not_mem_nil, or_false] at this
    have i1 := ck.l9
    have i2 := ck.l4
    rcases this with rfl | rfl | rfl
    · omega
    · omega
    · rw [ck.o]; simp
  refine jo_rule (fun J => J (.bool true) w3) ?_ ?_
  · unfold t54_3
    (repeat (first | (refine go ?_; intros) | (refine goK53 ?_; intros)))
    refine r54_2 r3 hst p (hs1.ex E3) (hc.ex E3) ck hi hd sm hcm (fun w' u a b => h2 w' ((Up.of_ex EW3).trans u) hcm a b) fun vb lm pm vt il xs ys ps' w' u a px py pk r' => ?_
    exact h vb lm pm vt il xs ys ps' w' ((Up.of_ex EW3).trans u) hcm a px py pk r'
  intro J hJ
  refine loop_n (α := Nat) (fun j τ w' => g τ 0 = .bool false ∧ g τ 3 = .int .i64 j ∧ j ≤ 3 ∧ w' = w3 ∧ R.id ∈ ([s.c.v, s.c.l, s.c.o].drop j).flatten) (fun j => 3 - j) 0 ⟨rfl, rfl, Nat.zero_le _, rfl, hin⟩ ?_
  rintro j τ w' R1 ⟨ht, hj, hle, rfl, hid1⟩ hR
  rw [hj, show (([[x1], [x2], [x3]] : List (List Value)).length : Int) = 3 from rfl]
  (repeat (first | (refine go ?_; intros) | (refine goK53 ?_; intros)))
  refine if_split (fun hb => ?_) (fun hb => ?_)
  · have hj' : j < 3 := by
      have := of_decide_eq_true hb
      omega
    obtain ⟨x, l, hx, hl, hnl⟩ := hrow j hj'
    have hl9 := hll j l hl
    have hdr : [s.c.v, s.c.l, s.c.o].drop j = l :: [s.c.v, s.c.l, s.c.o].drop (j + 1) := by
      obtain ⟨hlt, hge⟩ := List.getElem?_eq_some_iff.1 hl
      rw [← hge]
      exact List.drop_eq_getElem_cons hlt
    rw [hdr, List.flatten_cons, List.mem_append] at hid1
    refine q_ixs (x := x) j o3.sl rfl hx fun _ => ?_
    refine q_lenSl hnl ?_
    rw [show (nums l).length = l.length by simp [nums]]
    refine jo_rule (fun J2 => (∀ p1 p2 p3 p4 p5 p6 p7 p8 p9 p10 p12 p13, J2 p1 p2 p3 p4 p5 p6 p7 p8 p9 p10 (.bool true) p12 p13 w') ∧ (R.id ∈ ([s.c.v, s.c.l, s.c.o].drop (j + 1)).flatten → ∀ p1 p2 p3 p4 p5 p6 p7 p8 p9 p10 p12 p13, J2 p1 p2 p3 p4 p5 p6 p7 p8 p9 p10 (.bool false) p12 p13 w')) ⟨fun p1 p2 p3 p4 p5 p6 p7 p8 p9 p10 p12 p13 => ?_, fun hh p1 p2 p3 p4 p5 p6 p7 p8 p9 p10 p12 p13 => ?_⟩ ?_
    · (repeat (first | (refine go ?_; intros) | (refine goK53 ?_; intros)))
      exact hJ
    · (repeat (first | (refine go ?_; intros) | (refine goK53 ?_; intros)))
      rw [wrapS (by omega)]
      exact hR (j + 1) _ _ ⟨rfl, rfl, by omega, rfl, hh⟩ (by omega)
    rintro J2 ⟨hJt, hJf⟩
    refine loop_n (α := Nat) (fun i τ' w'' => g τ' 0 = .bool false ∧ g τ' 2 = .int .i64 i ∧ i ≤ l.length ∧ w'' = w' ∧ (R.id ∈ l.drop i ∨ R.id ∈ ([s.c.v, s.c.l, s.c.o].drop (j + 1)).flatten)) (fun i => l.length - i) 0 ⟨ht, rfl, Nat.zero_le _, rfl, hid1⟩ ?_
    rintro i τ' w'' R2 ⟨ht2, hi2, hle2, rfl, hid2⟩ hR2
    rw [hi2, ht2]
    (repeat (first | (refine go ?_; intros) | (refine goK53 ?_; intros)))
    refine if_split (fun hb2 => ?_) (fun hb2 => ?_)
    · have hi' : i < l.length := by
        have := of_decide_eq_true hb2
        omega
      obtain ⟨y, hy⟩ : ∃ y, l[i]? = some y := ⟨_, List.getElem?_eq_getElem hi'⟩
      refine q_ixs (x := .int .u64 y) i hnl rfl (by simp [nums, hy]) fun _ => ?_
      (repeat (first | (refine go ?_; intros) | (refine goK53 ?_; intros)))
      by_cases hyid : y = R.id
      · rw [show (y == R.id) = true by simp [hyid]]
        (repeat (first | (refine go ?_; intros) | (refine goK53 ?_; intros)))
        exact hJt _ _ _ _ _ _ _ _ _ _ _ _
      · rw [show (y == R.id) = false by simp [hyid]]
        (repeat (first | (refine go ?_; intros) | (refine goK53 ?_; intros)))
        rw [wrapS (by omega)]
        refine hR2 (i + 1) _ _ ⟨rfl, rfl, by omega, rfl, ?_⟩ (by omega)
        refine hid2.imp (fun hh => ?_) id
        obtain ⟨hlt, hge⟩ := List.getElem?_eq_some_iff.1 hy
        rw [List.drop_eq_getElem_cons hlt, hge, List.mem_cons] at hh
        exact hh.resolve_left fun e => hyid e.symm
    · have hil : i = l.length := by
        have := of_decide_eq_false hb2
        omega
      subst hil
      rw [List.drop_length] at hid2
      exact hJf (hid2.resolve_left (by simp)) _ _ _ _ _ _ _ _ _ _ _ _
  · have hj3 : j = 3 := by
      have := of_decide_eq_false hb
      omega
    subst hj3
    exact absurd hid1 (by simp)

end Go.Proofs.YtmmpogfbhelioaaGreat
/-
  Contract: guarded: a function is called, and nothing panicked.
  Conditions: the function returns.
-/
namespace Go.Proofs.YtmmpogfbhelioaaGreat
set_option maxRecDepth 10000
set_option linter.unusedVariables false
set_option linter.unusedSimpArgs false
set_option linter.unusedVariables false

theorem gd_67 (p : Addr) (w : World) (v0 : Value) (hc : w.cell? p = some v0) (hz : w.frozen? p = false) (hv0 : one v0 = true) :
    CallsD Tryz.prog 67 #[.pointer (some p)] .returning w fun e u' w' => e = .returned (.tuple #[]) ∧ u' = .returning ∧ w' = w.setCell p (.bool false) := by
  refine callsD_of_wpS Tryz.func67 rfl fun c₀ cs hu => ?_
  apply wpS_region
  simp [wpOpsS, go_sem, recoverD, hu, Tryz.ntmps67, Exit.thenS]
  simp [hc, hz, Oper.upon, bodyPostS, results, Tryz.results67, Act.put]
  cases c₀
  simp_all

theorem k48 {C : Nat → Prop} {T : List Nat} {K : Value → World → Prop} {w : World} {fn : Nat} [TFn Pr fn] {cap : Array Value} {Q : World → World → Prop} (hT : T.contains 6 = false)
    (hf : ∀ w1, Ex w w1 → CK Pr fn cap w1 fun _ w2 => Up C T w1 w2 ∧ Q w1 w2)
    (h : ∀ w1 w2 w3, Ex w w1 → Up C T w1 w2 → Q w1 w2 → Up (fun x => x = w.heap.size) [6] w2 w3 → K (.bool false) w3) : CK Pr 48 #[.func (.func fn) #[] cap] w K := by
  have hmf : ∀ (fn : Fn) (first cap : Array Value) (w : World), (Instr.makeFunc fn first cap).run Tryz.prog w = .ok (.func fn first cap) w := fun _ _ _ _ => rfl
  unfold CK
  go_enter_defers Tryz.func48, Tryz.ntmps48
  go_wp2
  have e1 : Ex w (w.alloc (.cells #[.bool false] 4)) := Up.alloc _ _
  have hb : Bk (w.alloc (.cells #[.bool false] 4)) w.heap.size (.cells #[.bool false] 4 (0, 0)) := Bk.alloc_new _ _
  rw [run_callFunc]
  simp only [Oper.upon]
  refine Calls.mono (hf _ e1) ?_
  rintro e w2 ⟨v, rfl, u, q⟩
  have hb2 := u.at_ hb hT
  have hc : w2.cell? ⟨w.heap.size, 0, none⟩ = some (.bool false) := by rw [hb2.cell]; rfl
  have hz : w2.frozen? ⟨w.heap.size, 0, none⟩ = false := hb2.frozen 0
  rename_i K1 h1 K2 h2
  refine h2 _ _ ?_
  go_wp2
  have hb3 := hb2.setCell 0 (.bool false)
  have u3 : Up (fun x => x = w.heap.size) [6] w2 _ := Up.setCell hb2 0 (.bool false)
  generalize w2.setCell ⟨w.heap.size, 0, none⟩ (.bool false) = w3 at hb3 u3 ⊢
  have hc3 : w3.cell? ⟨w.heap.size, 0, none⟩ = some (.bool false) := by rw [hb3.cell]; rfl
  have hz3 : w3.frozen? ⟨w.heap.size, 0, none⟩ = false := hb3.frozen 0
  have hb4 := hb3.setCell 0 (.bool false)
  have u4 : Up (fun x => x = w.heap.size) [6] w3 _ := Up.setCell hb3 0 (.bool false)
  simp only [bodyPostD]
  refine leaves_cons (f := 67) (args := #[.pointer (some ⟨w.heap.size, 0, none⟩)]) (by simp) (by simp [go_sem]) ?_
  refine (gd_67 _ _ (.bool false) hc3 hz3 rfl).mono ?_
  rintro e u' w4 ⟨rfl, rfl, rfl⟩
  have hc4 : (w3.setCell ⟨w.heap.size, 0, none⟩ (.bool false)).cell? ⟨w.heap.size, 0, none⟩ = some (.bool false) := by rw [hb4.cell]; rfl
  have hh := h _ w2 _ e1 u q (u3.trans u4)
  simp [Leaves, settle, results, Tryz.results48, go_sem, hc4]
  exact hh

end Go.Proofs.YtmmpogfbhelioaaGreat
/-
  Contract: a machine is made, something is called on it, and what it is then is told.
  Conditions: the data is whole; no messages.
-/
namespace Go.Proofs.YtmmpogfbhelioaaGreat
set_option maxRecDepth 10000
set_option linter.unusedVariables false
set_option linter.unusedSimpArgs false
theorem nmK24 {p : Prop} (h : p := by (try simp only [List.getElem?_toArray, List.getElem?_cons_zero, List.getElem?_cons_succ, List.setIfInBounds_toArray, List.set_cons_zero, List.set_cons_succ, List.toList_toArray, List.drop_zero, List.drop_succ_cons, List.take_zero, List.take_succ_cons, Nat.zero_add, Nat.add_zero, Nat.reduceAdd, putCells, Rf.cells, Mac.cells, Aft0]) <;> rfl) : p := h
theorem goK24 {G H : Prop} (h : H) (s : Stp G H := by (apply Stp.of; intro hS; (first | (refine q_ld bk_ nmK24 ?_) | (refine q_ldU bk_ rfl nmK24 ?_) | (refine q_ldW bk_ (by rfl) ?_) | (refine q_ldWU bk_ rfl (by rfl) ?_) | (refine q_ldP bk_ (Nat.le_of_ble_eq_true rfl) nmK24 ?_) | (refine q_ldPU bk_ rfl (Nat.le_of_ble_eq_true rfl) nmK24 ?_) | (refine q_ext nmK24 ?_) | (refine u_st bk_ (Nat.le_of_ble_eq_true rfl) (by first | rfl | assumption) nmK24 ?_) | (refine u_stA bk_ (Nat.le_of_ble_eq_true rfl) (by rfl) (by rfl) nmK24 ?_) | (refine q_field nmK24 ?_)); exact hS.out)) : G := s.f h
set_option linter.unusedVariables false
set_option linter.unusedSimpArgs false
attribute [local irreducible] Instr.box Instr.alloc Instr.loadAt Instr.storeAt Instr.fieldAt Instr.indexAt Instr.build Instr.buildSlice Instr.makeSlice Instr.makeMap Instr.mapUpdate Instr.lookup Instr.range Instr.next Instr.entry Instr.extract Instr.makeInterface Instr.makeFunc Instr.sliceAt Instr.typeAssert Instr.field Instr.index Builtin.len_ Builtin.cap_ Builtin.max_ Builtin.min_ Builtin.append_ Builtin.copy_ Builtin.delete_ convert binS pickS nilS callV callM Op.unary Own Mp It Cu


variable {K : Value → World → Prop} {w : World} {te : Option Nat}

/-- The zero one of what is told. -/
def Aft0 (ok : Bool) : Array Value := #[.int .u64 0, .int .u64 0, .int .u64 0, .int .u64 0, .int .i64 0, .string ByteArray.empty, .int .u64 0, .int .u64 0, .slice none 0 0, .slice none 0 0, .slice none 0 0, .slice none 0 0, .bool false, .slice none 0 0, .slice none 0 0, .int .u64 0, .int .u64 0, .slice none 0 0, .slice none 0 0, .slice none 0 0, .slice none 0 0, .bool false, .bool false, .int .i64 0, .int .i64 0, .int .i64 0, .int .i64 0, .int .i64 0, .int .u64 0, .int .u64 0, .int .u64 0, .int .u64 0, .slice none 0 0, .slice none 0 0, .bool ok, .bool false]
/-- What is told. -/
def Aft (m : Mac) (sv lv : Value) (ok pn : Bool) : Array Value := #[.int .u64 m.id, .int .u64 m.term, .int .u64 m.vote, .int .u64 m.lead, .int .i64 m.role, .string m.base.d, .int .u64 m.base.i, .int .u64 m.base.t, m.cvV, m.clV, m.coV, m.cnV, .bool m.base.c.a, m.stV, m.frV, .int .u64 m.commit, .int .u64 m.applied, m.voV, m.leV, m.peV, m.vsV, .bool m.pv, .bool m.cq, .int .i64 m.el, .int .i64 m.hb, .int .i64 m.to, .int .i64 m.ep, .int .i64 m.be, .int .u64 m.ms, .int .u64 m.mu, .int .u64 m.un, .int .u64 m.tr, sv, lv, .bool ok, .bool pn]

/-- What the machine in memory must be, so that it can be told. -/
structure Fine (m : Mac) (R : Rf) (L : Lg) (ps : Ps) (vo le : List Int) : Prop where
  st : 0 ≤ R.st ∧ R.st ≤ 3
  off : L.us = none → ∀ e ∈ m.st, e.i < L.off
  kk : ∀ e ∈ L.un, i64 e.k
  sm : ∀ s, L.us = some s → CfSm s.c
  len : ps.length ≤ 13
  nd : (ps.map (·.1)).Nodup
  vo : vo.length ≤ 13
  le : le.length ≤ 13

theorem k52 {b : Nat} {R : Rf} (hb : Bk w b (.cells R.cells 187 (0, 0))) (h : ∀ w', Ex w w' → K (.tuple #[R.ms, R.af]) w') : CK Pr 52 #[.pointer (some ⟨b, 0, none⟩)] w K := by
  refine c52 ?_
  unfold t52
  refine dr_rule No [] fun w1 e1 z1 => ?_
  have hb1 := e1.at_ hb
  (repeat (first | (refine go ?_; intros) | (refine goK24 ?_; intros)))
  exact h w1 e1

theorem k53n (h : K (.slice none 0 0) w) : CK Pr 53 #[.slice none 0 0] w K := by
  refine c53 ?_
  unfold t53
  (repeat (first | (refine go ?_; intros) | (refine goK24 ?_; intros)))
  refine loop_n (α := Unit) (fun _ τ w' => g τ 0 = .slice none 0 0 ∧ g τ 2 = .int .i64 0 ∧ w' = w) (fun _ => 0) () ⟨rfl, rfl, rfl⟩ ?_
  rintro _ τ w' R ⟨h0, h2, rfl⟩ hR
  rw [h0, h2]
  (repeat (first | (refine go ?_; intros) | (refine goK24 ?_; intros)))
  exact h

end Go.Proofs.YtmmpogfbhelioaaGreat
