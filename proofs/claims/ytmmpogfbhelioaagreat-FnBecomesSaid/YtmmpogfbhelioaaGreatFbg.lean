/-
  PARTS: K6 Dc T5 K7 K8 K9 Dd De K10 K11 K12 Df.
-/
import Derived.Test.YtmmpogfbhelioaaGreatFbf
import Derived.Test.YtmmpogfbhelioaaGreatFbc
import Derived.Test.YtmmpogfbhelioaaGreatFbb
import Derived.Test.YtmmpogfbhelioaaGreatFbe
/-
  Contracts: the getters of the package's entries, configurations and snapshots; plain data made out of them.
  Conditions: each one's own.
-/
namespace Go.Proofs.YtmmpogfbhelioaaGreat
set_option maxRecDepth 10000
set_option linter.unusedVariables false
set_option linter.unusedSimpArgs false
set_option linter.unusedVariables false
set_option linter.unusedSimpArgs false
attribute [local irreducible] Instr.box Instr.alloc Instr.loadAt Instr.storeAt Instr.fieldAt Instr.indexAt Instr.build Instr.buildSlice Instr.makeSlice Instr.makeMap Instr.mapUpdate Instr.lookup Instr.range Instr.next Instr.entry Instr.extract Instr.makeInterface Instr.makeFunc Instr.sliceAt Instr.typeAssert Instr.field Instr.index Builtin.len_ Builtin.cap_ Builtin.max_ Builtin.min_ Builtin.append_ Builtin.copy_ Builtin.delete_ convert binS pickS nilS callV callM Op.unary Own Mp It Cu


variable {K : Value → World → Prop} {w : World} {te : Option Nat}

theorem k95 {v : Value} {s : Sn} (h : PS v s w) (k : ∀ v', PM v' s.i s.t s.c w → K v' w) : CK Pr 95 #[v] w K := by
  obtain ⟨b, v1, v2, rfl, hb, hd, hm⟩ := h
  refine c95 ?_
  unfold t95
  (repeat (first | (refine go ?_; intros) | (refine gon ?_; intros)))
  exact k _ hm

theorem k132 {v : Value} {s : Sn} (h : PS v s w) (k : ∀ v', Sl w (some 5) 1 v' (byteList s.d) → K v' w) : CK Pr 132 #[v] w K := by
  obtain ⟨b, v1, v2, rfl, hb, hd, hm⟩ := h
  refine c132 ?_
  unfold t132
  (repeat (first | (refine go ?_; intros) | (refine gon ?_; intros)))
  exact k _ hd

theorem k96 {v : Value} {i t : Int} {c : Cf} (h : PM v i t c w) (k : K (.int .u64 i) w) : CK Pr 96 #[v] w K := by
  obtain ⟨b, v1, v2, v3, rfl, hb, hc, ⟨bi, rfl, hbi⟩, ⟨bt, rfl, hbt⟩⟩ := h
  refine c96 ?_
  unfold t96
  (repeat (first | (refine go ?_; intros) | (refine gon ?_; intros)))
  exact k

theorem k99 {v : Value} {i t : Int} {c : Cf} (h : PM v i t c w) (k : K (.int .u64 t) w) : CK Pr 99 #[v] w K := by
  obtain ⟨b, v1, v2, v3, rfl, hb, hc, ⟨bi, rfl, hbi⟩, ⟨bt, rfl, hbt⟩⟩ := h
  refine c99 ?_
  unfold t99
  (repeat (first | (refine go ?_; intros) | (refine gon ?_; intros)))
  exact k

theorem k97 {v : Value} {i t : Int} {c : Cf} (h : PM v i t c w) (k : ∀ v', PC v' c w → K v' w) : CK Pr 97 #[v] w K := by
  obtain ⟨b, v1, v2, v3, rfl, hb, hc, ⟨bi, rfl, hbi⟩, ⟨bt, rfl, hbt⟩⟩ := h
  refine c97 ?_
  unfold t97
  (repeat (first | (refine go ?_; intros) | (refine gon ?_; intros)))
  exact k _ hc

theorem k210 {v : Value} {c : Cf} (h : PC v c w) (k : ∀ v', Nums w (some 22) v' c.v → K v' w) : CK Pr 210 #[v] w K := by
  obtain ⟨b, v1, v2, v3, v4, v5, rfl, hb, h1, h2, h3, h4, ⟨b5, rfl, hb5⟩⟩ := h
  refine c210 ?_
  unfold t210
  (repeat (first | (refine go ?_; intros) | (refine gon ?_; intros)))
  exact k _ h1

theorem k211 {v : Value} {c : Cf} (h : PC v c w) (k : ∀ v', Nums w (some 22) v' c.l → K v' w) : CK Pr 211 #[v] w K := by
  obtain ⟨b, v1, v2, v3, v4, v5, rfl, hb, h1, h2, h3, h4, ⟨b5, rfl, hb5⟩⟩ := h
  refine c211 ?_
  unfold t211
  (repeat (first | (refine go ?_; intros) | (refine gon ?_; intros)))
  exact k _ h2

theorem k212 {v : Value} {c : Cf} (h : PC v c w) (k : ∀ v', Nums w (some 22) v' c.o → K v' w) : CK Pr 212 #[v] w K := by
  obtain ⟨b, v1, v2, v3, v4, v5, rfl, hb, h1, h2, h3, h4, ⟨b5, rfl, hb5⟩⟩ := h
  refine c212 ?_
  unfold t212
  (repeat (first | (refine go ?_; intros) | (refine gon ?_; intros)))
  exact k _ h3

theorem k213 {v : Value} {c : Cf} (h : PC v c w) (k : ∀ v', Nums w (some 22) v' c.n → K v' w) : CK Pr 213 #[v] w K := by
  obtain ⟨b, v1, v2, v3, v4, v5, rfl, hb, h1, h2, h3, h4, ⟨b5, rfl, hb5⟩⟩ := h
  refine c213 ?_
  unfold t213
  (repeat (first | (refine go ?_; intros) | (refine gon ?_; intros)))
  exact k _ h4

theorem k156 {v : Value} {c : Cf} (h : PC v c w) (k : K (.bool c.a) w) : CK Pr 156 #[v] w K := by
  obtain ⟨b, v1, v2, v3, v4, v5, rfl, hb, h1, h2, h3, h4, ⟨b5, rfl, hb5⟩⟩ := h
  refine c156 ?_
  unfold t156
  (repeat (first | (refine go ?_; intros) | (refine gon ?_; intros)))
  exact k

theorem k124 {v : Value} {e : En} (h : PE v e w) (k : K (.int .u64 e.i) w) : CK Pr 124 #[v] w K := by
  obtain ⟨b, vt, vi, vk, vd, rfl, hb, ht, hi, hk, hd⟩ := h
  refine c124 ?_
  unfold t124
  rcases hi with ⟨rfl, h0⟩ | ⟨b2, rfl, hb2⟩
  · (repeat (first | (refine go ?_; intros) | (refine gon ?_; intros)))
    rw [h0] at k
    exact k
  · (repeat (first | (refine go ?_; intros) | (refine gon ?_; intros)))
    exact k

theorem k128 {v : Value} {e : En} (h : PE v e w) (k : K (.int .u64 e.t) w) : CK Pr 128 #[v] w K := by
  obtain ⟨b, vt, vi, vk, vd, rfl, hb, ht, hi, hk, hd⟩ := h
  refine c128 ?_
  unfold t128
  rcases ht with ⟨rfl, h0⟩ | ⟨b2, rfl, hb2⟩
  · (repeat (first | (refine go ?_; intros) | (refine gon ?_; intros)))
    rw [h0] at k
    exact k
  · (repeat (first | (refine go ?_; intros) | (refine gon ?_; intros)))
    exact k

theorem k129 {v : Value} {e : En} (h : PE v e w) (k : K (.int .i32 e.k) w) : CK Pr 129 #[v] w K := by
  obtain ⟨b, vt, vi, vk, vd, rfl, hb, ht, hi, hk, hd⟩ := h
  refine c129 ?_
  unfold t129
  rcases hk with ⟨rfl, h0⟩ | ⟨b2, rfl, hb2⟩
  · (repeat (first | (refine go ?_; intros) | (refine gon ?_; intros)))
    rw [h0] at k
    exact k
  · (repeat (first | (refine go ?_; intros) | (refine gon ?_; intros)))
    exact k

theorem k130 {v : Value} {e : En} (h : PE v e w) (k : ∀ v', Sl w (some 5) 1 v' (byteList e.d) → K v' w) : CK Pr 130 #[v] w K := by
  obtain ⟨b, vt, vi, vk, vd, rfl, hb, ht, hi, hk, hd⟩ := h
  refine c130 ?_
  unfold t130
  (repeat (first | (refine go ?_; intros) | (refine gon ?_; intros)))
  exact k _ hd

theorem k133 {v : Value} {c : Cf} (h : PC v c w) (l1 : c.v.length ≤ 1000000) (l2 : c.l.length ≤ 1000000) (l3 : c.o.length ≤ 1000000) (l4 : c.n.length ≤ 1000000)
    (k : ∀ v1 v2 v3 v4 w', Ex w w' → Own w' w.heap.size 22 1 v1 (nums c.v) → Own w' w.heap.size 22 1 v2 (nums c.l) → Own w' w.heap.size 22 1 v3 (nums c.o) → Own w' w.heap.size 22 1 v4 (nums c.n) → K (.agg #[v1, v2, v3, v4, .bool c.a]) w') : CK Pr 133 #[v] w K := by
  refine c133 ?_
  unfold t133
  refine e_allocA fun b0 w0 e0 hb0 sa sb => ?_
  refine cl_fn (k210 (h.ex ex_) fun v1 h1 => ?_)
  refine cl_fn (k107 h1 l1 fun u1 w1 e1 o1 => ?_)
  have z1 := e1.size
  refine cl_fn (k211 (h.ex ex_) fun v2 h2 => ?_)
  refine cl_fn (k107 h2 l2 fun u2 w2 e2 o2 => ?_)
  have z2 := e2.size
  refine cl_fn (k212 (h.ex ex_) fun v3 h3 => ?_)
  refine cl_fn (k107 h3 l3 fun u3 w3 e3 o3 => ?_)
  have z3 := e3.size
  refine cl_fn (k213 (h.ex ex_) fun v4 h4 => ?_)
  refine cl_fn (k107 h4 l4 fun u4 w4 e4 o4 => ?_)
  have z4 := e4.size
  refine cl_fn (k156 (h.ex ex_) ?_)
  refine b25_0_1_2_3_4 o1.sl.one o2.sl.one o3.sl.one o4.sl.one rfl ?_
  refine u_stA bk_ (Nat.le_of_ble_eq_true rfl) (by rfl) (by simp only [List.all_cons, List.all_nil, o1.sl.one, o2.sl.one, o3.sl.one, o4.sl.one]; rfl) nm_ fun w5 u5 hb5 z5 => ?_
  (repeat (first | (refine go ?_; intros) | (refine gon ?_; intros)))
  refine k u1 u2 u3 u4 w5 ex_ ?_ ?_ ?_ ?_
  · exact ((((o1.ex e2).ex e3).ex e4).mono (by omega)).up u5 fun _ _ => .inl rfl
  · exact (((o2.ex e3).ex e4).mono (by omega)).up u5 fun _ _ => .inl rfl
  · exact ((o3.ex e4).mono (by omega)).up u5 fun _ _ => .inl rfl
  · exact (o4.mono (by omega)).up u5 fun _ _ => .inl rfl

theorem k90 {v : Value} {s : Sn} (h : PS v s w) (l1 : s.c.v.length ≤ 1000000) (l2 : s.c.l.length ≤ 1000000) (l3 : s.c.o.length ≤ 1000000) (l4 : s.c.n.length ≤ 1000000)
    (k : ∀ v1 v2 v3 v4 w', Ex w w' → Own w' w.heap.size 22 1 v1 (nums s.c.v) → Own w' w.heap.size 22 1 v2 (nums s.c.l) → Own w' w.heap.size 22 1 v3 (nums s.c.o) → Own w' w.heap.size 22 1 v4 (nums s.c.n) → K (.agg (snCells s v1 v2 v3 v4)) w') : CK Pr 90 #[v] w K := by
  refine c90 ?_
  unfold t90
  refine e_allocA fun b0 w0 e0 hb0 sa sb => ?_
  refine cl_fn (k95 (h.ex ex_) fun vm hm => ?_)
  refine dr_rule (fun b => b = b0) [29] fun w1 e1 z1 => ?_
  refine cl_fn (k132 (h.ex ex_) fun vd hd => ⟨.refl _ _ _, ?_⟩)
  refine q_strS (s := s.d) (fun w' hw => hd.typ hw rfl) ?_
  refine cl_fn (k96 (hm.ex e1) ⟨.refl _ _ _, ?_⟩)
  refine cl_fn (k99 (hm.ex e1) ⟨.refl _ _ _, ?_⟩)
  refine cl_fn (k97 (hm.ex e1) fun vc hc => ⟨.refl _ _ _, ?_⟩)
  refine cl_fn (k133 hc l1 l2 l3 l4 fun u1 u2 u3 u4 w2 e2 o1 o2 o3 o4 => ⟨.of_ex e2, ?_⟩)
  have z2 := e2.size
  refine b27_0_1_2_3 rfl rfl rfl ?_
  refine u_stA bk_ (Nat.le_of_ble_eq_true rfl) (by rfl) (by simp only [List.all_cons, List.all_nil, o1.sl.one, o2.sl.one, o3.sl.one, o4.sl.one]; rfl) nm_ fun w5 u5 hb5 z5 => ⟨(Up.of_ex e2).trans u5, ?_⟩
  (repeat (first | (refine go ?_; intros) | (refine gon ?_; intros)))
  refine k u1 u2 u3 u4 w5 ex_ ?_ ?_ ?_ ?_
  · exact (o1.mono (by omega)).up u5 fun _ _ => .inl rfl
  · exact (o2.mono (by omega)).up u5 fun _ _ => .inl rfl
  · exact (o3.mono (by omega)).up u5 fun _ _ => .inl rfl
  · exact (o4.mono (by omega)).up u5 fun _ _ => .inl rfl

theorem En.one {e : En} : ∀ u ∈ (Value.agg e.cells.toArray).cells.toList, one u = true := by
  intro u hu
  simp only [Value.cells, En.cells, List.mem_cons, List.not_mem_nil, or_false] at hu
  rcases hu with rfl | rfl | rfl | rfl <;> rfl

theorem k86 {v : Value} {ps : List Value} {l : List En} (hv : Sl w te 1 v (ones ps)) (hps : PEs ps l w) (hl : l.length ≤ 1000000) (hk : ∀ e ∈ l, i64 e.k)
    (h : ∀ v' w', Ex w w' → Own w' w.heap.size 56 4 v' (l.map En.cells) → K v' w') : CK Pr 86 #[v] w K := by
  refine c86 ?_
  unfold t86
  refine q_lenSl hv ?_
  have hol : (ones ps).length = l.length := by rw [ones, List.length_map, hps.len]
  rw [hol]
  refine loop_n (α := Nat) (fun j τ w' => g τ 2 = .int .i64 j ∧ j ≤ l.length ∧ Ex w w' ∧ Own w' w.heap.size 56 4 (g τ 0) ((l.take j).map En.cells)) (fun j => l.length - j) 0
    ⟨rfl, Nat.zero_le _, .refl _ _ _, Own.nil _ _ _ _⟩ ?_
  intro j τ w' R ⟨hj, hle, hex, hown⟩ hR
  rw [hj]
  (repeat (first | (refine go ?_; intros) | (refine gon ?_; intros)))
  have zz := hex.size
  refine if_split (fun hb => ?_) (fun hb => ?_)
  · have hj' : j < l.length := by simpa using hb
    obtain ⟨p, hp⟩ : ∃ p, ps[j]? = some p := ⟨_, List.getElem?_eq_getElem (by rw [hps.len]; exact hj')⟩
    obtain ⟨e, he, hpe⟩ := hps.get hp
    have hpe' := hpe.ex hex
    refine q_ixs j (hv.ex hex) rfl (by rw [ones, List.getElem?_map, hp]; rfl) fun _ => ?_
    refine cl_fn (k128 hpe' ?_)
    refine cl_fn (k124 hpe' ?_)
    refine cl_fn (k129 hpe' ?_)
    (repeat (first | (refine go ?_; intros) | (refine gon ?_; intros)))
    refine cl_fn (k130 hpe' fun vd hd => ?_)
    refine q_strS (s := e.d) (fun w2 h2 => by cases h2; exact hd) ?_
    have hke := hk e (List.mem_of_getElem? he)
    rw [wrap64 hke.1 hke.2]
    refine b56_0_1_2_3 rfl rfl rfl rfl ?_
    have hlt : ((l.take j).map En.cells).length = j := by rw [List.length_map, List.length_take]; omega
    refine e_push (n := 4) hown (by rfl) (by omega) En.one (by rw [hlt]; omega) (by rw [hlt]; omega) (by omega) fun _ v' w3 u3 ow3 hbl z3 => ?_
    (repeat (first | (refine go ?_; intros) | (refine gon ?_; intros)))
    refine hR (j + 1) _ _ ⟨by rw [← wrapS (by omega)]; rfl, hj', ?_, ?_⟩ (by omega)
    · exact hex.new u3 fun b hb => (hown.lt b hb).1
    · rw [take_snoc he, List.map_append]; exact ow3
  · have : ¬ ((j : Int) < (l.length : Nat)) := of_decide_eq_false hb
    have hjl : j = l.length := by omega
    rw [hjl, List.take_length] at hown
    exact h _ _ hex hown

end Go.Proofs.YtmmpogfbhelioaaGreat
/-
  The rule for copy: a made slice takes over what another one holds.
  Conditions: elements of one cell, as many as there are.
-/
namespace Go.Proofs.YtmmpogfbhelioaaGreat
set_option maxRecDepth 10000
set_option linter.unusedVariables false
set_option linter.unusedSimpArgs false
variable {P : Program} {w : World} {KW : Value → World → Prop} {te : Option Nat}

theorem e_copy {t ty e by' base : Nat} [TSli P t e 1] [TElm P e 1 by'] {v x : Value} {xs ys : List (List Value)} (ho : Own w base e 1 v xs) (hx : Sl w te 1 x ys) (hl : xs.length = ys.length) (h1 : ∀ y ∈ ys, ∀ u ∈ y, one u = true)
    (k : ∀ r w', Up (fun b => v.ownBlock = some b) [e + 2] w w' → Own w' base e 1 v ys → w'.heap.size = w.heap.size → KW r w') : Ef P (Builtin.copy_ #[t, t] ty #[v, x]) w KW := by
  obtain ⟨inf, hu, hinf, hn, hn0⟩ := TSli.facts (P := P) t e 1
  obtain ⟨⟨hol, hown⟩, hlen⟩ := ho
  have hfl : ys.flatten.length = ys.length := by
    have := hx.eln
    clear hx h1 hl k
    induction ys with
    | nil => rfl
    | cons y r ih => rw [List.flatten_cons, List.length_append, ih (fun z hz => this z (by simp [hz])), this y (by simp), List.length_cons]; omega
  have hsz : P.info? e = some inf ∧ inf.size = 1 := ⟨hinf, hn⟩
  by_cases h0 : ys = []
  · subst h0
    have hx0 : xs = [] := List.eq_nil_of_length_eq_zero (by simpa using hl)
    subst hx0
    obtain ⟨a, c, rfl⟩ := hx.sh
    have hr : (Builtin.copy_ #[t, t] ty #[v, .slice a ([] : List (List Value)).length c]).run P w = .ok (goInt 0) w := by
      rcases hown with ⟨rfl, _⟩ | ⟨g, cap, cur, rfl, _⟩ <;> cases a <;>
        simp [Builtin.copy_, run_und hu, Builtin.lenOf, Builtin.firstCells, run_size hinf, loadCells, loadCellsFrom, storeCells]
    exact .mk _ w hr (k _ w (.refl _ _ _) ⟨⟨hol, hown⟩, hlen⟩ rfl)
  · have hy0 : ys.length ≠ 0 := fun h => h0 (List.eq_nil_of_length_eq_zero h)
    rcases hown with ⟨rfl, hz⟩ | ⟨g, cap, cur, rfl, hbg, hg, hnc, hmx, hcs, htake⟩
    · omega
    · cases hx with
      | nil => exact absurd rfl h0
      | row b o c cs et fz _ hb hc hm hs hxx hn ht =>
        have hcell : ∀ j u, ys.flatten[j]? = some u → w.cell? ((⟨b, o, none⟩ : Addr).add j) = some u := by
          intro j u hj
          rw [add_addr, hb.cell]
          rw [← hxx, List.getElem?_take, List.getElem?_drop] at hj
          split at hj
          · simpa using hj
          · cases hj
        have hr := run_copy_row (P := P) w t t ty e g 0 xs.length cap ⟨b, o, none⟩ ys.length c cur e ys.flatten hu (by rw [hinf]; simp [hsz.2]) hg (by rw [hfl, hl]; simp) hcell (by rw [hfl, hcs]; omega) (fun u hu' => by
          obtain ⟨y, hy, huy⟩ := List.mem_flatten.1 hu'
          exact one_iff u (h1 y hy u huy))
        refine .mk _ _ hr (k _ _ ?_ ⟨⟨?_, ?_⟩, hn⟩ ?_)
        · refine ⟨by simp [World.setRow], rfl, rfl, rfl, fun b' o' hb' hc' => ?_⟩
          have hne : b' ≠ g := by
            rintro rfl
            rcases hc' with hc' | hc'
            · have := Bk.one hb' hg
              subst this
              simp [kd] at hc'
            · exact hc' rfl
          unfold Bk at *
          rw [setRow_other w g b' _ hne]; exact hb'
        · rw [hfl, Nat.mul_one]
        · refine .inr ⟨g, cap, _, by rw [hl], hbg, setRow_heap w g cur _ e _ hg, by omega, hmx, ?_, ?_⟩
          · simp [hfl, hcs]; omega
          · simp only [List.take_zero, List.nil_append, Nat.zero_add, Nat.mul_one]
            rw [← hfl, List.take_append_of_le_length (Nat.le_refl _), List.take_length]
        · simp [World.setRow]

end Go.Proofs.YtmmpogfbhelioaaGreat
/-
  The readable texts of the program's functions, printed by gen.py, and their links with the program.
  Conditions: none.
-/
namespace Go.Proofs.YtmmpogfbhelioaaGreat
set_option maxRecDepth 10000
set_option linter.unusedVariables false
set_option linter.unusedSimpArgs false
set_option linter.unusedVariables false
/-- pub/raft/confchange.outgoing -/
def t225 (a0 : Value) (K : Value → World → Prop) (w : World) : Prop :=
  Ef Pr (Instr.box 134 a0) w fun v2 w1 => 
  Qu Pr (Is w1) (Instr.indexAt 134 v2 (Value.int .i64 1)) fun v3 =>
  Qu Pr (Is w1) (Instr.loadAt 132 v3) fun v4 =>
  K v4 w1
theorem c225 {a0 : Value} {K : Value → World → Prop} {w : World} (h : t225 a0 K w) : CK Pr 225 #[a0] w K := by
  refine calls_of_RF [] Tryz.func225 rfl ?_ ?_ ?_
  · kernel_rfl
  · exact Nat.le_of_ble_eq_true rfl
  · exact cast (by kernel_rfl) h

/-- (*pub/raft/raftpb.ConfState).ZzClone -/
def t226 (a0 : Value) (K : Value → World → Prop) (w : World) : Prop :=
  Qu Pr (Is w) (binS .eql 102 (.tmp 3) (.const (Value.pointer none)) a0 (Value.pointer none)) fun v1 =>
  If v1 (
    K (Value.pointer none) w) (
    Dr w fun S2 w3 =>
    Qu Pr (S2) (nilS a0) fun v4 =>
    Qu Pr (S2) (Instr.fieldAt 200 v4 0) fun v5 =>
    Qu Pr (S2) (Instr.loadAt 23 v5) fun v6 =>
    Cl Pr (callV (fn 287) #[v6]) w3 fun v8 w7 => S2 w7 ∧ 
    Qu Pr (S2) (nilS a0) fun v9 =>
    Qu Pr (S2) (Instr.fieldAt 200 v9 1) fun v10 =>
    Qu Pr (S2) (Instr.loadAt 23 v10) fun v11 =>
    Cl Pr (callV (fn 287) #[v11]) w7 fun v13 w12 => S2 w12 ∧ 
    Qu Pr (S2) (nilS a0) fun v14 =>
    Qu Pr (S2) (Instr.fieldAt 200 v14 2) fun v15 =>
    Qu Pr (S2) (Instr.loadAt 23 v15) fun v16 =>
    Cl Pr (callV (fn 287) #[v16]) w12 fun v18 w17 => S2 w17 ∧ 
    Qu Pr (S2) (nilS a0) fun v19 =>
    Qu Pr (S2) (Instr.fieldAt 200 v19 3) fun v20 =>
    Qu Pr (S2) (Instr.loadAt 23 v20) fun v21 =>
    Cl Pr (callV (fn 287) #[v21]) w17 fun v23 w22 => S2 w22 ∧ 
    Qu Pr (S2) (nilS a0) fun v24 =>
    Qu Pr (S2) (Instr.fieldAt 200 v24 4) fun v25 =>
    Qu Pr (S2) (Instr.loadAt 117 v25) fun v26 =>
    Cl Pr (callV (fn 288) #[v26]) w22 fun v28 w27 => S2 w27 ∧ 
    Qu Pr (S2) (Instr.build 200 #[(0, v8), (1, v13), (2, v18), (3, v23), (4, v28)]) fun v29 =>
    Ef Pr (Instr.box 200 v29) w27 fun v31 w30 => S2 w30 ∧ 
    K v31 w30)
theorem c226 {a0 : Value} {K : Value → World → Prop} {w : World} (h : t226 a0 K w) : CK Pr 226 #[a0] w K := by
  refine calls_of_RF [] Tryz.func226 rfl ?_ ?_ ?_
  · kernel_rfl
  · exact Nat.le_of_ble_eq_true rfl
  · exact cast (by kernel_rfl) h

/-- (*pub/raft/raftpb.ConfState).Equivalent$1 -/
def t227 (a0 : Value) (K : Value → World → Prop) (w : World) : Prop :=
  Qu Pr (Is w) (nilS a0) fun v1 =>
  Qu Pr (Is w) (Instr.loadAt 23 v1) fun v2 =>
  Cl Pr (callV (fn 131) #[v2]) w fun _ w3 => 
  K (.tuple #[]) w3
theorem c227 {a0 : Value} {K : Value → World → Prop} {w : World} (h : t227 a0 K w) : CK Pr 227 #[a0] w K := by
  refine calls_of_RF [] Tryz.func227 rfl ?_ ?_ ?_
  · kernel_rfl
  · exact Nat.le_of_ble_eq_true rfl
  · exact cast (by kernel_rfl) h

/-- (*pub/raft/raftpb.ConfState).ZzEqual -/
def t228 (a0 a1 : Value) (K : Value → World → Prop) (w : World) : Prop :=
  Dr w fun S1 w2 =>
  Qu Pr (S1) (nilS a0) fun v3 =>
  Qu Pr (S1) (Instr.fieldAt 200 v3 0) fun v4 =>
  Qu Pr (S1) (Instr.loadAt 23 v4) fun v5 =>
  Qu Pr (S1) (nilS a1) fun v6 =>
  Qu Pr (S1) (Instr.fieldAt 200 v6 0) fun v7 =>
  Qu Pr (S1) (Instr.loadAt 23 v7) fun v8 =>
  Cl Pr (callV (fn 289) #[v5, v8]) w2 fun v10 w9 => S1 w9 ∧ 
  Gd v10 true (fun k11 => k11 a0 w9) w9 fun v12 w13 =>
  Gd v10 true (fun k14 => Qu Pr (S1) (nilS v12) fun v17 => k14 v17 w13) w13 fun v15 w16 =>
  Gd v10 true (fun k18 => Qu Pr (S1) (Instr.fieldAt 200 v15 1) fun v21 => k18 v21 w16) w16 fun v19 w20 =>
  Gd v10 true (fun k22 => Qu Pr (S1) (Instr.loadAt 23 v19) fun v25 => k22 v25 w20) w20 fun v23 w24 =>
  Gd v10 true (fun k26 => k26 a1 w24) w24 fun v27 w28 =>
  Gd v10 true (fun k29 => Qu Pr (S1) (nilS v27) fun v32 => k29 v32 w28) w28 fun v30 w31 =>
  Gd v10 true (fun k33 => Qu Pr (S1) (Instr.fieldAt 200 v30 1) fun v36 => k33 v36 w31) w31 fun v34 w35 =>
  Gd v10 true (fun k37 => Qu Pr (S1) (Instr.loadAt 23 v34) fun v40 => k37 v40 w35) w35 fun v38 w39 =>
  Gd v10 true (fun k41 => Cl Pr (callV (fn 289) #[v23, v38]) w39 fun v42x w43x => S1 w43x ∧ k41 v42x w43x) w39 fun v42 w43 =>
  Qu Pr (S1) (pickS v10 v42 (Value.bool false)) fun v44 =>
  Gd v44 true (fun k45 => k45 a0 w43) w43 fun v46 w47 =>
  Gd v44 true (fun k48 => Qu Pr (S1) (nilS v46) fun v51 => k48 v51 w47) w47 fun v49 w50 =>
  Gd v44 true (fun k52 => Qu Pr (S1) (Instr.fieldAt 200 v49 2) fun v55 => k52 v55 w50) w50 fun v53 w54 =>
  Gd v44 true (fun k56 => Qu Pr (S1) (Instr.loadAt 23 v53) fun v59 => k56 v59 w54) w54 fun v57 w58 =>
  Gd v44 true (fun k60 => k60 a1 w58) w58 fun v61 w62 =>
  Gd v44 true (fun k63 => Qu Pr (S1) (nilS v61) fun v66 => k63 v66 w62) w62 fun v64 w65 =>
  Gd v44 true (fun k67 => Qu Pr (S1) (Instr.fieldAt 200 v64 2) fun v70 => k67 v70 w65) w65 fun v68 w69 =>
  Gd v44 true (fun k71 => Qu Pr (S1) (Instr.loadAt 23 v68) fun v74 => k71 v74 w69) w69 fun v72 w73 =>
  Gd v44 true (fun k75 => Cl Pr (callV (fn 289) #[v57, v72]) w73 fun v76x w77x => S1 w77x ∧ k75 v76x w77x) w73 fun v76 w77 =>
  Qu Pr (S1) (pickS v44 v76 (Value.bool false)) fun v78 =>
  Gd v78 true (fun k79 => k79 a0 w77) w77 fun v80 w81 =>
  Gd v78 true (fun k82 => Qu Pr (S1) (nilS v80) fun v85 => k82 v85 w81) w81 fun v83 w84 =>
  Gd v78 true (fun k86 => Qu Pr (S1) (Instr.fieldAt 200 v83 3) fun v89 => k86 v89 w84) w84 fun v87 w88 =>
  Gd v78 true (fun k90 => Qu Pr (S1) (Instr.loadAt 23 v87) fun v93 => k90 v93 w88) w88 fun v91 w92 =>
  Gd v78 true (fun k94 => k94 a1 w92) w92 fun v95 w96 =>
  Gd v78 true (fun k97 => Qu Pr (S1) (nilS v95) fun v100 => k97 v100 w96) w96 fun v98 w99 =>
  Gd v78 true (fun k101 => Qu Pr (S1) (Instr.fieldAt 200 v98 3) fun v104 => k101 v104 w99) w99 fun v102 w103 =>
  Gd v78 true (fun k105 => Qu Pr (S1) (Instr.loadAt 23 v102) fun v108 => k105 v108 w103) w103 fun v106 w107 =>
  Gd v78 true (fun k109 => Cl Pr (callV (fn 289) #[v91, v106]) w107 fun v110x w111x => S1 w111x ∧ k109 v110x w111x) w107 fun v110 w111 =>
  Qu Pr (S1) (pickS v78 v110 (Value.bool false)) fun v112 =>
  Gd v112 true (fun k113 => k113 a0 w111) w111 fun v114 w115 =>
  Gd v112 true (fun k116 => Qu Pr (S1) (nilS v114) fun v119 => k116 v119 w115) w115 fun v117 w118 =>
  Gd v112 true (fun k120 => Qu Pr (S1) (Instr.fieldAt 200 v117 4) fun v123 => k120 v123 w118) w118 fun v121 w122 =>
  Gd v112 true (fun k124 => Qu Pr (S1) (Instr.loadAt 117 v121) fun v127 => k124 v127 w122) w122 fun v125 w126 =>
  Gd v112 true (fun k128 => Qu Pr (S1) (binS .eql 117 (.tmp 51) (.const (Value.pointer none)) v125 (Value.pointer none)) fun v131 => k128 v131 w126) w126 fun v129 w130 =>
  Gd v112 true (fun k132 => k132 a1 w130) w130 fun v133 w134 =>
  Gd v112 true (fun k135 => Qu Pr (S1) (nilS v133) fun v138 => k135 v138 w134) w134 fun v136 w137 =>
  Gd v112 true (fun k139 => Qu Pr (S1) (Instr.fieldAt 200 v136 4) fun v142 => k139 v142 w137) w137 fun v140 w141 =>
  Gd v112 true (fun k143 => Qu Pr (S1) (Instr.loadAt 117 v140) fun v146 => k143 v146 w141) w141 fun v144 w145 =>
  Gd v112 true (fun k147 => Qu Pr (S1) (binS .eql 117 (.tmp 56) (.const (Value.pointer none)) v144 (Value.pointer none)) fun v150 => k147 v150 w145) w145 fun v148 w149 =>
  Gd v112 true (fun k151 => Qu Pr (S1) (binS .eql 4 (.tmp 52) (.tmp 57) v129 v148) fun v154 => k151 v154 w149) w149 fun v152 w153 =>
  Qu Pr (S1) (pickS v112 v152 (Value.bool false)) fun v155 =>
  Gd v155 true (fun k156 => k156 a0 w153) w153 fun v157 w158 =>
  Gd v155 true (fun k159 => Cl Pr (callV (fn 156) #[v157]) w158 fun v160x w161x => S1 w161x ∧ k159 v160x w161x) w158 fun v160 w161 =>
  Gd v155 true (fun k162 => k162 a1 w161) w161 fun v163 w164 =>
  Gd v155 true (fun k165 => Cl Pr (callV (fn 156) #[v163]) w164 fun v166x w167x => S1 w167x ∧ k165 v166x w167x) w164 fun v166 w167 =>
  Gd v155 true (fun k168 => Qu Pr (S1) (binS .eql 4 (.tmp 62) (.tmp 64) v160 v166) fun v171 => k168 v171 w167) w167 fun v169 w170 =>
  Qu Pr (S1) (pickS v155 v169 (Value.bool false)) fun v172 =>
  K v172 w170
theorem c228 {a0 a1 : Value} {K : Value → World → Prop} {w : World} (h : t228 a0 a1 K w) : CK Pr 228 #[a0, a1] w K := by
  refine calls_of_RF [] Tryz.func228 rfl ?_ ?_ ?_
  · kernel_rfl
  · exact Nat.le_of_ble_eq_true rfl
  · exact cast (by kernel_rfl) h

/-- pub/raft.payloadsSize -/
def t236 (a0 : Value) (K : Value → World → Prop) (w : World) : Prop :=
  Qu Pr (Is w) (Builtin.len_ #[115] 3 #[a0]) fun v1 =>
  LoopW [(Value.int .u64 0), undef, (Value.int .i64 0), undef, undef, undef, undef, undef, undef, undef, undef] (fun r2 τ3 w4 =>
    Qu Pr (Is w4) (binS .lss 3 (.tmp 8) (.tmp 7) (g τ3 2) v1) fun v5 =>
    If v5 (
      Qu Pr (Is w4) (Instr.indexAt 115 a0 (g τ3 2)) fun v6 =>
      Qu Pr (Is w4) (Instr.loadAt 212 v6) fun v7 =>
      Cl Pr (callV (fn 294) #[v7]) w4 fun v9 w8 => 
      Qu Pr (Is w8) (binS .add 181 (.tmp 12) (.tmp 14) (g τ3 0) v9) fun v10 =>
      Qu Pr (Is w8) (binS .add 3 (.tmp 8) (.const (Value.int .i64 1)) (g τ3 2) (Value.int .i64 1)) fun v11 =>
      r2 [v10, v7, v11, v5, v6, v7, (g τ3 0), v7, v9, v10, v11] w8) (
      K (g τ3 0) w4)) w
theorem c236 {a0 : Value} {K : Value → World → Prop} {w : World} (h : t236 a0 K w) : CK Pr 236 #[a0] w K := by
  refine calls_of_RF [(3, [3, 5, 8, 9, 10, 11, 12, 13, 14, 15, 16])] Tryz.func236 rfl ?_ ?_ ?_
  · kernel_rfl
  · exact Nat.le_of_ble_eq_true rfl
  · exact cast (by kernel_rfl) h

/-- (*pub/raft.raft).zzIntn -/
def t241 (a0 a1 : Value) (K : Value → World → Prop) (w : World) : Prop :=
  Qu Pr (Is w) (nilS a0) fun v1 =>
  Qu Pr (Is w) (Instr.fieldAt 187 v1 30) fun v2 =>
  Qu Pr (Is w) (Instr.loadAt 185 v2) fun v3 =>
  Qu Pr (Is w) (Builtin.len_ #[185] 3 #[v3]) fun v4 =>
  Qu Pr (Is w) (binS .eql 3 (.tmp 10) (.const (Value.int .i64 0)) v4 (Value.int .i64 0)) fun v5 =>
  If v5 (
    K (Value.int .i64 0) w) (
    Dr w fun S6 w7 =>
    Qu Pr (S6) (nilS a0) fun v8 =>
    Qu Pr (S6) (Instr.fieldAt 187 v8 30) fun v9 =>
    Qu Pr (S6) (Instr.loadAt 185 v9) fun v10 =>
    Qu Pr (S6) (nilS a0) fun v11 =>
    Qu Pr (S6) (Instr.fieldAt 187 v11 31) fun v12 =>
    Qu Pr (S6) (Instr.loadAt 3 v12) fun v13 =>
    Qu Pr (S6) (nilS a0) fun v14 =>
    Qu Pr (S6) (Instr.fieldAt 187 v14 30) fun v15 =>
    Qu Pr (S6) (Instr.loadAt 185 v15) fun v16 =>
    Qu Pr (S6) (Builtin.len_ #[185] 3 #[v16]) fun v17 =>
    Qu Pr (S6) (binS .rem 3 (.tmp 19) (.tmp 24) v13 v17) fun v18 =>
    Qu Pr (S6) (Instr.indexAt 185 v10 v18) fun v19 =>
    Qu Pr (S6) (Instr.loadAt 3 v19) fun v20 =>
    Qu Pr (Is w7) (nilS a0) fun v21 =>
    Qu Pr (Is w7) (Instr.fieldAt 187 v21 31) fun v22 =>
    Qu Pr (Is w7) (Instr.loadAt 3 v22) fun v23 =>
    Qu Pr (Is w7) (binS .add 3 (.tmp 31) (.const (Value.int .i64 1)) v23 (Value.int .i64 1)) fun v24 =>
    Qu Pr (Is w7) (nilS a0) fun v25 =>
    Qu Pr (Is w7) (Instr.fieldAt 187 v25 31) fun v26 =>
    Eu Pr (Instr.storeAt 3 v26 v24) w7 fun w27 => 
    Qu Pr (Is w27) (convert 3 22 v20) fun v28 =>
    Qu Pr (Is w27) (convert 3 22 a1) fun v29 =>
    Qu Pr (Is w27) (binS .rem 22 (.tmp 36) (.tmp 38) v28 v29) fun v30 =>
    Qu Pr (Is w27) (convert 22 3 v30) fun v31 =>
    K v31 w27)
theorem c241 {a0 a1 : Value} {K : Value → World → Prop} {w : World} (h : t241 a0 a1 K w) : CK Pr 241 #[a0, a1] w K := by
  refine calls_of_RF [] Tryz.func241 rfl ?_ ?_ ?_
  · kernel_rfl
  · exact Nat.le_of_ble_eq_true rfl
  · exact cast (by kernel_rfl) h

/-- (*pub/raft.unstable).maybeFirstIndex -/
def t262 (a0 : Value) (K : Value → World → Prop) (w : World) : Prop :=
  Qu Pr (Is w) (nilS a0) fun v1 =>
  Qu Pr (Is w) (Instr.fieldAt 194 v1 0) fun v2 =>
  Qu Pr (Is w) (Instr.loadAt 75 v2) fun v3 =>
  Qu Pr (Is w) (binS .neq 75 (.tmp 7) (.const (Value.pointer none)) v3 (Value.pointer none)) fun v4 =>
  If v4 (
    Qu Pr (Is w) (nilS a0) fun v5 =>
    Qu Pr (Is w) (Instr.fieldAt 194 v5 0) fun v6 =>
    Qu Pr (Is w) (Instr.loadAt 75 v6) fun v7 =>
    Cl Pr (callV (fn 95) #[v7]) w fun v9 w8 => 
    Cl Pr (callV (fn 96) #[v9]) w8 fun v11 w10 => 
    Qu Pr (Is w10) (binS .add 22 (.tmp 14) (.const (Value.int .u64 1)) v11 (Value.int .u64 1)) fun v12 =>
    K (.tuple #[v12, (Value.bool true)]) w10) (
    K (.tuple #[(Value.int .u64 0), (Value.bool false)]) w)
theorem c262 {a0 : Value} {K : Value → World → Prop} {w : World} (h : t262 a0 K w) : CK Pr 262 #[a0] w K := by
  refine calls_of_RF [] Tryz.func262 rfl ?_ ?_ ?_
  · kernel_rfl
  · exact Nat.le_of_ble_eq_true rfl
  · exact cast (by kernel_rfl) h

/-- (*pub/raft/tracker.Inflights).reset -/
def t265 (a0 : Value) (K : Value → World → Prop) (w : World) : Prop :=
  Qu Pr (Is w) (nilS a0) fun v1 =>
  Qu Pr (Is w) (Instr.fieldAt 230 v1 0) fun v2 =>
  Eu Pr (Instr.storeAt 3 v2 (Value.int .i64 0)) w fun w3 => 
  Qu Pr (Is w3) (nilS a0) fun v4 =>
  Qu Pr (Is w3) (Instr.fieldAt 230 v4 1) fun v5 =>
  Eu Pr (Instr.storeAt 3 v5 (Value.int .i64 0)) w3 fun w6 => 
  Qu Pr (Is w6) (nilS a0) fun v7 =>
  Qu Pr (Is w6) (Instr.fieldAt 230 v7 2) fun v8 =>
  Eu Pr (Instr.storeAt 22 v8 (Value.int .u64 0)) w6 fun w9 => 
  K (.tuple #[]) w9
theorem c265 {a0 : Value} {K : Value → World → Prop} {w : World} (h : t265 a0 K w) : CK Pr 265 #[a0] w K := by
  refine calls_of_RF [] Tryz.func265 rfl ?_ ?_ ?_
  · kernel_rfl
  · exact Nat.le_of_ble_eq_true rfl
  · exact cast (by kernel_rfl) h

/-- pub/raft/raftpb.zzPointer[uint64] -/
def t266 (a0 : Value) (K : Value → World → Prop) (w : World) : Prop :=
  Qu Pr (Is w) (binS .eql 104 (.tmp 4) (.const (Value.pointer none)) a0 (Value.pointer none)) fun v1 =>
  If v1 (
    K (Value.pointer none) w) (
    Qu Pr (Is w) (nilS a0) fun v2 =>
    Qu Pr (Is w) (Instr.loadAt 22 v2) fun v3 =>
    Ef Pr (Instr.alloc 22 true (.tuple #[])) w fun v5 w4 => 
    Eu Pr (Instr.storeAt 22 v5 v3) w4 fun w6 => 
    K v5 w6)
theorem c266 {a0 : Value} {K : Value → World → Prop} {w : World} (h : t266 a0 K w) : CK Pr 266 #[a0] w K := by
  refine calls_of_RF [] Tryz.func266 rfl ?_ ?_ ?_
  · kernel_rfl
  · exact Nat.le_of_ble_eq_true rfl
  · exact cast (by kernel_rfl) h

/-- pub/raft/raftpb.zzPointer[pub/raft/raftpb.EntryType] -/
def t267 (a0 : Value) (K : Value → World → Prop) (w : World) : Prop :=
  Qu Pr (Is w) (binS .eql 213 (.tmp 4) (.const (Value.pointer none)) a0 (Value.pointer none)) fun v1 =>
  If v1 (
    K (Value.pointer none) w) (
    Qu Pr (Is w) (nilS a0) fun v2 =>
    Qu Pr (Is w) (Instr.loadAt 233 v2) fun v3 =>
    Ef Pr (Instr.alloc 233 true (.tuple #[])) w fun v5 w4 => 
    Eu Pr (Instr.storeAt 233 v5 v3) w4 fun w6 => 
    K v5 w6)
theorem c267 {a0 : Value} {K : Value → World → Prop} {w : World} (h : t267 a0 K w) : CK Pr 267 #[a0] w K := by
  refine calls_of_RF [] Tryz.func267 rfl ?_ ?_ ?_
  · kernel_rfl
  · exact Nat.le_of_ble_eq_true rfl
  · exact cast (by kernel_rfl) h

@[irreducible] def t268_1 (w6 : World) (a0 : Value) (v4 : Value) (J72 : World → Prop) (a1 : Value) : Prop :=
    Qu Pr (Is w6) (nilS a0) fun v81 =>
    Qu Pr (Is w6) (Instr.fieldAt 194 v81 2) fun v82 =>
    Qu Pr (Is w6) (Instr.loadAt 22 v82) fun v83 =>
    Qu Pr (Is w6) (binS .leq 22 (.tmp 56) (.tmp 60) v4 v83) fun v84 =>
    Jo (fun  (w123 : World) => (
        J72 w123 : Prop)) fun J124 =>
    If v84 (
      Qu Pr (Is w6) (nilS a0) fun v125 =>
      Qu Pr (Is w6) (Instr.fieldAt 194 v125 1) fun v126 =>
      Eu Pr (Instr.storeAt 115 v126 a1) w6 fun w127 => 
      Qu Pr (Is w127) (nilS a0) fun v128 =>
      Qu Pr (Is w127) (Instr.fieldAt 194 v128 2) fun v129 =>
      Eu Pr (Instr.storeAt 22 v129 v4) w127 fun w130 => 
      Qu Pr (Is w130) (nilS a0) fun v131 =>
      Qu Pr (Is w130) (Instr.fieldAt 194 v131 2) fun v132 =>
      Qu Pr (Is w130) (Instr.loadAt 22 v132) fun v133 =>
      Qu Pr (Is w130) (nilS a0) fun v134 =>
      Qu Pr (Is w130) (Instr.fieldAt 194 v134 4) fun v135 =>
      Eu Pr (Instr.storeAt 22 v135 v133) w130 fun w136 => 
      J124 w136) (
      Qu Pr (Is w6) (nilS a0) fun v137 =>
      Qu Pr (Is w6) (Instr.fieldAt 194 v137 2) fun v138 =>
      Qu Pr (Is w6) (Instr.loadAt 22 v138) fun v139 =>
      Cl Pr (callV (fn 309) #[a0, v139, v4]) w6 fun v141 w140 => 
      Ef Pr (Builtin.append_ #[115, 115] 115 #[v141, a1]) w140 fun v143 w142 => 
      Qu Pr (Is w142) (nilS a0) fun v144 =>
      Qu Pr (Is w142) (Instr.fieldAt 194 v144 1) fun v145 =>
      Eu Pr (Instr.storeAt 115 v145 v143) w142 fun w146 => 
      Qu Pr (Is w146) (nilS a0) fun v147 =>
      Qu Pr (Is w146) (Instr.fieldAt 194 v147 4) fun v148 =>
      Qu Pr (Is w146) (Instr.loadAt 22 v148) fun v149 =>
      Qu Pr (Is w146) (Builtin.min_ #[22, 22] 22 #[v149, v4]) fun v150 =>
      Qu Pr (Is w146) (nilS a0) fun v151 =>
      Qu Pr (Is w146) (Instr.fieldAt 194 v151 4) fun v152 =>
      Eu Pr (Instr.storeAt 22 v152 v150) w146 fun w153 => 
      J124 w153)
/-- (*pub/raft.unstable).truncateAndAppend -/
def t268 (a0 a1 : Value) (K : Value → World → Prop) (w : World) : Prop :=
  Qu Pr (Is w) (Instr.indexAt 115 a1 (Value.int .i64 0)) fun v1 =>
  Qu Pr (Is w) (Instr.loadAt 212 v1) fun v2 =>
  Cl Pr (callV (fn 124) #[v2]) w fun v4 w3 => 
  Dr w3 fun S5 w6 =>
  Qu Pr (S5) (nilS a0) fun v7 =>
  Qu Pr (S5) (Instr.fieldAt 194 v7 2) fun v8 =>
  Qu Pr (S5) (Instr.loadAt 22 v8) fun v9 =>
  Qu Pr (S5) (nilS a0) fun v10 =>
  Qu Pr (S5) (Instr.fieldAt 194 v10 1) fun v11 =>
  Qu Pr (S5) (Instr.loadAt 115 v11) fun v12 =>
  Qu Pr (S5) (Builtin.len_ #[115] 3 #[v12]) fun v13 =>
  Qu Pr (S5) (convert 3 22 v13) fun v14 =>
  Qu Pr (S5) (binS .add 22 (.tmp 37) (.tmp 43) v9 v14) fun v15 =>
  Qu Pr (S5) (binS .eql 22 (.tmp 33) (.tmp 44) v4 v15) fun v16 =>
  Jo (fun  (w71 : World) => (
      K (.tuple #[]) w71 : Prop)) fun J72 =>
  If v16 (
    Qu Pr (Is w6) (nilS a0) fun v73 =>
    Qu Pr (Is w6) (Instr.fieldAt 194 v73 1) fun v74 =>
    Qu Pr (Is w6) (Instr.loadAt 115 v74) fun v75 =>
    Ef Pr (Builtin.append_ #[115, 115] 115 #[v75, a1]) w6 fun v77 w76 => 
    Qu Pr (Is w76) (nilS a0) fun v78 =>
    Qu Pr (Is w76) (Instr.fieldAt 194 v78 1) fun v79 =>
    Eu Pr (Instr.storeAt 115 v79 v77) w76 fun w80 => 
    J72 w80) (t268_1 w6 a0 v4 J72 a1)
theorem c268 {a0 a1 : Value} {K : Value → World → Prop} {w : World} (h : t268 a0 a1 K w) : CK Pr 268 #[a0, a1] w K := by
  refine calls_of_RF [] Tryz.func268 rfl ?_ ?_ ?_
  · kernel_rfl
  · exact Nat.le_of_ble_eq_true rfl
  · exact cast (by kernel_rfl) h

/-- (*pub/raft/tracker.Config).Clone -/
def t280 (a0 : Value) (K : Value → World → Prop) (w : World) : Prop :=
  Ef Pr (Instr.alloc 136 true (.tuple #[])) w fun v2 w1 => 
  Dr w1 fun S3 w4 =>
  Qu Pr (S3) (nilS a0) fun v5 =>
  Qu Pr (S3) (Instr.fieldAt 136 v5 0) fun v6 =>
  Qu Pr (S3) (Instr.indexAt 134 v6 (Value.int .i64 0)) fun v7 =>
  Qu Pr (S3) (Instr.loadAt 132 v7) fun v8 =>
  Cl Pr (callV (fn 316) #[v8]) w4 fun v10 w9 => S3 w9 ∧ 
  Qu Pr (S3) (nilS a0) fun v11 =>
  Qu Pr (S3) (Instr.fieldAt 136 v11 0) fun v12 =>
  Qu Pr (S3) (Instr.indexAt 134 v12 (Value.int .i64 1)) fun v13 =>
  Qu Pr (S3) (Instr.loadAt 132 v13) fun v14 =>
  Cl Pr (callV (fn 316) #[v14]) w9 fun v16 w15 => S3 w15 ∧ 
  Qu Pr (S3) (Instr.build 134 #[(0, v10), (1, v16)]) fun v17 =>
  Qu Pr (S3) (nilS a0) fun v18 =>
  Qu Pr (S3) (Instr.fieldAt 136 v18 2) fun v19 =>
  Qu Pr (S3) (Instr.loadAt 131 v19) fun v20 =>
  Cl Pr (callV (fn 316) #[v20]) w15 fun v22 w21 => S3 w21 ∧ 
  Qu Pr (S3) (nilS a0) fun v23 =>
  Qu Pr (S3) (Instr.fieldAt 136 v23 3) fun v24 =>
  Qu Pr (S3) (Instr.loadAt 131 v24) fun v25 =>
  Cl Pr (callV (fn 316) #[v25]) w21 fun v27 w26 => S3 w26 ∧ 
  Qu Pr (S3) (Instr.build 136 #[(0, v17), (2, v22), (3, v27)]) fun v28 =>
  Eu Pr (Instr.storeAt 136 v2 v28) w26 fun w29 => S3 w29 ∧ 
  Qu Pr (Is w29) (Instr.loadAt 136 v2) fun v30 =>
  K v30 w29
theorem c280 {a0 : Value} {K : Value → World → Prop} {w : World} (h : t280 a0 K w) : CK Pr 280 #[a0] w K := by
  refine calls_of_RF [] Tryz.func280 rfl ?_ ?_ ?_
  · kernel_rfl
  · exact Nat.le_of_ble_eq_true rfl
  · exact cast (by kernel_rfl) h

/-- (*pub/raft/raftpb.ConfChangeSingle).GetNodeId -/
def t281 (a0 : Value) (K : Value → World → Prop) (w : World) : Prop :=
  Qu Pr (Is w) (binS .neq 251 (.tmp 3) (.const (Value.pointer none)) a0 (Value.pointer none)) fun v1 =>
  Gd v1 true (fun k2 => k2 a0 w) w fun v3 w4 =>
  Gd v1 true (fun k5 => Qu Pr (Is w4) (nilS v3) fun v8 => k5 v8 w4) w4 fun v6 w7 =>
  Gd v1 true (fun k9 => Qu Pr (Is w7) (Instr.fieldAt 309 v6 1) fun v12 => k9 v12 w7) w7 fun v10 w11 =>
  Gd v1 true (fun k13 => Qu Pr (Is w11) (Instr.loadAt 104 v10) fun v16 => k13 v16 w11) w11 fun v14 w15 =>
  Gd v1 true (fun k17 => Qu Pr (Is w15) (binS .neq 104 (.tmp 9) (.const (Value.pointer none)) v14 (Value.pointer none)) fun v20 => k17 v20 w15) w15 fun v18 w19 =>
  Qu Pr (Is w19) (pickS v1 v18 (Value.bool false)) fun v21 =>
  If v21 (
    Qu Pr (Is w19) (nilS a0) fun v22 =>
    Qu Pr (Is w19) (Instr.fieldAt 309 v22 1) fun v23 =>
    Qu Pr (Is w19) (Instr.loadAt 104 v23) fun v24 =>
    Qu Pr (Is w19) (nilS v24) fun v25 =>
    Qu Pr (Is w19) (Instr.loadAt 22 v25) fun v26 =>
    K v26 w19) (
    K (Value.int .u64 0) w19)
theorem c281 {a0 : Value} {K : Value → World → Prop} {w : World} (h : t281 a0 K w) : CK Pr 281 #[a0] w K := by
  refine calls_of_RF [] Tryz.func281 rfl ?_ ?_ ?_
  · kernel_rfl
  · exact Nat.le_of_ble_eq_true rfl
  · exact cast (by kernel_rfl) h

/-- (*pub/raft/raftpb.ConfChangeSingle).GetType -/
def t282 (a0 : Value) (K : Value → World → Prop) (w : World) : Prop :=
  Qu Pr (Is w) (binS .neq 251 (.tmp 3) (.const (Value.pointer none)) a0 (Value.pointer none)) fun v1 =>
  Gd v1 true (fun k2 => k2 a0 w) w fun v3 w4 =>
  Gd v1 true (fun k5 => Qu Pr (Is w4) (nilS v3) fun v8 => k5 v8 w4) w4 fun v6 w7 =>
  Gd v1 true (fun k9 => Qu Pr (Is w7) (Instr.fieldAt 309 v6 0) fun v12 => k9 v12 w7) w7 fun v10 w11 =>
  Gd v1 true (fun k13 => Qu Pr (Is w11) (Instr.loadAt 277 v10) fun v16 => k13 v16 w11) w11 fun v14 w15 =>
  Gd v1 true (fun k17 => Qu Pr (Is w15) (binS .neq 277 (.tmp 9) (.const (Value.pointer none)) v14 (Value.pointer none)) fun v20 => k17 v20 w15) w15 fun v18 w19 =>
  Qu Pr (Is w19) (pickS v1 v18 (Value.bool false)) fun v21 =>
  If v21 (
    Qu Pr (Is w19) (nilS a0) fun v22 =>
    Qu Pr (Is w19) (Instr.fieldAt 309 v22 0) fun v23 =>
    Qu Pr (Is w19) (Instr.loadAt 277 v23) fun v24 =>
    Qu Pr (Is w19) (nilS v24) fun v25 =>
    Qu Pr (Is w19) (Instr.loadAt 306 v25) fun v26 =>
    K v26 w19) (
    K (Value.int .i32 0) w19)
theorem c282 {a0 : Value} {K : Value → World → Prop} {w : World} (h : t282 a0 K w) : CK Pr 282 #[a0] w K := by
  refine calls_of_RF [] Tryz.func282 rfl ?_ ?_ ?_
  · kernel_rfl
  · exact Nat.le_of_ble_eq_true rfl
  · exact cast (by kernel_rfl) h

/-- (pub/raft/confchange.Changer).makeVoter -/
def t283 (a0 a1 a2 a3 : Value) (K : Value → World → Prop) (w : World) : Prop :=
  Ef Pr (Instr.box 209 a0) w fun v2 w1 => 
  Qu Pr (Is w1) (Instr.lookup 138 a2 a3 false) fun v3 =>
  Qu Pr (Is w1) (binS .eql 146 (.tmp 12) (.const (Value.pointer none)) v3 (Value.pointer none)) fun v4 =>
  If v4 (
    Qu Pr (Is w1) (Instr.loadAt 209 v2) fun v5 =>
    Cl Pr (callV (fn 317) #[v5, a1, a2, a3, (Value.bool false)]) w1 fun _ w6 => 
    K (.tuple #[]) w6) (
    Qu Pr (Is w1) (nilS v3) fun v8 =>
    Qu Pr (Is w1) (Instr.fieldAt 152 v8 8) fun v9 =>
    Eu Pr (Instr.storeAt 4 v9 (Value.bool false)) w1 fun w10 => 
    Qu Pr (Is w10) (nilS a1) fun v11 =>
    Qu Pr (Is w10) (Instr.fieldAt 136 v11 2) fun v12 =>
    Cl Pr (callV (fn 318) #[v12, a3]) w10 fun _ w13 => 
    Qu Pr (Is w13) (nilS a1) fun v15 =>
    Qu Pr (Is w13) (Instr.fieldAt 136 v15 3) fun v16 =>
    Cl Pr (callV (fn 318) #[v16, a3]) w13 fun _ w17 => 
    Qu Pr (Is w17) (nilS a1) fun v19 =>
    Qu Pr (Is w17) (Instr.fieldAt 136 v19 0) fun v20 =>
    Qu Pr (Is w17) (Instr.loadAt 134 v20) fun v21 =>
    Cl Pr (callV (fn 222) #[v21]) w17 fun v23 w22 => 
    Qu Pr (Is w22) (Instr.build 156 #[]) fun v24 =>
    Eu Pr (Instr.mapUpdate 132 v23 a3 v24) w22 fun w25 => 
    K (.tuple #[]) w25)
theorem c283 {a0 a1 a2 a3 : Value} {K : Value → World → Prop} {w : World} (h : t283 a0 a1 a2 a3 K w) : CK Pr 283 #[a0, a1, a2, a3] w K := by
  refine calls_of_RF [] Tryz.func283 rfl ?_ ?_ ?_
  · kernel_rfl
  · exact Nat.le_of_ble_eq_true rfl
  · exact cast (by kernel_rfl) h

/-- (pub/raft/confchange.Changer).makeLearner -/
def t284 (a0 a1 a2 a3 : Value) (K : Value → World → Prop) (w : World) : Prop :=
  Ef Pr (Instr.box 209 a0) w fun v2 w1 => 
  Qu Pr (Is w1) (Instr.lookup 138 a2 a3 false) fun v3 =>
  Qu Pr (Is w1) (binS .eql 146 (.tmp 14) (.const (Value.pointer none)) v3 (Value.pointer none)) fun v4 =>
  If v4 (
    Qu Pr (Is w1) (Instr.loadAt 209 v2) fun v5 =>
    Cl Pr (callV (fn 317) #[v5, a1, a2, a3, (Value.bool true)]) w1 fun _ w6 => 
    K (.tuple #[]) w6) (
    Qu Pr (Is w1) (nilS v3) fun v8 =>
    Qu Pr (Is w1) (Instr.fieldAt 152 v8 8) fun v9 =>
    Qu Pr (Is w1) (Instr.loadAt 4 v9) fun v10 =>
    If v10 (
      K (.tuple #[]) w1) (
      Qu Pr (Is w1) (Instr.loadAt 209 v2) fun v11 =>
      Cl Pr (callV (fn 285) #[v11, a1, a2, a3]) w1 fun _ w12 => 
      Eu Pr (Instr.mapUpdate 138 a2 a3 v3) w12 fun w14 => 
      Qu Pr (Is w14) (nilS a1) fun v15 =>
      Qu Pr (Is w14) (Instr.fieldAt 136 v15 0) fun v16 =>
      Qu Pr (Is w14) (Instr.loadAt 134 v16) fun v17 =>
      Cl Pr (callV (fn 225) #[v17]) w14 fun v19 w18 => 
      Qu Pr (Is w18) (Instr.lookup 132 v19 a3 true) fun v20 =>
      Qu Pr (Is w18) (Instr.extract v20 0) fun v21 =>
      Qu Pr (Is w18) (Instr.extract v20 1) fun v22 =>
      Ef Pr (Instr.alloc 156 true (.tuple #[])) w18 fun v24 w23 => 
      Eu Pr (Instr.storeAt 156 v24 v21) w23 fun w25 => 
      Jo (fun  (w39 : World) => (
          K (.tuple #[]) w39 : Prop)) fun J40 =>
      If v22 (
        Qu Pr (Is w25) (nilS a1) fun v41 =>
        Qu Pr (Is w25) (Instr.fieldAt 136 v41 3) fun v42 =>
        Cl Pr (callV (fn 319) #[v42, a3]) w25 fun _ w43 => 
        J40 w43) (
        Qu Pr (Is w25) (nilS v3) fun v45 =>
        Qu Pr (Is w25) (Instr.fieldAt 152 v45 8) fun v46 =>
        Eu Pr (Instr.storeAt 4 v46 (Value.bool true)) w25 fun w47 => 
        Qu Pr (Is w47) (nilS a1) fun v48 =>
        Qu Pr (Is w47) (Instr.fieldAt 136 v48 2) fun v49 =>
        Cl Pr (callV (fn 319) #[v49, a3]) w47 fun _ w50 => 
        J40 w50)))
theorem c284 {a0 a1 a2 a3 : Value} {K : Value → World → Prop} {w : World} (h : t284 a0 a1 a2 a3 K w) : CK Pr 284 #[a0, a1, a2, a3] w K := by
  refine calls_of_RF [] Tryz.func284 rfl ?_ ?_ ?_
  · kernel_rfl
  · exact Nat.le_of_ble_eq_true rfl
  · exact cast (by kernel_rfl) h

/-- (pub/raft/confchange.Changer).remove -/
def t285 (a0 a1 a2 a3 : Value) (K : Value → World → Prop) (w : World) : Prop :=
  Ef Pr (Instr.box 209 a0) w fun _ w1 => 
  Qu Pr (Is w1) (Instr.lookup 138 a2 a3 true) fun v3 =>
  Qu Pr (Is w1) (Instr.extract v3 0) fun _ =>
  Qu Pr (Is w1) (Instr.extract v3 1) fun v5 =>
  Qu Pr (Is w1) (Op.unary .not v5) fun v6 =>
  If v6 (
    K (.tuple #[]) w1) (
    Qu Pr (Is w1) (nilS a1) fun v7 =>
    Qu Pr (Is w1) (Instr.fieldAt 136 v7 0) fun v8 =>
    Qu Pr (Is w1) (Instr.loadAt 134 v8) fun v9 =>
    Cl Pr (callV (fn 222) #[v9]) w1 fun v11 w10 => 
    Ef Pr (Builtin.delete_ #[132, 22] 0 #[v11, a3]) w10 fun _ w12 => 
    Qu Pr (Is w12) (nilS a1) fun v14 =>
    Qu Pr (Is w12) (Instr.fieldAt 136 v14 2) fun v15 =>
    Cl Pr (callV (fn 318) #[v15, a3]) w12 fun _ w16 => 
    Qu Pr (Is w16) (nilS a1) fun v18 =>
    Qu Pr (Is w16) (Instr.fieldAt 136 v18 3) fun v19 =>
    Cl Pr (callV (fn 318) #[v19, a3]) w16 fun _ w20 => 
    Qu Pr (Is w20) (nilS a1) fun v22 =>
    Qu Pr (Is w20) (Instr.fieldAt 136 v22 0) fun v23 =>
    Qu Pr (Is w20) (Instr.loadAt 134 v23) fun v24 =>
    Cl Pr (callV (fn 225) #[v24]) w20 fun v26 w25 => 
    Qu Pr (Is w25) (Instr.lookup 132 v26 a3 true) fun v27 =>
    Qu Pr (Is w25) (Instr.extract v27 0) fun v28 =>
    Qu Pr (Is w25) (Instr.extract v27 1) fun v29 =>
    Ef Pr (Instr.alloc 156 true (.tuple #[])) w25 fun v31 w30 => 
    Eu Pr (Instr.storeAt 156 v31 v28) w30 fun w32 => 
    Qu Pr (Is w32) (Op.unary .not v29) fun v33 =>
    Jo (fun  (w36 : World) => (
        K (.tuple #[]) w36 : Prop)) fun J37 =>
    If v33 (
      Ef Pr (Builtin.delete_ #[138, 22] 0 #[a2, a3]) w32 fun _ w38 => 
      J37 w38) (
      J37 w32))
theorem c285 {a0 a1 a2 a3 : Value} {K : Value → World → Prop} {w : World} (h : t285 a0 a1 a2 a3 K w) : CK Pr 285 #[a0, a1, a2, a3] w K := by
  refine calls_of_RF [] Tryz.func285 rfl ?_ ?_ ?_
  · kernel_rfl
  · exact Nat.le_of_ble_eq_true rfl
  · exact cast (by kernel_rfl) h

@[irreducible] def t286_1 (w46 : World) (v2 : Value) (τ44 : List Value) (K : Value → World → Prop) (a1 : Value) : Prop :=
          Qu Pr (Is w46) (Instr.fieldAt 136 v2 2) fun v70 =>
          Qu Pr (Is w46) (Instr.loadAt 131 v70) fun v71 =>
          Ef Pr (Instr.range 131 v71) w46 fun v73 w72 => 
          LoopW [(g τ44 0), undef, undef, undef, undef, undef, undef, undef, undef, undef, undef, undef, undef, undef, undef, undef, undef, undef, undef, undef, undef, undef, undef, undef, undef, undef, undef, undef, undef, undef, undef, undef, undef, undef, undef, undef, undef, undef] (fun r74 τ75 w76 =>
            Ef Pr (Instr.next v73 false 0) w76 fun v78 w77 => 
            Qu Pr (Is w77) (Instr.extract v78 0) fun v79 =>
            If v79 (
              Qu Pr (Is w77) (Instr.entry v73) fun v80 =>
              Qu Pr (Is w77) (Instr.extract v80 0) fun v81 =>
              Qu Pr (Is w77) (Instr.fieldAt 136 v2 0) fun v82 =>
              Qu Pr (Is w77) (Instr.loadAt 134 v82) fun v83 =>
              Cl Pr (callV (fn 225) #[v83]) w77 fun v85 w84 => 
              Qu Pr (Is w84) (Instr.lookup 132 v85 v81 true) fun v86 =>
              Qu Pr (Is w84) (Instr.extract v86 0) fun v87 =>
              Qu Pr (Is w84) (Instr.extract v86 1) fun v88 =>
              Ef Pr (Instr.alloc 156 true (.tuple #[])) w84 fun v90 w89 => 
              Eu Pr (Instr.storeAt 156 v90 v87) w89 fun w91 => 
              If v88 (
                Cl Pr (callV (fn 219) #[(Value.string (ByteArray.mk #[105, 110, 32, 76, 101, 97, 114, 110, 101, 114, 115, 32, 97, 110, 100, 32, 86, 111, 116, 101, 114, 115, 91, 49, 93]))]) w91 fun v93 w92 => 
                K v93 w92) (
                Qu Pr (Is w91) (Instr.fieldAt 136 v2 0) fun v94 =>
                Qu Pr (Is w91) (Instr.loadAt 134 v94) fun v95 =>
                Cl Pr (callV (fn 222) #[v95]) w91 fun v97 w96 => 
                Qu Pr (Is w96) (Instr.lookup 132 v97 v81 true) fun v98 =>
                Qu Pr (Is w96) (Instr.extract v98 0) fun v99 =>
                Qu Pr (Is w96) (Instr.extract v98 1) fun v100 =>
                Ef Pr (Instr.alloc 156 true (.tuple #[])) w96 fun v102 w101 => 
                Eu Pr (Instr.storeAt 156 v102 v99) w101 fun w103 => 
                If v100 (
                  Cl Pr (callV (fn 219) #[(Value.string (ByteArray.mk #[105, 110, 32, 76, 101, 97, 114, 110, 101, 114, 115, 32, 97, 110, 100, 32, 86, 111, 116, 101, 114, 115, 91, 48, 93]))]) w103 fun v105 w104 => 
                  K v105 w104) (
                  Qu Pr (Is w103) (Instr.lookup 138 a1 v81 false) fun v106 =>
                  Qu Pr (Is w103) (nilS v106) fun v107 =>
                  Qu Pr (Is w103) (Instr.fieldAt 152 v107 8) fun v108 =>
                  Qu Pr (Is w103) (Instr.loadAt 4 v108) fun v109 =>
                  Qu Pr (Is w103) (Op.unary .not v109) fun v110 =>
                  If v110 (
                    Cl Pr (callV (fn 219) #[(Value.string (ByteArray.mk #[105, 110, 32, 76, 101, 97, 114, 110, 101, 114, 115, 44, 32, 98, 117, 116, 32, 110, 111, 116, 32, 109, 97, 114, 107, 101, 100, 32, 97, 115, 32, 108, 101, 97, 114, 110, 101, 114]))]) w103 fun v112 w111 => 
                    K v112 w111) (
                    r74 [(g τ75 0), v81, v90, v88, v102, v100, v78, v79, v80, v81, v86, v82, v83, v85, v81, v86, v87, v88, v88, (g τ75 19), v98, v94, v95, v97, v81, v98, v99, v100, v100, (g τ75 29), a1, v81, v106, v107, v108, v109, v110, (g τ75 37)] w103)))) (
              Qu Pr (Is w77) (Instr.loadAt 136 v2) fun v113 =>
              Cl Pr (callV (fn 218) #[v113]) w77 fun v115 w114 => 
              Qu Pr (Is w114) (Op.unary .not v115) fun v116 =>
              Jo (fun  (w130 : World) => (
                  K Value.nilIface w130 : Prop)) fun J131 =>
              If v116 (
                Qu Pr (Is w114) (Instr.fieldAt 136 v2 0) fun v132 =>
                Qu Pr (Is w114) (Instr.loadAt 134 v132) fun v133 =>
                Cl Pr (callV (fn 225) #[v133]) w114 fun v135 w134 => 
                Qu Pr (Is w134) (binS .neq 132 (.tmp 112) (.const (Value.map none)) v135 (Value.map none)) fun v136 =>
                If v136 (
                  Cl Pr (callV (fn 219) #[(Value.string (ByteArray.mk #[99, 102, 103, 46, 86, 111, 116, 101, 114, 115, 91, 49, 93, 32, 109, 117, 115, 116, 32, 98, 101, 32, 110, 105, 108, 32, 119, 104, 101, 110, 32, 110, 111, 116, 32, 106, 111, 105, 110, 116]))]) w134 fun v138 w137 => 
                  K v138 w137) (
                  Qu Pr (Is w134) (Instr.fieldAt 136 v2 3) fun v139 =>
                  Qu Pr (Is w134) (Instr.loadAt 131 v139) fun v140 =>
                  Qu Pr (Is w134) (binS .neq 131 (.tmp 116) (.const (Value.map none)) v140 (Value.map none)) fun v141 =>
                  If v141 (
                    Cl Pr (callV (fn 219) #[(Value.string (ByteArray.mk #[99, 102, 103, 46, 76, 101, 97, 114, 110, 101, 114, 115, 78, 101, 120, 116, 32, 109, 117, 115, 116, 32, 98, 101, 32, 110, 105, 108, 32, 119, 104, 101, 110, 32, 110, 111, 116, 32, 106, 111, 105, 110, 116]))]) w134 fun v143 w142 => 
                    K v143 w142) (
                    Qu Pr (Is w134) (Instr.fieldAt 136 v2 1) fun v144 =>
                    Qu Pr (Is w134) (Instr.loadAt 4 v144) fun v145 =>
                    If v145 (
                      Cl Pr (callV (fn 219) #[(Value.string (ByteArray.mk #[65, 117, 116, 111, 76, 101, 97, 118, 101, 32, 109, 117, 115, 116, 32, 98, 101, 32, 102, 97, 108, 115, 101, 32, 119, 104, 101, 110, 32, 110, 111, 116, 32, 106, 111, 105, 110, 116]))]) w134 fun v147 w146 => 
                      K v147 w146) (
                      J131 w134)))) (
                J131 w114))) w72
@[irreducible] def t286_2 (w18 : World) (v2 : Value) (τ17 : List Value) (K : Value → World → Prop) (a1 : Value) : Prop :=
      Qu Pr (Is w18) (Instr.fieldAt 136 v2 3) fun v39 =>
      Qu Pr (Is w18) (Instr.loadAt 131 v39) fun v40 =>
      Ef Pr (Instr.range 131 v40) w18 fun v42 w41 => 
      LoopW [(g τ17 0), undef, undef, undef, undef, undef, undef, undef, undef, undef, undef, undef, undef, undef, undef, undef, undef, undef, undef, undef, undef, undef, undef, undef, undef, undef] (fun r43 τ44 w45 =>
        Ef Pr (Instr.next v42 false 0) w45 fun v47 w46 => 
        Qu Pr (Is w46) (Instr.extract v47 0) fun v48 =>
        If v48 (
          Qu Pr (Is w46) (Instr.entry v42) fun v49 =>
          Qu Pr (Is w46) (Instr.extract v49 0) fun v50 =>
          Qu Pr (Is w46) (Instr.fieldAt 136 v2 0) fun v51 =>
          Qu Pr (Is w46) (Instr.loadAt 134 v51) fun v52 =>
          Cl Pr (callV (fn 225) #[v52]) w46 fun v54 w53 => 
          Qu Pr (Is w53) (Instr.lookup 132 v54 v50 true) fun v55 =>
          Qu Pr (Is w53) (Instr.extract v55 0) fun v56 =>
          Qu Pr (Is w53) (Instr.extract v55 1) fun v57 =>
          Ef Pr (Instr.alloc 156 true (.tuple #[])) w53 fun v59 w58 => 
          Eu Pr (Instr.storeAt 156 v59 v56) w58 fun w60 => 
          Qu Pr (Is w60) (Op.unary .not v57) fun v61 =>
          If v61 (
            Cl Pr (callV (fn 219) #[(Value.string (ByteArray.mk #[105, 110, 32, 76, 101, 97, 114, 110, 101, 114, 115, 78, 101, 120, 116, 44, 32, 98, 117, 116, 32, 110, 111, 116, 32, 86, 111, 116, 101, 114, 115, 91, 49, 93]))]) w60 fun v63 w62 => 
            K v63 w62) (
            Qu Pr (Is w60) (Instr.lookup 138 a1 v50 false) fun v64 =>
            Qu Pr (Is w60) (nilS v64) fun v65 =>
            Qu Pr (Is w60) (Instr.fieldAt 152 v65 8) fun v66 =>
            Qu Pr (Is w60) (Instr.loadAt 4 v66) fun v67 =>
            If v67 (
              Cl Pr (callV (fn 219) #[(Value.string (ByteArray.mk #[105, 110, 32, 76, 101, 97, 114, 110, 101, 114, 115, 78, 101, 120, 116, 44, 32, 98, 117, 116, 32, 97, 108, 114, 101, 97, 100, 121, 32, 109, 97, 114, 107, 101, 100, 32, 97, 115, 32, 108, 101, 97, 114, 110, 101, 114]))]) w60 fun v69 w68 => 
              K v69 w68) (
              r43 [(g τ44 0), v50, v59, v57, v47, v48, v49, v50, v55, v51, v52, v54, v50, v55, v56, v57, v57, v61, (g τ44 18), a1, v50, v64, v65, v66, v67, (g τ44 25)] w60))) (t286_1 w46 v2 τ44 K a1)) w41
/-- pub/raft/confchange.checkInvariants -/
def t286 (a0 a1 : Value) (K : Value → World → Prop) (w : World) : Prop :=
  Ef Pr (Instr.box 136 a0) w fun v2 w1 => 
  Dr w1 fun S3 w4 =>
  Qu Pr (S3) (Instr.fieldAt 136 v2 0) fun v5 =>
  Qu Pr (S3) (Instr.loadAt 134 v5) fun v6 =>
  Cl Pr (callV (fn 165) #[v6]) w4 fun v8 w7 => S3 w7 ∧ 
  Qu Pr (S3) (Instr.fieldAt 136 v2 2) fun v9 =>
  Qu Pr (S3) (Instr.loadAt 131 v9) fun v10 =>
  Qu Pr (S3) (Instr.fieldAt 136 v2 3) fun v11 =>
  Qu Pr (S3) (Instr.loadAt 131 v11) fun v12 =>
  Ef Pr (Instr.buildSlice 408 3 #[(0, v8), (1, v10), (2, v12)]) w7 fun v14 w13 => S3 w13 ∧ 
  Qu Pr (S3) (Builtin.len_ #[408] 3 #[v14]) fun v15 =>
  LoopW [Value.nilIface, undef, undef, undef, undef, (Value.int .i64 0), undef, undef, undef, undef, undef, undef, undef, undef, undef, undef, undef, undef, undef, undef, undef, undef, undef, undef, undef] (fun r16 τ17 w18 =>
    Qu Pr (Is w18) (binS .lss 3 (.tmp 27) (.tmp 26) (g τ17 5) v15) fun v19 =>
    If v19 (
      Qu Pr (Is w18) (Instr.indexAt 408 v14 (g τ17 5)) fun v20 =>
      Qu Pr (Is w18) (Instr.loadAt 131 v20) fun v21 =>
      Ef Pr (Instr.range 131 v21) w18 fun v23 w22 => 
      LoopW [(g τ17 0), (g τ17 2), (g τ17 3), (g τ17 4), (g τ17 11), (g τ17 12), (g τ17 13), (g τ17 14), (g τ17 15), (g τ17 16), (g τ17 17), (g τ17 18), (g τ17 19), (g τ17 20), (g τ17 21), (g τ17 22), (g τ17 23)] (fun r24 τ25 w26 =>
        Ef Pr (Instr.next v23 false 0) w26 fun v28 w27 => 
        Qu Pr (Is w27) (Instr.extract v28 0) fun v29 =>
        If v29 (
          Qu Pr (Is w27) (Instr.entry v23) fun v30 =>
          Qu Pr (Is w27) (Instr.extract v30 0) fun v31 =>
          Qu Pr (Is w27) (Instr.lookup 138 a1 v31 true) fun v32 =>
          Qu Pr (Is w27) (Instr.extract v32 0) fun v33 =>
          Qu Pr (Is w27) (Instr.extract v32 1) fun v34 =>
          Qu Pr (Is w27) (Op.unary .not v34) fun v35 =>
          If v35 (
            Cl Pr (callV (fn 219) #[(Value.string (ByteArray.mk #[110, 111, 32, 112, 114, 111, 103, 114, 101, 115, 115]))]) w27 fun v37 w36 => 
            K v37 w36) (
            r24 [(g τ25 0), v31, v33, v34, v28, v29, v30, v31, v32, a1, v31, v32, v33, v34, v34, v35, (g τ25 16)] w27)) (
          Qu Pr (Is w27) (binS .add 3 (.tmp 27) (.const (Value.int .i64 1)) (g τ17 5) (Value.int .i64 1)) fun v38 =>
          r16 [(g τ25 0), v21, (g τ25 1), (g τ25 2), (g τ25 3), v38, v19, v20, v21, v21, v23, v28, v29, (g τ25 6), (g τ25 7), (g τ25 8), (g τ25 9), (g τ25 10), (g τ25 11), (g τ25 12), (g τ25 13), (g τ25 14), (g τ25 15), (g τ25 16), v38] w27)) w22) (t286_2 w18 v2 τ17 K a1)) w13
theorem c286 {a0 a1 : Value} {K : Value → World → Prop} {w : World} (h : t286 a0 a1 K w) : CK Pr 286 #[a0, a1] w K := by
  refine calls_of_RF [(2, [4, 6, 7, 8, 9, 27, 28, 29, 30, 31, 32, 33, 34, 35, 36, 37, 38, 39, 40, 41, 42, 43, 44, 45, 46]), (5, [4, 7, 8, 9, 33, 34, 35, 36, 37, 38, 39, 40, 41, 42, 43, 44, 45]), (12, [4, 10, 11, 12, 50, 51, 52, 53, 54, 55, 56, 57, 58, 59, 60, 61, 62, 63, 64, 65, 66, 67, 68, 69, 70, 71]), (20, [4, 13, 14, 15, 16, 17, 75, 76, 77, 78, 79, 80, 81, 82, 83, 84, 85, 86, 87, 88, 89, 90, 91, 92, 93, 94, 95, 96, 97, 98, 99, 100, 101, 102, 103, 104, 105, 106])] Tryz.func286 rfl ?_ ?_ ?_
  · kernel_rfl
  · exact Nat.le_of_ble_eq_true rfl
  · exact cast (by kernel_rfl) h

/-- pub/raft/raftpb.zzNumbers -/
def t287 (a0 : Value) (K : Value → World → Prop) (w : World) : Prop :=
  Qu Pr (Is w) (binS .eql 23 (.tmp 4) (.const (Value.slice none 0 0)) a0 (Value.slice none 0 0)) fun v1 =>
  If v1 (
    K (Value.slice none 0 0) w) (
    Qu Pr (Is w) (Builtin.len_ #[23] 3 #[a0]) fun v2 =>
    Ef Pr (Instr.makeSlice 23 v2 v2) w fun v4 w3 => 
    Ef Pr (Builtin.copy_ #[23, 23] 3 #[v4, a0]) w3 fun _ w5 => 
    K v4 w5)
theorem c287 {a0 : Value} {K : Value → World → Prop} {w : World} (h : t287 a0 K w) : CK Pr 287 #[a0] w K := by
  refine calls_of_RF [] Tryz.func287 rfl ?_ ?_ ?_
  · kernel_rfl
  · exact Nat.le_of_ble_eq_true rfl
  · exact cast (by kernel_rfl) h

/-- pub/raft/raftpb.zzPointer[bool] -/
def t288 (a0 : Value) (K : Value → World → Prop) (w : World) : Prop :=
  Qu Pr (Is w) (binS .eql 117 (.tmp 4) (.const (Value.pointer none)) a0 (Value.pointer none)) fun v1 =>
  If v1 (
    K (Value.pointer none) w) (
    Qu Pr (Is w) (nilS a0) fun v2 =>
    Qu Pr (Is w) (Instr.loadAt 4 v2) fun v3 =>
    Ef Pr (Instr.alloc 4 true (.tuple #[])) w fun v5 w4 => 
    Eu Pr (Instr.storeAt 4 v5 v3) w4 fun w6 => 
    K v5 w6)
theorem c288 {a0 : Value} {K : Value → World → Prop} {w : World} (h : t288 a0 K w) : CK Pr 288 #[a0] w K := by
  refine calls_of_RF [] Tryz.func288 rfl ?_ ?_ ?_
  · kernel_rfl
  · exact Nat.le_of_ble_eq_true rfl
  · exact cast (by kernel_rfl) h

/-- pub/raft/raftpb.zzSame -/
def t289 (a0 a1 : Value) (K : Value → World → Prop) (w : World) : Prop :=
  Qu Pr (Is w) (Builtin.len_ #[23] 3 #[a0]) fun v1 =>
  Qu Pr (Is w) (Builtin.len_ #[23] 3 #[a1]) fun v2 =>
  Qu Pr (Is w) (binS .neq 3 (.tmp 7) (.tmp 9) v1 v2) fun v3 =>
  If v3 (
    K (Value.bool false) w) (
    Qu Pr (Is w) (Builtin.len_ #[23] 3 #[a0]) fun v4 =>
    LoopW [(Value.bool false), undef, (Value.int .i64 0), undef, undef, undef, undef, undef, undef, undef, undef, undef, undef, undef, undef] (fun r5 τ6 w7 =>
      Qu Pr (Is w7) (binS .lss 3 (.tmp 13) (.tmp 12) (g τ6 2) v4) fun v8 =>
      If v8 (
        Dr w7 fun S9 w10 =>
        Qu Pr (S9) (Instr.indexAt 23 a0 (g τ6 2)) fun v11 =>
        Qu Pr (S9) (Instr.loadAt 22 v11) fun v12 =>
        Qu Pr (S9) (Instr.indexAt 23 a1 (g τ6 2)) fun v13 =>
        Qu Pr (S9) (Instr.loadAt 22 v13) fun v14 =>
        Qu Pr (S9) (binS .neq 22 (.tmp 19) (.tmp 23) v12 v14) fun v15 =>
        If v15 (
          K (Value.bool false) w10) (
          Qu Pr (Is w10) (binS .add 3 (.tmp 13) (.const (Value.int .i64 1)) (g τ6 2) (Value.int .i64 1)) fun v16 =>
          r5 [(g τ6 0), (g τ6 2), v16, v8, (g τ6 2), a0, (g τ6 2), v11, v12, a1, (g τ6 2), v13, v14, v15, v16] w10)) (
        K (Value.bool true) w7)) w)
theorem c289 {a0 a1 : Value} {K : Value → World → Prop} {w : World} (h : t289 a0 a1 K w) : CK Pr 289 #[a0, a1] w K := by
  refine calls_of_RF [(4, [4, 5, 13, 14, 15, 16, 17, 18, 19, 20, 21, 22, 23, 24, 25])] Tryz.func289 rfl ?_ ?_ ?_
  · kernel_rfl
  · exact Nat.le_of_ble_eq_true rfl
  · exact cast (by kernel_rfl) h

/-- pub/raft.payloadSize -/
def t294 (a0 : Value) (K : Value → World → Prop) (w : World) : Prop :=
  Cl Pr (callV (fn 130) #[a0]) w fun v2 w1 => 
  Qu Pr (Is w1) (Builtin.len_ #[99] 3 #[v2]) fun v3 =>
  Qu Pr (Is w1) (convert 3 181 v3) fun v4 =>
  K v4 w1
theorem c294 {a0 : Value} {K : Value → World → Prop} {w : World} (h : t294 a0 K w) : CK Pr 294 #[a0] w K := by
  refine calls_of_RF [] Tryz.func294 rfl ?_ ?_ ?_
  · kernel_rfl
  · exact Nat.le_of_ble_eq_true rfl
  · exact cast (by kernel_rfl) h

/-- (*pub/raft.unstable).slice -/
def t309 (a0 a1 a2 : Value) (K : Value → World → Prop) (w : World) : Prop :=
  Cl Pr (callV (fn 328) #[a0, a1, a2]) w fun _ w1 => 
  Dr w1 fun S3 w4 =>
  Qu Pr (S3) (nilS a0) fun v5 =>
  Qu Pr (S3) (Instr.fieldAt 194 v5 1) fun v6 =>
  Qu Pr (S3) (Instr.loadAt 115 v6) fun v7 =>
  Qu Pr (S3) (nilS a0) fun v8 =>
  Qu Pr (S3) (Instr.fieldAt 194 v8 2) fun v9 =>
  Qu Pr (S3) (Instr.loadAt 22 v9) fun v10 =>
  Qu Pr (S3) (binS .sub 22 (.tmp 15) (.tmp 19) a1 v10) fun v11 =>
  Qu Pr (S3) (nilS a0) fun v12 =>
  Qu Pr (S3) (Instr.fieldAt 194 v12 2) fun v13 =>
  Qu Pr (S3) (Instr.loadAt 22 v13) fun v14 =>
  Qu Pr (S3) (binS .sub 22 (.tmp 21) (.tmp 25) a2 v14) fun v15 =>
  Qu Pr (S3) (nilS a0) fun v16 =>
  Qu Pr (S3) (Instr.fieldAt 194 v16 2) fun v17 =>
  Qu Pr (S3) (Instr.loadAt 22 v17) fun v18 =>
  Qu Pr (S3) (binS .sub 22 (.tmp 27) (.tmp 31) a2 v18) fun v19 =>
  Qu Pr (S3) (Instr.sliceAt 115 v7 (some v11) (some v15) (some v19)) fun v20 =>
  K v20 w4
theorem c309 {a0 a1 a2 : Value} {K : Value → World → Prop} {w : World} (h : t309 a0 a1 a2 K w) : CK Pr 309 #[a0, a1, a2] w K := by
  refine calls_of_RF [] Tryz.func309 rfl ?_ ?_ ?_
  · kernel_rfl
  · exact Nat.le_of_ble_eq_true rfl
  · exact cast (by kernel_rfl) h

/-- (*pub/raft/tracker.Config).Clone$1 -/
def t316 (a0 : Value) (K : Value → World → Prop) (w : World) : Prop :=
  Qu Pr (Is w) (binS .eql 131 (.tmp 5) (.const (Value.map none)) a0 (Value.map none)) fun v1 =>
  If v1 (
    K (Value.map none) w) (
    Qu Pr (Is w) (Builtin.len_ #[131] 3 #[a0]) fun v2 =>
    Ef Pr (Instr.makeMap 131 (some v2)) w fun v4 w3 => 
    Ef Pr (Instr.range 131 a0) w3 fun v6 w5 => 
    LoopW [undef, undef, undef, undef, undef, undef, undef, undef] (fun r7 _ w9 =>
      Ef Pr (Instr.next v6 false 0) w9 fun v11 w10 => 
      Qu Pr (Is w10) (Instr.extract v11 0) fun v12 =>
      If v12 (
        Qu Pr (Is w10) (Instr.entry v6) fun v13 =>
        Qu Pr (Is w10) (Instr.extract v13 0) fun v14 =>
        Qu Pr (Is w10) (Instr.build 156 #[]) fun v15 =>
        Eu Pr (Instr.mapUpdate 131 v4 v14 v15) w10 fun w16 => 
        r7 [v14, v11, v12, v13, v14, v4, v14, v15] w16) (
        K v4 w10)) w5)
theorem c316 {a0 : Value} {K : Value → World → Prop} {w : World} (h : t316 a0 K w) : CK Pr 316 #[a0] w K := by
  refine calls_of_RF [(5, [4, 12, 13, 14, 15, 16, 17, 18])] Tryz.func316 rfl ?_ ?_ ?_
  · kernel_rfl
  · exact Nat.le_of_ble_eq_true rfl
  · exact cast (by kernel_rfl) h

/-- (pub/raft/confchange.Changer).initProgress -/
def t317 (a0 a1 a2 a3 a4 : Value) (K : Value → World → Prop) (w : World) : Prop :=
  Ef Pr (Instr.box 209 a0) w fun v2 w1 => 
  Qu Pr (Is w1) (Op.unary .not a4) fun v3 =>
  Jo (fun  (w16 : World) => (
      Dr w16 fun S18 w19 =>
      Qu Pr (S18) (Instr.fieldAt 209 v2 1) fun v20 =>
      Qu Pr (S18) (Instr.loadAt 22 v20) fun v21 =>
      Qu Pr (S18) (Builtin.max_ #[22, 22] 22 #[v21, (Value.int .u64 1)]) fun v22 =>
      Qu Pr (S18) (Instr.fieldAt 209 v2 0) fun v23 =>
      Qu Pr (S18) (Instr.fieldAt 141 v23 3) fun v24 =>
      Qu Pr (S18) (Instr.loadAt 3 v24) fun v25 =>
      Qu Pr (S18) (Instr.fieldAt 209 v2 0) fun v26 =>
      Qu Pr (S18) (Instr.fieldAt 141 v26 4) fun v27 =>
      Qu Pr (S18) (Instr.loadAt 22 v27) fun v28 =>
      Cl Pr (callV (fn 78) #[v25, v28]) w19 fun v30 w29 => S18 w29 ∧ 
      Qu Pr (S18) (Instr.build 152 #[(0, (Value.int .u64 0)), (1, v22), (7, v30), (8, a4), (5, (Value.bool true))]) fun v31 =>
      Ef Pr (Instr.box 152 v31) w29 fun v33 w32 => S18 w32 ∧ 
      Eu Pr (Instr.mapUpdate 138 a2 a3 v33) w32 fun w34 => S18 w34 ∧ 
      K (.tuple #[]) w34 : Prop)) fun J17 =>
  If v3 (
    Qu Pr (Is w1) (nilS a1) fun v35 =>
    Qu Pr (Is w1) (Instr.fieldAt 136 v35 0) fun v36 =>
    Qu Pr (Is w1) (Instr.loadAt 134 v36) fun v37 =>
    Cl Pr (callV (fn 222) #[v37]) w1 fun v39 w38 => 
    Qu Pr (Is w38) (Instr.build 156 #[]) fun v40 =>
    Eu Pr (Instr.mapUpdate 132 v39 a3 v40) w38 fun w41 => 
    J17 w41) (
    Qu Pr (Is w1) (nilS a1) fun v42 =>
    Qu Pr (Is w1) (Instr.fieldAt 136 v42 2) fun v43 =>
    Cl Pr (callV (fn 319) #[v43, a3]) w1 fun _ w44 => 
    J17 w44)
theorem c317 {a0 a1 a2 a3 a4 : Value} {K : Value → World → Prop} {w : World} (h : t317 a0 a1 a2 a3 a4 K w) : CK Pr 317 #[a0, a1, a2, a3, a4] w K := by
  refine calls_of_RF [] Tryz.func317 rfl ?_ ?_ ?_
  · kernel_rfl
  · exact Nat.le_of_ble_eq_true rfl
  · exact cast (by kernel_rfl) h

/-- pub/raft/confchange.nilAwareDelete -/
def t318 (a0 a1 : Value) (K : Value → World → Prop) (w : World) : Prop :=
  Qu Pr (Is w) (nilS a0) fun v1 =>
  Qu Pr (Is w) (Instr.loadAt 131 v1) fun v2 =>
  Qu Pr (Is w) (binS .eql 131 (.tmp 6) (.const (Value.map none)) v2 (Value.map none)) fun v3 =>
  If v3 (
    K (.tuple #[]) w) (
    Qu Pr (Is w) (nilS a0) fun v4 =>
    Qu Pr (Is w) (Instr.loadAt 131 v4) fun v5 =>
    Ef Pr (Builtin.delete_ #[131, 22] 0 #[v5, a1]) w fun _ w6 => 
    Qu Pr (Is w6) (nilS a0) fun v8 =>
    Qu Pr (Is w6) (Instr.loadAt 131 v8) fun v9 =>
    Qu Pr (Is w6) (Builtin.len_ #[131] 3 #[v9]) fun v10 =>
    Qu Pr (Is w6) (binS .eql 3 (.tmp 15) (.const (Value.int .i64 0)) v10 (Value.int .i64 0)) fun v11 =>
    Jo (fun  (w14 : World) => (
        K (.tuple #[]) w14 : Prop)) fun J15 =>
    If v11 (
      Qu Pr (Is w6) (nilS a0) fun v16 =>
      Eu Pr (Instr.storeAt 131 v16 (Value.map none)) w6 fun w17 => 
      J15 w17) (
      J15 w6))
theorem c318 {a0 a1 : Value} {K : Value → World → Prop} {w : World} (h : t318 a0 a1 K w) : CK Pr 318 #[a0, a1] w K := by
  refine calls_of_RF [] Tryz.func318 rfl ?_ ?_ ?_
  · kernel_rfl
  · exact Nat.le_of_ble_eq_true rfl
  · exact cast (by kernel_rfl) h

/-- pub/raft/confchange.nilAwareAdd -/
def t319 (a0 a1 : Value) (K : Value → World → Prop) (w : World) : Prop :=
  Qu Pr (Is w) (nilS a0) fun v1 =>
  Qu Pr (Is w) (Instr.loadAt 131 v1) fun v2 =>
  Qu Pr (Is w) (binS .eql 131 (.tmp 6) (.const (Value.map none)) v2 (Value.map none)) fun v3 =>
  Jo (fun  (w7 : World) => (
      Qu Pr (Is w7) (nilS a0) fun v9 =>
      Qu Pr (Is w7) (Instr.loadAt 131 v9) fun v10 =>
      Qu Pr (Is w7) (Instr.build 156 #[]) fun v11 =>
      Eu Pr (Instr.mapUpdate 131 v10 a1 v11) w7 fun w12 => 
      K (.tuple #[]) w12 : Prop)) fun J8 =>
  If v3 (
    Ef Pr (Instr.makeMap 131 none) w fun v14 w13 => 
    Qu Pr (Is w13) (nilS a0) fun v15 =>
    Eu Pr (Instr.storeAt 131 v15 v14) w13 fun w16 => 
    J8 w16) (
    J8 w)
theorem c319 {a0 a1 : Value} {K : Value → World → Prop} {w : World} (h : t319 a0 a1 K w) : CK Pr 319 #[a0, a1] w K := by
  refine calls_of_RF [] Tryz.func319 rfl ?_ ?_ ?_
  · kernel_rfl
  · exact Nat.le_of_ble_eq_true rfl
  · exact cast (by kernel_rfl) h

/-- (*pub/raft.unstable).mustCheckOutOfBounds -/
def t328 (a0 a1 a2 : Value) (K : Value → World → Prop) (w : World) : Prop :=
  Qu Pr (Is w) (binS .gtr 22 (.tmp 7) (.tmp 8) a1 a2) fun v1 =>
  If v1 (
    Qu Pr (Is w) (Instr.makeInterface 9 (Value.string (ByteArray.mk #[105, 110, 118, 97, 108, 105, 100, 32, 117, 110, 115, 116, 97, 98, 108, 101, 46, 115, 108, 105, 99, 101, 32, 62]))) fun _ =>
    False) (
    Dr w fun S3 w4 =>
    Qu Pr (S3) (nilS a0) fun v5 =>
    Qu Pr (S3) (Instr.fieldAt 194 v5 2) fun v6 =>
    Qu Pr (S3) (Instr.loadAt 22 v6) fun v7 =>
    Qu Pr (S3) (nilS a0) fun v8 =>
    Qu Pr (S3) (Instr.fieldAt 194 v8 1) fun v9 =>
    Qu Pr (S3) (Instr.loadAt 115 v9) fun v10 =>
    Qu Pr (S3) (Builtin.len_ #[115] 3 #[v10]) fun v11 =>
    Qu Pr (S3) (convert 3 22 v11) fun v12 =>
    Qu Pr (S3) (binS .add 22 (.tmp 14) (.tmp 20) v7 v12) fun v13 =>
    Qu Pr (Is w4) (nilS a0) fun v14 =>
    Qu Pr (Is w4) (Instr.fieldAt 194 v14 2) fun v15 =>
    Qu Pr (Is w4) (Instr.loadAt 22 v15) fun v16 =>
    Qu Pr (Is w4) (binS .lss 22 (.tmp 22) (.tmp 26) a1 v16) fun v17 =>
    Gd v17 false (fun k18 => k18 a2 w4) w4 fun v19 w20 =>
    Gd v17 false (fun k21 => k21 v13 w20) w20 fun v22 w23 =>
    Gd v17 false (fun k24 => Qu Pr (Is w23) (binS .gtr 22 (.tmp 29) (.tmp 30) v19 v22) fun v27 => k24 v27 w23) w23 fun v25 w26 =>
    Qu Pr (Is w26) (pickS v17 (Value.bool true) v25) fun v28 =>
    If v28 (
      Qu Pr (Is w26) (Instr.makeInterface 9 (Value.string (ByteArray.mk #[117, 110, 115, 116, 97, 98, 108, 101, 46, 115, 108, 105, 99, 101, 44, 32, 111, 117, 116, 32, 111, 102, 32, 98, 111, 117, 110, 100]))) fun _ =>
      False) (
      K (.tuple #[]) w26))
theorem c328 {a0 a1 a2 : Value} {K : Value → World → Prop} {w : World} (h : t328 a0 a1 a2 K w) : CK Pr 328 #[a0, a1, a2] w K := by
  refine calls_of_RF [] Tryz.func328 rfl ?_ ?_ ?_
  · kernel_rfl
  · exact Nat.le_of_ble_eq_true rfl
  · exact cast (by kernel_rfl) h

/-- (*pub/raft.MemoryStorage).FirstIndex -/
def t351 (a0 : Value) (K : Value → World → Prop) (w : World) : Prop :=
  Qu Pr (Is w) (nilS a0) fun v1 =>
  Qu Pr (Is w) (Instr.fieldAt 225 v1 3) fun v2 =>
  Qu Pr (Is w) (Instr.fieldAt 223 v2 1) fun v3 =>
  Qu Pr (Is w) (Instr.loadAt 3 v3) fun v4 =>
  Qu Pr (Is w) (binS .add 3 (.tmp 8) (.const (Value.int .i64 1)) v4 (Value.int .i64 1)) fun v5 =>
  Qu Pr (Is w) (nilS a0) fun v6 =>
  Qu Pr (Is w) (Instr.fieldAt 225 v6 3) fun v7 =>
  Qu Pr (Is w) (Instr.fieldAt 223 v7 1) fun v8 =>
  Eu Pr (Instr.storeAt 3 v8 v5) w fun w9 => 
  Cl Pr (callV (fn 123) #[a0]) w9 fun v11 w10 => 
  K (.tuple #[v11, Value.nilIface]) w10
theorem c351 {a0 : Value} {K : Value → World → Prop} {w : World} (h : t351 a0 K w) : CK Pr 351 #[a0] w K := by
  refine calls_of_RF [] Tryz.func351 rfl ?_ ?_ ?_
  · kernel_rfl
  · exact Nat.le_of_ble_eq_true rfl
  · exact cast (by kernel_rfl) h

/-- (*pub/raft.MemoryStorage).LastIndex -/
def t352 (a0 : Value) (K : Value → World → Prop) (w : World) : Prop :=
  Qu Pr (Is w) (nilS a0) fun v1 =>
  Qu Pr (Is w) (Instr.fieldAt 225 v1 3) fun v2 =>
  Qu Pr (Is w) (Instr.fieldAt 223 v2 2) fun v3 =>
  Qu Pr (Is w) (Instr.loadAt 3 v3) fun v4 =>
  Qu Pr (Is w) (binS .add 3 (.tmp 8) (.const (Value.int .i64 1)) v4 (Value.int .i64 1)) fun v5 =>
  Qu Pr (Is w) (nilS a0) fun v6 =>
  Qu Pr (Is w) (Instr.fieldAt 225 v6 3) fun v7 =>
  Qu Pr (Is w) (Instr.fieldAt 223 v7 2) fun v8 =>
  Eu Pr (Instr.storeAt 3 v8 v5) w fun w9 => 
  Cl Pr (callV (fn 355) #[a0]) w9 fun v11 w10 => 
  K (.tuple #[v11, Value.nilIface]) w10
theorem c352 {a0 : Value} {K : Value → World → Prop} {w : World} (h : t352 a0 K w) : CK Pr 352 #[a0] w K := by
  refine calls_of_RF [] Tryz.func352 rfl ?_ ?_ ?_
  · kernel_rfl
  · exact Nat.le_of_ble_eq_true rfl
  · exact cast (by kernel_rfl) h

/-- (*pub/raft.MemoryStorage).Term -/
def t354 (a0 a1 : Value) (K : Value → World → Prop) (w : World) : Prop :=
  Qu Pr (Is w) (nilS a0) fun v1 =>
  Qu Pr (Is w) (Instr.fieldAt 225 v1 3) fun v2 =>
  Qu Pr (Is w) (Instr.fieldAt 223 v2 4) fun v3 =>
  Qu Pr (Is w) (Instr.loadAt 3 v3) fun v4 =>
  Qu Pr (Is w) (binS .add 3 (.tmp 11) (.const (Value.int .i64 1)) v4 (Value.int .i64 1)) fun v5 =>
  Qu Pr (Is w) (nilS a0) fun v6 =>
  Qu Pr (Is w) (Instr.fieldAt 225 v6 3) fun v7 =>
  Qu Pr (Is w) (Instr.fieldAt 223 v7 4) fun v8 =>
  Eu Pr (Instr.storeAt 3 v8 v5) w fun w9 => 
  Qu Pr (Is w9) (nilS a0) fun v10 =>
  Qu Pr (Is w9) (Instr.fieldAt 225 v10 2) fun v11 =>
  Qu Pr (Is w9) (Instr.loadAt 115 v11) fun v12 =>
  Qu Pr (Is w9) (Instr.indexAt 115 v12 (Value.int .i64 0)) fun v13 =>
  Qu Pr (Is w9) (Instr.loadAt 212 v13) fun v14 =>
  Cl Pr (callV (fn 124) #[v14]) w9 fun v16 w15 => 
  Qu Pr (Is w15) (binS .lss 22 (.tmp 23) (.tmp 24) a1 v16) fun v17 =>
  If v17 (
    Qu Pr (Is w15) (Instr.makeInterface 226 (Value.string (ByteArray.mk #[114, 101, 113, 117, 101, 115, 116, 101, 100, 32, 105, 110, 100, 101, 120, 32, 105, 115, 32, 117, 110, 97, 118, 97, 105, 108, 97, 98, 108, 101, 32, 100, 117, 101, 32, 116, 111, 32, 99, 111, 109, 112, 97, 99, 116, 105, 111, 110]))) fun v18 =>
    K (.tuple #[(Value.int .u64 0), v18]) w15) (
    Qu Pr (Is w15) (binS .sub 22 (.tmp 27) (.tmp 28) a1 v16) fun v19 =>
    Qu Pr (Is w15) (convert 22 3 v19) fun v20 =>
    Qu Pr (Is w15) (nilS a0) fun v21 =>
    Qu Pr (Is w15) (Instr.fieldAt 225 v21 2) fun v22 =>
    Qu Pr (Is w15) (Instr.loadAt 115 v22) fun v23 =>
    Qu Pr (Is w15) (Builtin.len_ #[115] 3 #[v23]) fun v24 =>
    Qu Pr (Is w15) (binS .geq 3 (.tmp 30) (.tmp 35) v20 v24) fun v25 =>
    If v25 (
      Qu Pr (Is w15) (Instr.makeInterface 226 (Value.string (ByteArray.mk #[114, 101, 113, 117, 101, 115, 116, 101, 100, 32, 101, 110, 116, 114, 121, 32, 97, 116, 32, 105, 110, 100, 101, 120, 32, 105, 115, 32, 117, 110, 97, 118, 97, 105, 108, 97, 98, 108, 101]))) fun v26 =>
      K (.tuple #[(Value.int .u64 0), v26]) w15) (
      Qu Pr (Is w15) (nilS a0) fun v27 =>
      Qu Pr (Is w15) (Instr.fieldAt 225 v27 2) fun v28 =>
      Qu Pr (Is w15) (Instr.loadAt 115 v28) fun v29 =>
      Qu Pr (Is w15) (binS .sub 22 (.tmp 42) (.tmp 43) a1 v16) fun v30 =>
      Qu Pr (Is w15) (Instr.indexAt 115 v29 v30) fun v31 =>
      Qu Pr (Is w15) (Instr.loadAt 212 v31) fun v32 =>
      Cl Pr (callV (fn 128) #[v32]) w15 fun v34 w33 => 
      K (.tuple #[v34, Value.nilIface]) w33))
theorem c354 {a0 a1 : Value} {K : Value → World → Prop} {w : World} (h : t354 a0 a1 K w) : CK Pr 354 #[a0, a1] w K := by
  refine calls_of_RF [] Tryz.func354 rfl ?_ ?_ ?_
  · kernel_rfl
  · exact Nat.le_of_ble_eq_true rfl
  · exact cast (by kernel_rfl) h

/-- (*pub/raft.MemoryStorage).lastIndex -/
def t355 (a0 : Value) (K : Value → World → Prop) (w : World) : Prop :=
  Dr w fun S1 w2 =>
  Qu Pr (S1) (nilS a0) fun v3 =>
  Qu Pr (S1) (Instr.fieldAt 225 v3 2) fun v4 =>
  Qu Pr (S1) (Instr.loadAt 115 v4) fun v5 =>
  Qu Pr (S1) (Instr.indexAt 115 v5 (Value.int .i64 0)) fun v6 =>
  Qu Pr (S1) (Instr.loadAt 212 v6) fun v7 =>
  Cl Pr (callV (fn 124) #[v7]) w2 fun v9 w8 => S1 w8 ∧ 
  Qu Pr (S1) (nilS a0) fun v10 =>
  Qu Pr (S1) (Instr.fieldAt 225 v10 2) fun v11 =>
  Qu Pr (S1) (Instr.loadAt 115 v11) fun v12 =>
  Qu Pr (S1) (Builtin.len_ #[115] 3 #[v12]) fun v13 =>
  Qu Pr (S1) (convert 3 22 v13) fun v14 =>
  Qu Pr (S1) (binS .add 22 (.tmp 9) (.tmp 15) v9 v14) fun v15 =>
  Qu Pr (S1) (binS .sub 22 (.tmp 16) (.const (Value.int .u64 1)) v15 (Value.int .u64 1)) fun v16 =>
  K v16 w8
theorem c355 {a0 : Value} {K : Value → World → Prop} {w : World} (h : t355 a0 K w) : CK Pr 355 #[a0] w K := by
  refine calls_of_RF [] Tryz.func355 rfl ?_ ?_ ?_
  · kernel_rfl
  · exact Nat.le_of_ble_eq_true rfl
  · exact cast (by kernel_rfl) h

end Go.Proofs.YtmmpogfbhelioaaGreat
/-
  Contracts: clones of configurations and snapshots.
  Conditions: each one's own.
-/
namespace Go.Proofs.YtmmpogfbhelioaaGreat
set_option maxRecDepth 10000
set_option linter.unusedVariables false
set_option linter.unusedSimpArgs false
set_option linter.unusedVariables false
set_option linter.unusedSimpArgs false
attribute [local irreducible] Instr.box Instr.alloc Instr.loadAt Instr.storeAt Instr.fieldAt Instr.indexAt Instr.build Instr.buildSlice Instr.makeSlice Instr.makeMap Instr.mapUpdate Instr.lookup Instr.range Instr.next Instr.entry Instr.extract Instr.makeInterface Instr.makeFunc Instr.sliceAt Instr.typeAssert Instr.field Instr.index Builtin.len_ Builtin.cap_ Builtin.max_ Builtin.min_ Builtin.append_ Builtin.copy_ Builtin.delete_ convert binS pickS nilS callV callM Op.unary Own Mp It Cu


variable {K : Value → World → Prop} {w : World} {te : Option Nat}

theorem k287 {v : Value} {l : List Int} (hv : Nums w te v l) (hl : l.length ≤ 1000000) (h : ∀ v' w', Ex w w' → Sl w' (some 22) 1 v' (nums l) → K v' w') : CK Pr 287 #[v] w K := by
  refine c287 ?_
  unfold t287
  have hz := nums_len l
  obtain ⟨a, c, hvv⟩ := hv.sh
  cases a with
  | none =>
    have h0 : nums l = [] := hv.none_ hvv
    subst hvv
    (repeat (first | (refine go ?_; intros) | (refine gon ?_; intros)))
    refine h _ _ (.refl _ _ _) ?_
    rw [h0]
    exact .nil _ _
  | some a =>
    rw [hvv]
    (repeat (first | (refine go ?_; intros) | (refine gon ?_; intros)))
    rw [← hvv]
    refine e_make (m := (nums l).length) (zv := .int .u64 0) rfl rfl rfl (by omega) (by omega) fun w1 e1 o1 z1 => ?_
    refine e_copy o1 (hv.ex e1) (by rw [List.length_replicate]) nums_one fun r w2 u2 o2 z2 => ?_
    refine h _ _ ?_ o2.sl
    refine e1.new u2 fun b hb => ?_
    cases hb
    exact Nat.le_refl _

theorem k288 {v : Value} {p : Bool} (hv : PB1 v p w) (h : ∀ v' w', Ex w w' → PB1 v' p w' → K v' w') : CK Pr 288 #[v] w K := by
  refine c288 ?_
  unfold t288
  obtain ⟨b, rfl, hb⟩ := hv
  (repeat (first | (refine go ?_; intros) | (refine gon ?_; intros)))
  exact h _ _ ex_ ⟨_, rfl, by exact bk_⟩

theorem k266 {v : Value} {p : Int} (hv : PN1 22 .u64 v p w) (h : ∀ v' w', Ex w w' → PN1 22 .u64 v' p w' → K v' w') : CK Pr 266 #[v] w K := by
  refine c266 ?_
  unfold t266
  obtain ⟨b, rfl, hb⟩ := hv
  (repeat (first | (refine go ?_; intros) | (refine gon ?_; intros)))
  exact h _ _ ex_ ⟨_, rfl, by exact bk_⟩

theorem bytes_one {s : ByteArray} : ∀ y ∈ byteList s, ∀ u ∈ y, one u = true := by
  intro y hy u hu
  obtain ⟨x, _, rfl⟩ := List.mem_map.1 hy
  rw [List.mem_singleton.1 hu]; rfl

theorem k204 {v : Value} {s : ByteArray} (hv : Sl w te 1 v (byteList s)) (hl : s.size ≤ 1000000) (h : ∀ v' w', Ex w w' → Sl w' (some 5) 1 v' (byteList s) → K v' w') : CK Pr 204 #[v] w K := by
  refine c204 ?_
  unfold t204
  have hz : (byteList s).length = s.size := by simp only [byteList, List.length_map, Array.length_toList]; rfl
  obtain ⟨a, c, hvv⟩ := hv.sh
  cases a with
  | none =>
    have h0 : byteList s = [] := hv.none_ hvv
    subst hvv
    (repeat (first | (refine go ?_; intros) | (refine gon ?_; intros)))
    refine h _ _ (.refl _ _ _) ?_
    rw [h0]
    exact .nil _ _
  | some a =>
    rw [hvv]
    (repeat (first | (refine go ?_; intros) | (refine gon ?_; intros)))
    rw [← hvv]
    refine e_make (m := (byteList s).length) (zv := .int .u8 0) rfl rfl rfl (by omega) (by omega) fun w1 e1 o1 z1 => ?_
    refine e_copy o1 (hv.ex e1) (by rw [List.length_replicate]) bytes_one fun r w2 u2 o2 z2 => ?_
    refine h _ _ ?_ o2.sl
    refine e1.new u2 fun b hb => ?_
    cases hb
    exact Nat.le_refl _

/-- Lists that are small. -/
structure CfSm (c : Cf) : Prop where
  v : c.v.length ≤ 1000000
  l : c.l.length ≤ 1000000
  o : c.o.length ≤ 1000000
  n : c.n.length ≤ 1000000

theorem k226 {v : Value} {c : Cf} (hv : PC v c w) (sm : CfSm c) (h : ∀ v' w', Ex w w' → PC v' c w' → K v' w') : CK Pr 226 #[v] w K := by
  obtain ⟨b, v1, v2, v3, v4, v5, rfl, hb, h1, h2, h3, h4, h5⟩ := hv
  refine c226 ?_
  unfold t226
  (repeat (first | (refine go ?_; intros) | (refine gon ?_; intros)))
  refine dr_rule No [] fun w1 e1 z1 => ?_
  (repeat (first | (refine go ?_; intros) | (refine gon ?_; intros)))
  refine cl_fn (k287 (h1.ex ex_) sm.v fun u1 w2 e2 o1 => ⟨by exact ex_, ?_⟩)
  (repeat (first | (refine go ?_; intros) | (refine gon ?_; intros)))
  refine cl_fn (k287 (h2.ex ex_) sm.l fun u2 w3 e3 o2 => ⟨by exact ex_, ?_⟩)
  (repeat (first | (refine go ?_; intros) | (refine gon ?_; intros)))
  refine cl_fn (k287 (h3.ex ex_) sm.o fun u3 w4 e4 o3 => ⟨by exact ex_, ?_⟩)
  (repeat (first | (refine go ?_; intros) | (refine gon ?_; intros)))
  refine cl_fn (k287 (h4.ex ex_) sm.n fun u4 w5 e5 o4 => ⟨by exact ex_, ?_⟩)
  (repeat (first | (refine go ?_; intros) | (refine gon ?_; intros)))
  refine cl_fn (k288 (h5.ex ex_) fun u5 w6 e6 o5 => ⟨by exact ex_, ?_⟩)
  refine b200_0_1_2_3_4 o1.one o2.one o3.one o4.one o5.one ?_
  refine e_boxA fun b0 w7 e7 hb7 s1 s2 => ⟨by exact ex_, ?_⟩
  refine h _ _ ex_ ⟨_, _, _, _, _, _, rfl, hb7, ?_, ?_, ?_, ?_, ?_⟩ <;> exact lf_

theorem k205 {v : Value} {i t : Int} {c : Cf} (hv : PM v i t c w) (sm : CfSm c) (h : ∀ v' w', Ex w w' → PM v' i t c w' → K v' w') : CK Pr 205 #[v] w K := by
  obtain ⟨b, v1, v2, v3, rfl, hb, h1, h2, h3⟩ := hv
  refine c205 ?_
  unfold t205
  (repeat (first | (refine go ?_; intros) | (refine gon ?_; intros)))
  refine dr_rule No [] fun w1 e1 z1 => ?_
  (repeat (first | (refine go ?_; intros) | (refine gon ?_; intros)))
  refine cl_fn (k226 (h1.ex ex_) sm fun u1 w2 e2 o1 => ⟨by exact ex_, ?_⟩)
  (repeat (first | (refine go ?_; intros) | (refine gon ?_; intros)))
  refine cl_fn (k266 (h2.ex ex_) fun u2 w3 e3 o2 => ⟨by exact ex_, ?_⟩)
  (repeat (first | (refine go ?_; intros) | (refine gon ?_; intros)))
  refine cl_fn (k266 (h3.ex ex_) fun u3 w4 e4 o3 => ⟨by exact ex_, ?_⟩)
  refine b106_0_1_2 o1.one o2.one o3.one ?_
  refine e_boxA fun b0 w7 e7 hb7 s1 s2 => ⟨by exact ex_, ?_⟩
  refine h _ _ ex_ ⟨_, _, _, _, rfl, hb7, ?_, ?_, ?_⟩ <;> exact lf_

theorem k122 {v : Value} {s : Sn} (hv : PS v s w) (hd : s.d.size ≤ 1000000) (sm : CfSm s.c) (h : ∀ v' w', Ex w w' → PS v' s w' → K v' w') : CK Pr 122 #[v] w K := by
  obtain ⟨b, v1, v2, rfl, hb, h1, h2⟩ := hv
  refine c122 ?_
  unfold t122
  (repeat (first | (refine go ?_; intros) | (refine gon ?_; intros)))
  refine dr_rule No [] fun w1 e1 z1 => ?_
  (repeat (first | (refine go ?_; intros) | (refine gon ?_; intros)))
  refine cl_fn (k204 (h1.ex ex_) hd fun u1 w2 e2 o1 => ⟨by exact ex_, ?_⟩)
  (repeat (first | (refine go ?_; intros) | (refine gon ?_; intros)))
  refine cl_fn (k205 (h2.ex ex_) sm fun u2 w3 e3 o2 => ⟨by exact ex_, ?_⟩)
  refine b108_0_1 o1.one o2.one ?_
  refine e_boxA fun b0 w7 e7 hb7 s1 s2 => ⟨by exact ex_, ?_⟩
  refine h _ _ ex_ ⟨_, _, _, rfl, hb7, ?_, ?_⟩ <;> exact lf_

theorem k98 {v : Value} {c : Cf} (hv : PC v c w) (h : K v w) : CK Pr 98 #[v] w K := by
  obtain ⟨b, v1, v2, v3, v4, v5, rfl, hb, h1, h2, h3, h4, ⟨b5, rfl, hb5⟩⟩ := hv
  refine c98 ?_
  unfold t98
  unfold Jo
  (repeat (first | (refine go ?_; intros) | (refine gon ?_; intros)))
  exact h

theorem k69 (h : K (.tuple #[]) w) : CK Pr 69 #[.nilIface] w K := by
  refine c69 ?_
  unfold t69
  (repeat (first | (refine go ?_; intros) | (refine gon ?_; intros)))
  exact h

theorem k203 {v : Value} {i t : Int} {c : Cf} (hv : PM v i t c w) (h : K v w) : CK Pr 203 #[v] w K := by
  have hv' := hv
  obtain ⟨b, v1, v2, v3, rfl, hb, h1, ⟨b2, rfl, h2⟩, ⟨b3, rfl, h3⟩⟩ := hv
  refine c203 ?_
  unfold t203
  unfold Jo
  (repeat (first | (refine go ?_; intros) | (refine gon ?_; intros)))
  unfold t203_1
  unfold Jo
  (repeat (first | (refine go ?_; intros) | (refine gon ?_; intros)))
  refine cl_fn (k98 h1 ?_)
  obtain ⟨b5, _, _, _, _, _, rfl, _⟩ := h1
  (repeat (first | (refine go ?_; intros) | (refine gon ?_; intros)))
  exact h

theorem k118 {v : Value} {s : Sn} (hv : PS v s w) (h : K v w) : CK Pr 118 #[v] w K := by
  obtain ⟨b, v1, v2, rfl, hb, h1, h2⟩ := hv
  refine c118 ?_
  unfold t118
  unfold Jo
  (repeat (first | (refine go ?_; intros) | (refine gon ?_; intros)))
  refine cl_fn (k203 h2 ?_)
  obtain ⟨b5, _, _, _, rfl, _⟩ := h2
  (repeat (first | (refine go ?_; intros) | (refine gon ?_; intros)))
  exact h

theorem PC.typ {C : Nat → Prop} {T : List Nat} {w w' : World} {v : Value} {c : Cf} (u : Up C T w w') (h : PC v c w) (t1 : T.contains 202 = false) (t2 : T.contains 24 = false) (t3 : T.contains 6 = false) : PC v c w' := by
  obtain ⟨b, v1, v2, v3, v4, v5, rfl, hb, h1, h2, h3, h4, ⟨b5, rfl, hb5⟩⟩ := h
  exact ⟨b, _, _, _, _, _, rfl, u.at_ hb t1, h1.typ u t2, h2.typ u t2, h3.typ u t2, h4.typ u t2, ⟨_, rfl, u.at_ hb5 t3⟩⟩

abbrev Cf0 : Cf := ⟨[], [], [], [], false⟩

theorem k98n (h : ∀ v w', Ex w w' → PC v Cf0 w' → K v w') : CK Pr 98 #[.pointer none] w K := by
  refine c98 ?_
  unfold t98
  unfold Jo
  (repeat (first | (refine go ?_; intros) | (refine gon ?_; intros)))
  exact h _ _ ex_ ⟨_, _, _, _, _, _, rfl, by exact bk_, .nil _ _, .nil _ _, .nil _ _, .nil _ _, ⟨_, rfl, by exact bk_⟩⟩

theorem k203n (h : ∀ v w', Ex w w' → PM v 0 0 Cf0 w' → K v w') : CK Pr 203 #[.pointer none] w K := by
  refine c203 ?_
  unfold t203
  unfold Jo
  (repeat (first | (refine go ?_; intros) | (refine gon ?_; intros)))
  unfold t203_1
  unfold Jo
  (repeat (first | (refine go ?_; intros) | (refine gon ?_; intros)))
  refine cl_fn (k98n fun v1 w1 e1 h1 => ?_)
  have z1 := e1.size
  have o1 := h1.one
  (repeat (first | (refine go ?_; intros) | (refine gon ?_; intros)))
  refine h _ _ ex_ ⟨_, _, _, _, rfl, by exact bk_, by (repeat (first | assumption | refine PC.ex (by assumption) ?_ | refine PC.typ (by assumption) ?_ rfl rfl rfl)), ⟨_, rfl, by exact bk_⟩, ⟨_, rfl, by exact bk_⟩⟩

theorem PM.typ {C : Nat → Prop} {T : List Nat} {w w' : World} {v : Value} {i t : Int} {c : Cf} (u : Up C T w w') (h : PM v i t c w) (t0 : T.contains 108 = false) (t1 : T.contains 202 = false) (t2 : T.contains 24 = false) (t3 : T.contains 6 = false) : PM v i t c w' := by
  obtain ⟨b, v1, v2, v3, rfl, hb, h1, ⟨b2, rfl, h2⟩, ⟨b3, rfl, h3⟩⟩ := h
  exact ⟨b, _, _, _, rfl, u.at_ hb t0, h1.typ u t1 t2 t3, ⟨_, rfl, u.at_ h2 t2⟩, ⟨_, rfl, u.at_ h3 t2⟩⟩

abbrev Sn0 : Sn := ⟨ByteArray.empty, 0, 0, Cf0⟩

theorem k118n (h : ∀ v w', Ex w w' → PS v Sn0 w' → K v w') : CK Pr 118 #[.pointer none] w K := by
  refine c118 ?_
  unfold t118
  unfold Jo
  (repeat (first | (refine go ?_; intros) | (refine gon ?_; intros)))
  refine cl_fn (k203n fun v1 w1 e1 h1 => ?_)
  have z1 := e1.size
  have o1 := h1.one
  (repeat (first | (refine go ?_; intros) | (refine gon ?_; intros)))
  refine h _ _ ex_ ⟨_, _, _, rfl, by exact bk_, .nil _ _, by (repeat (first | assumption | refine PM.ex (by assumption) ?_ | refine PM.typ (by assumption) ?_ rfl rfl rfl rfl))⟩

end Go.Proofs.YtmmpogfbhelioaaGreat
/-
  Contracts: the storage.
  Conditions: each one's own.
-/
namespace Go.Proofs.YtmmpogfbhelioaaGreat
set_option maxRecDepth 10000
set_option linter.unusedVariables false
set_option linter.unusedSimpArgs false
set_option linter.unusedVariables false
set_option linter.unusedSimpArgs false
attribute [local irreducible] Instr.box Instr.alloc Instr.loadAt Instr.storeAt Instr.fieldAt Instr.indexAt Instr.build Instr.buildSlice Instr.makeSlice Instr.makeMap Instr.mapUpdate Instr.lookup Instr.range Instr.next Instr.entry Instr.extract Instr.makeInterface Instr.makeFunc Instr.sliceAt Instr.typeAssert Instr.field Instr.index Builtin.len_ Builtin.cap_ Builtin.max_ Builtin.min_ Builtin.append_ Builtin.copy_ Builtin.delete_ convert binS pickS nilS callV callM Op.unary Own Mp It Cu


variable {K : Value → World → Prop} {w : World} {te : Option Nat}

/-- Block b is a memory storage of a snapshot and of entries. -/
def MS (base b : Nat) (s : Sn) (es : List En) (w : World) : Prop :=
  ∃ vs ve ps c1 c2 c3 c4 c5 c6, Bk w b (.cells #[.pointer none, vs, ve, .int .i64 c1, .int .i64 c2, .int .i64 c3, .int .i64 c4, .int .i64 c5, .int .i64 c6] 225 (0, 0)) ∧ PS vs s w ∧ base ≤ w.heap.size ∧ Own w base 212 1 ve (ones ps) ∧ PEs ps es w

theorem k68 (h : ∀ b w', Ex w w' → w.heap.size ≤ b → MS w.heap.size b Sn0 [⟨0, 0, 0, ByteArray.empty⟩] w' → K (.pointer (some ⟨b, 0, none⟩)) w') : CK Pr 68 #[] w K := by
  refine c68 ?_
  unfold t68
  refine b215_ ?_
  refine e_boxA fun b1 w1 e1 hb1 s1 s2 => ?_
  refine e_bs1 (n := 1) rfl (by omega) fun w2 e2 o2 z2 => ?_
  refine b225_2 o2.sl.one ?_
  refine e_boxA fun b3 w3 e3 hb3 s3 s4 => ?_
  (repeat (first | (refine go ?_; intros) | (refine gon ?_; intros)))
  refine cl_fn (k118n fun v4 w4 e4 h4 => ?_)
  have z4 := e4.size
  have o4 := h4.one
  (repeat (first | (refine go ?_; intros) | (refine gon ?_; intros)))
  rename_i w5 u5 hb5 z5
  refine h _ _ ex_ (by omega) ⟨_, _, [.pointer (some ⟨b1, 0, none⟩)], _, _, _, _, _, _, hb5, h4.mt rfl u5, by omega, ?_, ?_⟩
  · exact (((o2.ex e3).ex e4).mono (by omega)).up u5 fun _ _ => .inl rfl
  · refine .cons ?_ (.nil _)
    have hb1' : Bk w5 b1 _ := u5.at_ (e4.at_ (e3.at_ (e2.at_ hb1))) rfl
    exact ⟨_, _, _, _, _, rfl, hb1', .inl ⟨rfl, rfl⟩, .inl ⟨rfl, rfl⟩, .inl ⟨rfl, rfl⟩, .nil _ _⟩

theorem k70 {base b : Nat} {v : Value} {s : Sn} {es : List En} (hm : MS base b Sn0 es w) (hs : PS v s w) (hd : s.d.size ≤ 1000000) (sm : CfSm s.c)
    (h : ∀ w', Up (fun x => x = b) [227] w w' → MS base b s [⟨s.t, s.i, 0, ByteArray.empty⟩] w' → K .nilIface w') : CK Pr 70 #[.pointer (some ⟨b, 0, none⟩), v] w K := by
  refine c70 ?_
  unfold t70
  obtain ⟨vs, ve, ps, c1, c2, c3, c4, c5, c6, hb, hvs, hbase, hve, hps⟩ := hm
  refine cl_fn (k118 hs ?_)
  (repeat (first | (refine go ?_; intros) | (refine gon ?_; intros)))
  refine cl_fn (k95 hvs fun vm hvm => ?_)
  refine cl_fn (k96 hvm ?_)
  refine cl_fn (k95 hs fun vn hvn => ?_)
  refine cl_fn (k96 hvn ?_)
  (repeat (first | (refine go ?_; intros) | (refine gon ?_; intros)))
  refine cl_fn (k122 hs hd sm fun u1 w1 e1 h1 => ?_)
  have o1 := h1.one
  have z1 := e1.size
  (repeat (first | (refine go ?_; intros) | (refine gon ?_; intros)))
  rename_i w2 u2 hb2 z2
  have hs2 : PS v s w2 := (hs.ex e1).mt rfl u2
  refine cl_fn (k95 hs2 fun va ha => ?_)
  refine cl_fn (k99 ha ?_)
  refine e_box1 rfl fun b3 w3 e3 hb3 s3a s3b => ?_
  refine cl_fn (k95 (hs2.ex e3) fun vc hc => ?_)
  refine cl_fn (k96 hc ?_)
  refine e_box1 rfl fun b4 w4 e4 hb4 s4a s4b => ?_
  refine b215_0_1 rfl rfl ?_
  refine e_boxA fun b5 w5 e5 hb5 s5a s5b => ?_
  refine e_bs1 (n := 1) rfl (by omega) fun w6 e6 o6 z6 => ?_
  have hb6 : Bk w6 b _ := e6.at_ (e5.at_ (e4.at_ (e3.at_ hb2)))
  (repeat (first | (refine go ?_; intros) | (refine gon ?_; intros)))
  rename_i w7 u7 hb7 z7
  refine h w7 ?_ ⟨_, _, [.pointer (some ⟨b5, 0, none⟩)], _, _, _, _, _, _, hb7, ?_, by omega, (o6.mono (by omega)).up u7 fun _ _ => .inl rfl, .cons ?_ (.nil _)⟩
  · exact Up.trans (((((Up.of_ex e1 : Up (fun x => x = b) [227] w w1).trans u2).ex e3).ex e4).ex (e5.trans e6)) u7
  · exact ((((((h1.mt rfl u2).ex e3).ex e4).ex e5).ex e6)).mt rfl u7
  · have q5 : Bk w7 b5 _ := u7.at_ (e6.at_ hb5) rfl
    have q3 : Bk w7 b3 _ := u7.at_ (e6.at_ (e5.at_ (e4.at_ hb3))) rfl
    have q4 : Bk w7 b4 _ := u7.at_ (e6.at_ (e5.at_ hb4)) rfl
    exact ⟨_, _, _, _, _, rfl, q5, .inr ⟨_, rfl, q3⟩, .inr ⟨_, rfl, q4⟩, .inl ⟨rfl, rfl⟩, .nil _ _⟩

theorem k123 {base b : Nat} {s : Sn} {e : En} {es : List En} (hm : MS base b s (e :: es) w) (hi : 0 ≤ e.i ∧ e.i ≤ 1000000000000000) (h : K (.int .u64 (e.i + 1)) w) : CK Pr 123 #[.pointer (some ⟨b, 0, none⟩)] w K := by
  refine c123 ?_
  unfold t123
  obtain ⟨vs, ve, ps, c1, c2, c3, c4, c5, c6, hb, hvs, hbase, hve, hps⟩ := hm
  cases hps with
  | cons hp hr =>
    (repeat (first | (refine go ?_; intros) | (refine gon ?_; intros)))
    refine q_ixs 0 hve.sl rfl rfl fun _ => ?_
    refine cl_fn (k124 hp ?_)
    (repeat (first | (refine go ?_; intros) | (refine gon ?_; intros)))
    rw [wrapU (by omega) (by omega)]
    exact h

end Go.Proofs.YtmmpogfbhelioaaGreat
/-
  Contracts: the storage's Append.
  Conditions: what is appended follows the snapshot.
-/
namespace Go.Proofs.YtmmpogfbhelioaaGreat
set_option maxRecDepth 10000
set_option linter.unusedVariables false
set_option linter.unusedSimpArgs false
set_option linter.unusedVariables false
set_option linter.unusedSimpArgs false
attribute [local irreducible] Instr.box Instr.alloc Instr.loadAt Instr.storeAt Instr.fieldAt Instr.indexAt Instr.build Instr.buildSlice Instr.makeSlice Instr.makeMap Instr.mapUpdate Instr.lookup Instr.range Instr.next Instr.entry Instr.extract Instr.makeInterface Instr.makeFunc Instr.sliceAt Instr.typeAssert Instr.field Instr.index Builtin.len_ Builtin.cap_ Builtin.max_ Builtin.min_ Builtin.append_ Builtin.copy_ Builtin.delete_ convert binS pickS nilS callV callM Op.unary Own Mp It Cu


variable {K : Value → World → Prop} {w : World} {te : Option Nat}

theorem PEs.ones {vs : List Value} {es : List En} (h : PEs vs es w) : ∀ v ∈ vs, one v = true := by
  induction h with
  | nil => intro v hv; cases hv
  | cons h _ ih =>
    intro v hv
    rcases List.mem_cons.1 hv with rfl | hv
    · exact h.one
    · exact ih v hv

theorem k71 {base b : Nat} {v : Value} {s : Sn} {e0 : En} {qs : List Value} {l : List En} (hm : MS base b s [e0] w) (hv : Sl w te 1 v (ones qs)) (hq : PEs qs l w) (hl : l.length ≤ 1000) (hi : 0 ≤ e0.i ∧ e0.i ≤ 1000000000000000)
    (hrow : ∀ e, l[0]? = some e → e.i = e0.i + 1) (h : ∀ w', Up (fun x => x = b ∨ base ≤ x) [227, 214] w w' → MS base b s (e0 :: l) w' → K .nilIface w') : CK Pr 71 #[.pointer (some ⟨b, 0, none⟩), v] w K := by
  refine c71 ?_
  unfold t71
  have hol : (ones qs).length = l.length := by rw [ones, List.length_map, hq.len]
  refine q_lenSl hv ?_
  rw [hol]
  (repeat (first | (refine go ?_; intros) | (refine gon ?_; intros)))
  cases l with
  | nil =>
    (repeat (first | (refine go ?_; intros) | (refine gon ?_; intros)))
    exact h w (.refl _ _ _) hm
  | cons e1 r =>
    refine if_f ?_
    unfold t71_3
    obtain ⟨q1, qr, rfl⟩ : ∃ q1 qr, qs = q1 :: qr := by
      cases hq with
      | cons _ _ => exact ⟨_, _, rfl⟩
    have hq' := hq
    cases hq with
    | cons hq1 hqr =>
    have he1 := hrow e1 rfl
    have hl' : r.length + 1 ≤ 1000 := by simpa using hl
    refine cl_fn (k123 hm ⟨hi.1, hi.2⟩ ?_)
    refine q_ixs 0 hv rfl rfl fun _ => ?_
    refine cl_fn (k124 hq1 ?_)
    refine q_lenSl hv ?_
    rw [hol]
    (repeat (first | (refine go ?_; intros) | (refine gon ?_; intros)))
    simp only [List.length_cons]
    have hw : IntKind.u64.wrap (IntKind.u64.wrap (e1.i + IntKind.u64.wrap ((r.length + 1 : Nat) : Int)) - 1) = e1.i + r.length := by
      rw [wrapU (n := ((r.length + 1 : Nat) : Int)) (by omega) (by omega), wrapU (n := e1.i + ((r.length + 1 : Nat) : Int)) (by omega) (by omega), wrapU (by omega) (by omega)]
      omega
    simp only [hw]
    refine if_split (fun hb => ?_) (fun hb => ?_)
    · have := of_decide_eq_true hb
      omega
    unfold t71_2
    refine q_ixs 0 hv rfl rfl fun _ => ?_
    refine cl_fn (k124 hq1 ?_)
    unfold Jo
    (repeat (first | (refine go ?_; intros) | (refine gon ?_; intros)))
    refine if_split (fun hb => ?_) (fun hb => ?_)
    · have := of_decide_eq_true hb
      omega
    unfold t71_1
    refine dr_rule No [] fun w1 x1 z1 => ?_
    obtain ⟨vs, ve, ps, c1, c2, c3, c4, c5, c6, hb1, hvs, hbase, hve, hps⟩ := hm
    cases hps with
    | cons hp0 hpr =>
    cases hpr
    refine q_ixsE 0 (hv.ex x1) rfl rfl fun _ => ?_
    refine cl_fn (k124 (hq1.ex x1) ⟨.refl _ _ _, ?_⟩)
    (repeat (first | (refine go ?_; intros) | (refine gon ?_; intros)))
    refine q_ixsE 0 (hve.sl.ex x1) rfl rfl fun _ => ?_
    refine cl_fn (k124 (hp0.ex x1) ⟨.refl _ _ _, ?_⟩)
    (repeat (first | (refine go ?_; intros) | (refine gon ?_; intros)))
    refine q_lenSl hve.sl ?_
    rw [he1, wrapU (n := e0.i + 1 - e0.i) (by omega) (by omega), show e0.i + 1 - e0.i = (1 : Int) by omega]
    unfold Jo
    (repeat (first | (refine go ?_; intros) | (refine gon ?_; intros)))
    refine q_lenSl hve.sl ?_
    (repeat (first | (refine go ?_; intros) | (refine gon ?_; intros)))
    have hb1w : Bk w1 b _ := x1.at_ hb1
    refine e_app (base := base) (hve.ex x1) (hv.ex x1) (by intro y hy u hu; obtain ⟨z, hz, rfl⟩ := List.mem_map.1 hy; rw [List.mem_singleton.1 hu]; exact hq'.ones z hz) (by rw [hol]; simp [ones]; omega) (by rw [hol]; simp [ones]; omega) (by omega) fun v2 w2 u2 o2 hbl z2 => ?_
    have hb2w := u2.at_ hb1w rfl
    have lt1 := hve.lt
    have o2o := o2.sl.one
    (repeat (first | (refine go ?_; intros) | (refine gon ?_; intros)))
    rename_i w3 u3 hb3 z3
    have ua : Up (fun x => x = b ∨ base ≤ x) [227, 214] w w3 :=
      ((Up.of_ex x1).step u2 (fun y _ hy => .inr (lt1 y hy).1) (fun k hk => by simp at hk; simp [hk])).step u3 (fun y _ hy => .inl hy) (fun k hk => by simp at hk; simp [hk])
    refine h w3 ua ⟨_, _, _, _, _, _, _, _, _, hb3, hvs.mt rfl ua, by have := ua.size; omega, (show Own w2 base 212 1 v2 (ones (_ :: q1 :: qr)) from o2).up u3 fun _ _ => .inl rfl, .cons (hp0.mt rfl ua) (hq'.mt rfl ua)⟩

end Go.Proofs.YtmmpogfbhelioaaGreat
/-
  The rule for a method called through an interface.
  Conditions: the dynamic type is a pointer type with the method itself.
-/
namespace Go.Proofs.YtmmpogfbhelioaaGreat
set_option maxRecDepth 10000
set_option linter.unusedVariables false
set_option linter.unusedSimpArgs false
variable {P : Program} {w : World} {KW : Value → World → Prop}

def tmethB (P : Program) (t : Nat) (name : String) (f : Nat) : Bool := match P.info? t, P.underlying t with
  | some i, some (.pointer _) => (match i.methods.find? (·.name == name) with | some m => m.path.isEmpty && (match m.func with | some (g, true) => Nat.beq g f | _ => false) | none => false)
  | _, _ => false
/-- A pointer type's own method. -/
class TMeth (P : Program) (t : TypeId) (name : String) (f : outParam Nat) : Prop where ok : tmethB P t name f = true

theorem cl_m {t : TypeId} {name : String} {f : Nat} [h : TMeth P t name f] [TFn P f] {v : Value} {args : Array Value} (hk : CK P f (#[v] ++ args) w KW) : Cl P (callM (.iface t v) name args) w KW := by
  have hok := h.ok
  unfold tmethB at hok
  split at hok
  · rename_i i e hi hu
    split at hok
    · rename_i m hm
      simp only [Bool.and_eq_true] at hok
      obtain ⟨hp, hf⟩ := hok
      split at hf
      · rename_i g hg
        have hg' := Nat.eq_of_beq_eq_true hf
        subst hg'
        have hpath : m.path.toList = [] := by
          have : m.path = #[] := Array.isEmpty_iff.1 hp
          rw [this]
        have hmeth : ∀ n, (method (n + 1) t v name).run P w = .ok (g, v) w := by
          intro n
          simp [method, run_info hi, hm, hpath, follow, hg, receiverAt, run_und hu, Place.get]
        refine .mk g (#[v] ++ args) ?_ hk
        have hd : P.types.size + Made.depth = (P.types.size + Made.depth - 1) + 1 := by
          have : 0 < Made.depth := by decide
          omega
        have h0 : (#[Value.iface t v] ++ args)[0]? = some (.iface t v) := by simp [Array.getElem?_append]
        have h1 : (#[Value.iface t v] ++ args).extract 1 (#[Value.iface t v] ++ args).size = args := by simp
        simp only [callM, invoke, h0, h1, callMethod]
        have hm2 := hmeth (P.types.size + Made.depth - 1)
        rw [← hd] at hm2
        show (Sem.bind program fun p => Sem.bind (method (p.types.size + Made.depth) t v name) fun x => callFunc x.1 (#[x.2] ++ args)).run P w = _
        rw [Sem.run_bind']
        show ((method (P.types.size + Made.depth) t v name).bind fun x => callFunc x.1 (#[x.2] ++ args)).run P w = _
        rw [Sem.run_bind', hm2]
        exact run_callFunc g _ w
      · cases hf
    · cases hok
  · cases hok

end Go.Proofs.YtmmpogfbhelioaaGreat
/-
  Rules for numbers in place: a slice whose elements are read, and written over.
  Conditions: elements of one cell; no frozen block.
-/
namespace Go.Proofs.YtmmpogfbhelioaaGreat
set_option maxRecDepth 10000
set_option linter.unusedVariables false
set_option linter.unusedSimpArgs false
set_option linter.unusedVariables false
variable {P : Program} {w : World} {S : World → Prop} {te : Nat} {v : Value} {xs : List Int}

/-- The address of a slice's element. -/
def ea : Value → Nat → Value
  | .slice (some ⟨b, o, _⟩) _ _, j => .pointer (some ⟨b, o + j, none⟩)
  | v, _ => v
/-- The block of a slice. -/
def sb : Value → Nat → Prop
  | .slice (some a) _ _, x => a.block = x
  | _, _ => False

/-- Slice v's elements are the numbers xs; they may be written over. -/
def Nm (te : Nat) (v : Value) (xs : List Int) (w : World) : Prop :=
  ∃ a c, v = .slice a xs.length c ∧ xs.length ≤ maxLen ∧ xs.length ≤ c ∧ (xs = [] ∨ ∃ b o cs, a = some ⟨b, o, none⟩ ∧ Bk w b (.cells cs te (0, 0)) ∧ o + xs.length ≤ cs.size ∧ (cs.toList.drop o).take xs.length = xs.map fun x => Value.int .u64 x)

theorem Nm.ex {w' : World} (u : Ex w w') (h : Nm te v xs w) : Nm te v xs w' := by
  obtain ⟨a, c, rfl, hm, hc, h⟩ := h
  refine ⟨a, c, rfl, hm, hc, ?_⟩
  rcases h with h | ⟨b, o, cs, rfl, hb, h1, h2⟩
  · exact .inl h
  · exact .inr ⟨b, o, cs, rfl, u.at_ hb, h1, h2⟩
theorem Nm.up {C : Nat → Prop} {T : List Nat} {w' : World} (u : Up C T w w') (h : Nm te v xs w) (hT : T.contains (te + 2) = false ∨ ∀ b, sb v b → ¬ C b) : Nm te v xs w' := by
  obtain ⟨a, c, rfl, hm, hc, h⟩ := h
  refine ⟨a, c, rfl, hm, hc, ?_⟩
  rcases h with h | ⟨b, o, cs, rfl, hb, h1, h2⟩
  · exact .inl h
  · refine .inr ⟨b, o, cs, rfl, ?_, h1, h2⟩
    rcases hT with hT | hT
    · exact u.at_ hb hT
    · exact u.off hb (hT b rfl)
theorem Nm.sh (h : Nm te v xs w) : ∃ a c, v = .slice a xs.length c := by
  obtain ⟨a, c, h, _⟩ := h; exact ⟨a, c, h⟩
theorem flat_nums : ∀ l : List Int, (nums l).flatten = l.map fun x => Value.int .u64 x
  | [] => rfl
  | x :: r => by
    have := flat_nums r
    unfold nums at *
    simp only [List.map_cons, List.flatten_cons, this]; rfl
theorem Nm.sl (h : Nm te v xs w) : Sl w (some te) 1 v (nums xs) := by
  obtain ⟨a, c, rfl, hm, hc, h⟩ := h
  rcases h with rfl | ⟨b, o, cs, rfl, hb, h1, h2⟩
  · exact .nil _ _
  · have hl : (nums xs).length = xs.length := by simp [nums]
    have := Sl.row (w := w) (te := some te) (n := 1) b o c cs te (0, 0) (nums xs) hb (by omega) (by omega) (by omega) (by rw [hl, Nat.mul_one, h2, flat_nums]) (by intro x hx; simp [nums] at hx; obtain ⟨y, _, rfl⟩ := hx; rfl) (fun t ht => by cases ht; rfl)
    rw [hl] at this; exact this
theorem Own.nm {base : Nat} (h : Own w base te 1 v (nums xs)) : Nm te v xs w := by
  obtain ⟨⟨hl, hx⟩, hn⟩ := h
  have hlen : (nums xs).length = xs.length := by simp [nums]
  rcases hx with ⟨rfl, h0⟩ | ⟨g, cap, cur, rfl, _, hg, hnc, hmx, hcs, htake⟩
  · have : xs = [] := List.eq_nil_of_length_eq_zero (hlen ▸ h0)
    subst this
    exact ⟨none, 0, rfl, Nat.zero_le _, Nat.le_refl _, .inl rfl⟩
  · rw [hlen] at hnc ⊢
    have hcs' : xs.length ≤ cur.size := by omega
    refine ⟨_, cap, rfl, by omega, hnc, .inr ⟨g, 0, cur, rfl, hg, by omega, ?_⟩⟩
    rw [flat_nums] at htake
    simpa [hlen] using htake

theorem q_ixN {t e : Nat} [TSli P t e 1] {K : Value → Prop} {i : Int} {k : IntKind} (j : Nat) (h : Nm te v xs w) (hi : i = j) (hj : j < xs.length) (kk : K (ea v j)) : Qu P S (Instr.indexAt t v (.int k i)) K := by
  obtain ⟨a, c, rfl, hm, hc, h⟩ := h
  rcases h with rfl | ⟨b, o, cs, rfl, hb, h1, h2⟩
  · exact absurd hj (Nat.not_lt_zero _)
  · refine .mk _ (fun w' _ => run_indexAt hi hj) ?_
    rw [Nat.mul_one]; exact kk
theorem q_nilN {K : Value → Prop} {j : Nat} (h : Nm te v xs w) (hj : j < xs.length) (kk : K (ea v j)) : Qu P S (nilS (ea v j)) K := by
  obtain ⟨a, c, rfl, hm, hc, h⟩ := h
  rcases h with rfl | ⟨b, o, cs, rfl, hb, h1, h2⟩
  · exact absurd hj (Nat.not_lt_zero _)
  · exact q_nil kk
theorem q_ldN {t : Nat} [TCell P t] {K : Value → Prop} {j : Nat} {x : Int} (h : ∀ w, S w → Nm te v xs w) (hx : xs[j]? = some x) (kk : K (.int .u64 x)) : Qu P S (Instr.loadAt t (ea v j)) K := by
  refine .mk _ (fun w' hw => ?_) kk
  have hj : j < xs.length := (List.getElem?_eq_some_iff.1 hx).1
  obtain ⟨a, c, rfl, hm, hc, h⟩ := h w' hw
  rcases h with rfl | ⟨b, o, cs, rfl, hb, h1, h2⟩
  · exact absurd hj (Nat.not_lt_zero _)
  · simp only [Instr.loadAt, Instr.sureAddr, ea]
    refine run_loadVar_cell ?_
    rw [hb.cell]
    have h3 : ((cs.toList.drop o).take xs.length)[j]? = some (Value.int .u64 x) := by rw [h2, List.getElem?_map, hx]; rfl
    rw [List.getElem?_take, if_pos hj, List.getElem?_drop] at h3
    rw [← Array.getElem?_toList]; exact h3
theorem set_map (l : List Int) (j : Nat) (y : Int) (f : Int → Value) : (l.map f).set j (f y) = (l.set j y).map f := by
  induction l generalizing j with
  | nil => rfl
  | cons x r ih =>
    cases j with
    | zero => rfl
    | succ j => simp only [List.map_cons, List.set_cons_succ, ih j]
theorem u_stN {KU : World → Prop} {t : Nat} [TCell P t] {j : Nat} {y : Int} (h : Nm te v xs w) (hj : j < xs.length)
    (k : ∀ w', Up (sb v) [te + 2] w w' → Nm te v (xs.set j y) w' → w'.heap.size = w.heap.size → KU w') : Eu P (Instr.storeAt t (ea v j) (.int .u64 y)) w KU := by
  obtain ⟨a, c, rfl, hm, hc, h⟩ := h
  rcases h with rfl | ⟨b, o, cs, rfl, hb, h1, h2⟩
  · exact absurd hj (Nat.not_lt_zero _)
  · refine u_st hb (by omega) rfl rfl fun w' u hb' z => k w' (u.mono (fun x _ hx => hx.symm) fun _ h => h) ⟨some ⟨b, o, none⟩, c, by simp, by simpa using hm, by simpa using hc, .inr ⟨b, o, _, rfl, hb', by simpa using h1, ?_⟩⟩ z
    have h3 : ((cs.setIfInBounds (o + j) (.int .u64 y)).toList.drop o).take xs.length = ((cs.toList.drop o).take xs.length).set j (.int .u64 y) := by
      rw [Array.toList_setIfInBounds]
      apply List.ext_getElem?
      intro i
      simp only [List.getElem?_take, List.getElem?_drop, List.getElem?_set, List.length_take, List.length_drop, List.length_set]
      by_cases hi : i < xs.length
      · by_cases hij : j = i
        · subst hij
          have h5 : o + j < cs.size := by omega
          have h6 : j < cs.size - o := by omega
          have h7 : j < min xs.length (cs.size - o) := by omega
          simp [hi, h5, h6, h7]
        · have : o + j ≠ o + i := by omega
          simp [hi, hij, this]
      · have : j ≠ i := by omega
        simp [hi, this]
    simp only [List.length_set, h3, h2]
    exact set_map xs j y _

/-- Two elements change places. -/
theorem perm_swap {xs : List Int} {i j : Nat} {a b : Int} (ha : xs[i]? = some a) (hb : xs[j]? = some b) : ((xs.set i b).set j a).Perm xs := by
  have hi : i < xs.length := (List.getElem?_eq_some_iff.1 ha).1
  have hj : j < xs.length := (List.getElem?_eq_some_iff.1 hb).1
  rw [List.perm_iff_count]
  intro x
  by_cases hij : i = j
  · subst hij
    rw [ha] at hb
    cases hb
    have he := (List.getElem?_eq_some_iff.1 ha).2
    rw [List.set_set, ← he, List.set_getElem_self]
  · have h1 : (xs.set i b)[j]? = some b := by rw [List.getElem?_set_ne hij]; exact hb
    have hj' : j < (xs.set i b).length := by simpa using hj
    have ea := List.getElem_of_getElem? ha
    have eb := List.getElem_of_getElem? hb
    have eb' := List.getElem_of_getElem? h1
    rw [List.count_set hj', List.count_set hi]
    obtain ⟨_, ea⟩ := ea
    obtain ⟨_, eb⟩ := eb
    obtain ⟨_, eb'⟩ := eb'
    rw [ea, eb']
    have hm : ∀ y, xs[i]? = some y → (y == x) = true → 1 ≤ List.count x xs := by
      intro y hy hyx
      have := beq_iff_eq.1 hyx
      subst this
      exact List.count_pos_iff.2 (List.mem_of_getElem? hy)
    by_cases h1 : (a == x) = true <;> by_cases h2 : (b == x) = true <;> simp [h1, h2]
    · have := hm a ha h1
      omega
    · have := hm a ha h1
      omega

end Go.Proofs.YtmmpogfbhelioaaGreat
/-
  Contracts: the storage's indices and terms; the log over it.
  Conditions: each one's own.
-/
namespace Go.Proofs.YtmmpogfbhelioaaGreat
set_option maxRecDepth 10000
set_option linter.unusedVariables false
set_option linter.unusedSimpArgs false
set_option linter.unusedVariables false
set_option linter.unusedSimpArgs false
attribute [local irreducible] Instr.box Instr.alloc Instr.loadAt Instr.storeAt Instr.fieldAt Instr.indexAt Instr.build Instr.buildSlice Instr.makeSlice Instr.makeMap Instr.mapUpdate Instr.lookup Instr.range Instr.next Instr.entry Instr.extract Instr.makeInterface Instr.makeFunc Instr.sliceAt Instr.typeAssert Instr.field Instr.index Builtin.len_ Builtin.cap_ Builtin.max_ Builtin.min_ Builtin.append_ Builtin.copy_ Builtin.delete_ convert binS pickS nilS callV callM Op.unary Own Mp It Cu


variable {K : Value → World → Prop} {w : World} {te : Option Nat}

/-- A storage whose entries lie in a block below lim. -/
def MSl (base lim b : Nat) (s : Sn) (es : List En) (w : World) : Prop :=
  ∃ vs ve ps c1 c2 c3 c4 c5 c6, Bk w b (.cells #[.pointer none, vs, ve, .int .i64 c1, .int .i64 c2, .int .i64 c3, .int .i64 c4, .int .i64 c5, .int .i64 c6] 225 (0, 0)) ∧ PS vs s w ∧ base ≤ w.heap.size ∧ Own w base 212 1 ve (ones ps) ∧ PEs ps es w ∧ ∀ x, ve.ownBlock = some x → x < lim

theorem MSl.ms {base lim b : Nat} {s : Sn} {es : List En} (h : MSl base lim b s es w) : MS base b s es w := by
  obtain ⟨vs, ve, ps, c1, c2, c3, c4, c5, c6, h1, h2, h3, h4, h5, h6⟩ := h
  exact ⟨vs, ve, ps, c1, c2, c3, c4, c5, c6, h1, h2, h3, h4, h5⟩
theorem MS.lim {base b : Nat} {s : Sn} {es : List En} (h : MS base b s es w) : MSl base w.heap.size b s es w := by
  obtain ⟨vs, ve, ps, c1, c2, c3, c4, c5, c6, h1, h2, h3, h4, h5⟩ := h
  exact ⟨vs, ve, ps, c1, c2, c3, c4, c5, c6, h1, h2, h3, h4, h5, fun x hx => (h4.lt x hx).2⟩
theorem MSl.up {base lim b : Nat} {s : Sn} {es : List En} {C : Nat → Prop} {T : List Nat} {w' : World} (o : okT T = true) (u : Up C T w w') (hb : T.contains 227 = false ∨ ¬ C b) (hv : T.contains 214 = false ∨ ∀ x, base ≤ x → x < lim → ¬ C x) (h : MSl base lim b s es w) : MSl base lim b s es w' := by
  obtain ⟨vs, ve, ps, c1, c2, c3, c4, c5, c6, h1, h2, h3, h4, h5, h6⟩ := h
  refine ⟨vs, ve, ps, c1, c2, c3, c4, c5, c6, ?_, h2.mt o u, by have := u.size; omega, h4.up u fun x hx => hv.imp id fun hv => hv x (h4.lt x hx).1 (h6 x hx), h5.mt o u, h6⟩
  rcases hb with hb | hb
  · exact u.at_ h1 hb
  · exact u.off h1 hb
theorem MSl.ex {base lim b : Nat} {s : Sn} {es : List En} {w' : World} (u : Ex w w') (h : MSl base lim b s es w) : MSl base lim b s es w' := h.up rfl u (.inr id) (.inr fun _ _ _ => id)
/-- The block itself was stored to: a counter. -/
theorem MSl.cnt {base lim b : Nat} {s : Sn} {es : List En} {w' : World} (u : Up (fun x => x = b) [227] w w') {vs ve : Value} {ps : List Value} {c1 c2 c3 c4 c5 c6 : Int}
    (hb : Bk w' b (.cells #[.pointer none, vs, ve, .int .i64 c1, .int .i64 c2, .int .i64 c3, .int .i64 c4, .int .i64 c5, .int .i64 c6] 225 (0, 0))) (h2 : PS vs s w) (h3 : base ≤ w.heap.size) (h4 : Own w base 212 1 ve (ones ps)) (h5 : PEs ps es w) (h6 : ∀ x, ve.ownBlock = some x → x < lim) : MSl base lim b s es w' :=
  ⟨vs, ve, ps, c1, c2, c3, c4, c5, c6, hb, h2.mt rfl u, by have := u.size; omega, h4.up u fun _ _ => .inl rfl, h5.mt rfl u, h6⟩

instance tmeth121FirstIndex : TMeth Pr 121 "FirstIndex" 351 := ⟨by kernel_rfl⟩
instance tmeth121LastIndex : TMeth Pr 121 "LastIndex" 352 := ⟨by kernel_rfl⟩
instance tmeth121Term : TMeth Pr 121 "Term" 354 := ⟨by kernel_rfl⟩

theorem k351 {base lim b : Nat} {s : Sn} {e : En} {es : List En} (hm : MSl base lim b s (e :: es) w) (hi : 0 ≤ e.i ∧ e.i ≤ 1000000000000000)
    (h : ∀ w', Up (fun x => x = b) [227] w w' → w'.heap.size = w.heap.size → MSl base lim b s (e :: es) w' → K (.tuple #[.int .u64 (e.i + 1), .nilIface]) w') : CK Pr 351 #[.pointer (some ⟨b, 0, none⟩)] w K := by
  refine c351 ?_
  unfold t351
  obtain ⟨vs, ve, ps, c1, c2, c3, c4, c5, c6, h1, h2, h3, h4, h5, h6⟩ := hm
  (repeat (first | (refine go ?_; intros) | (refine gon ?_; intros)))
  rename_i w1 u1 hb1 z1
  have hm1 : MSl base lim b s (e :: es) w1 := MSl.cnt u1 hb1 h2 h3 h4 h5 h6
  exact cl_fn (k123 hm1.ms hi (h w1 u1 z1 hm1))

theorem k355 {base lim b : Nat} {s : Sn} {e : En} {es : List En} (hm : MSl base lim b s (e :: es) w) (hi : 0 ≤ e.i ∧ e.i ≤ 1000000000000000) (hl : es.length ≤ 100000)
    (h : ∀ w', Ex w w' → w'.heap.size = w.heap.size → K (.int .u64 (e.i + es.length)) w') : CK Pr 355 #[.pointer (some ⟨b, 0, none⟩)] w K := by
  refine c355 ?_
  unfold t355
  refine dr_rule No [] fun w1 x1 z1 => ?_
  obtain ⟨vs, ve, ps, c1, c2, c3, c4, c5, c6, h1, h2, h3, h4, h5, h6⟩ := hm.ex x1
  have hl5 := h5.len
  cases h5 with
  | cons hp hr =>
    (repeat (first | (refine go ?_; intros) | (refine gon ?_; intros)))
    refine q_ixsE 0 h4.sl rfl rfl fun _ => ?_
    refine cl_fn (k124 hp ⟨.refl _ _ _, ?_⟩)
    (repeat (first | (refine go ?_; intros) | (refine gon ?_; intros)))
    refine q_lenSl h4.sl ?_
    rw [show (ones (_ :: _)).length = es.length + 1 by simpa [ones] using hl5]
    (repeat (first | (refine go ?_; intros) | (refine gon ?_; intros)))
    rw [wrapU (n := ((es.length + 1 : Nat) : Int)) (by omega) (by omega), wrapU (n := e.i + ((es.length + 1 : Nat) : Int)) (by omega) (by omega), wrapU (by omega) (by omega), show e.i + ((es.length + 1 : Nat) : Int) - 1 = e.i + es.length by omega]
    exact h _ x1 z1

theorem k352 {base lim b : Nat} {s : Sn} {e : En} {es : List En} (hm : MSl base lim b s (e :: es) w) (hi : 0 ≤ e.i ∧ e.i ≤ 1000000000000000) (hl : es.length ≤ 100000)
    (h : ∀ w', Up (fun x => x = b) [227] w w' → w'.heap.size = w.heap.size → MSl base lim b s (e :: es) w' → K (.tuple #[.int .u64 (e.i + es.length), .nilIface]) w') : CK Pr 352 #[.pointer (some ⟨b, 0, none⟩)] w K := by
  refine c352 ?_
  unfold t352
  obtain ⟨vs, ve, ps, c1, c2, c3, c4, c5, c6, h1, h2, h3, h4, h5, h6⟩ := hm
  (repeat (first | (refine go ?_; intros) | (refine gon ?_; intros)))
  rename_i w1 u1 hb1 z1
  have hm1 : MSl base lim b s (e :: es) w1 := MSl.cnt u1 hb1 h2 h3 h4 h5 h6
  exact cl_fn (k355 hm1 hi hl fun w2 x2 z2 => h w2 (u1.ex x2) (by omega) (hm1.ex x2))

theorem k354 {base lim b : Nat} {s : Sn} {e : En} {es : List En} {i : Int} {j : Nat} {x : En} (hm : MSl base lim b s (e :: es) w) (hi : 0 ≤ e.i ∧ e.i ≤ 1000000000000000) (hl : es.length ≤ 100000) (hij : i = e.i + j) (hx : (e :: es)[j]? = some x)
    (h : ∀ w', Up (fun x => x = b) [227] w w' → w'.heap.size = w.heap.size → MSl base lim b s (e :: es) w' → K (.tuple #[.int .u64 x.t, .nilIface]) w') : CK Pr 354 #[.pointer (some ⟨b, 0, none⟩), .int .u64 i] w K := by
  refine c354 ?_
  unfold t354
  obtain ⟨vs, ve, ps, c1, c2, c3, c4, c5, c6, h1, h2, h3, h4, h5, h6⟩ := hm
  have hj : j < es.length + 1 := by simpa using (List.getElem?_eq_some_iff.1 hx).1
  (repeat (first | (refine go ?_; intros) | (refine gon ?_; intros)))
  rename_i w1 u1 hb1 z1
  have hm1 : MSl base lim b s (e :: es) w1 := MSl.cnt u1 hb1 h2 h3 h4 h5 h6
  have h4' : Own w1 base 212 1 ve (ones ps) := h4.up u1 fun _ _ => .inl rfl
  have h5' : PEs ps (e :: es) w1 := h5.mt rfl u1
  have hlen := h5'.len
  have hx' := h5'
  obtain ⟨v, hv⟩ : ∃ v, ps[j]? = some v := by
    have : j < ps.length := by rw [hlen]; simpa using hj
    exact ⟨ps[j], by simp [this]⟩
  obtain ⟨x', hxe, hxp⟩ := h5'.get hv
  rw [hx] at hxe
  cases hxe
  obtain ⟨p0, hp0⟩ : ∃ v, ps[0]? = some v := by
    have : 0 < ps.length := by rw [hlen]; simp
    exact ⟨ps[0], by simp [this]⟩
  obtain ⟨x0, hx0, hp00⟩ := h5'.get hp0
  cases hx0
  refine q_ixs (x := p0) 0 h4'.sl rfl (by simp [ones, hp0]) fun _ => ?_
  refine cl_fn (k124 hp00 ?_)
  (repeat (first | (refine go ?_; intros) | (refine gon ?_; intros)))
  refine if_split (fun hb => ?_) (fun hb => ?_)
  · have := of_decide_eq_true hb
    omega
  (repeat (first | (refine go ?_; intros) | (refine gon ?_; intros)))
  refine q_lenSl h4'.sl ?_
  rw [show (ones ps).length = es.length + 1 by simpa [ones] using hlen]
  have e1 : IntKind.u64.wrap (i - e.i) = (j : Int) := by rw [wrapU (by omega) (by omega)]; omega
  (repeat (first | (refine go ?_; intros) | (refine gon ?_; intros)))
  rw [e1, wrap64 (by omega) (by omega)]
  refine if_split (fun hb => ?_) (fun hb => ?_)
  · have := of_decide_eq_true hb
    omega
  (repeat (first | (refine go ?_; intros) | (refine gon ?_; intros)))
  rw [e1]
  refine q_ixs (x := v) j h4'.sl rfl (by simp [ones, hv]) fun _ => ?_
  exact cl_fn (k128 hxp (h w1 u1 z1 hm1))

end Go.Proofs.YtmmpogfbhelioaaGreat
/-
  Contracts: the log over the storage.
  Conditions: each one's own.
-/
namespace Go.Proofs.YtmmpogfbhelioaaGreat
set_option maxRecDepth 10000
set_option linter.unusedVariables false
set_option linter.unusedSimpArgs false
theorem nmK11 {p : Prop} (h : p := by (try simp only [List.getElem?_toArray, List.getElem?_cons_zero, List.getElem?_cons_succ, List.setIfInBounds_toArray, List.set_cons_zero, List.set_cons_succ, List.toList_toArray, List.drop_zero, List.drop_succ_cons, List.take_zero, List.take_succ_cons, Nat.zero_add, Nat.add_zero, Nat.reduceAdd, putCells, Lg.cells]) <;> rfl) : p := h
theorem goK11 {G H : Prop} (h : H) (s : Stp G H := by (apply Stp.of; intro hS; (first | (refine q_ld bk_ nmK11 ?_) | (refine q_ldU bk_ rfl nmK11 ?_) | (refine q_ldW bk_ (by rfl) ?_) | (refine q_ldWU bk_ rfl (by rfl) ?_) | (refine q_ldP bk_ (Nat.le_of_ble_eq_true rfl) nmK11 ?_) | (refine q_ldPU bk_ rfl (Nat.le_of_ble_eq_true rfl) nmK11 ?_) | (refine q_ext nmK11 ?_) | (refine u_st bk_ (Nat.le_of_ble_eq_true rfl) (by first | rfl | assumption) nmK11 ?_) | (refine u_stA bk_ (Nat.le_of_ble_eq_true rfl) (by rfl) (by rfl) nmK11 ?_) | (refine q_field nmK11 ?_)); exact hS.out)) : G := s.f h
set_option linter.unusedVariables false
set_option linter.unusedSimpArgs false
attribute [local irreducible] Instr.box Instr.alloc Instr.loadAt Instr.storeAt Instr.fieldAt Instr.indexAt Instr.build Instr.buildSlice Instr.makeSlice Instr.makeMap Instr.mapUpdate Instr.lookup Instr.range Instr.next Instr.entry Instr.extract Instr.makeInterface Instr.makeFunc Instr.sliceAt Instr.typeAssert Instr.field Instr.index Builtin.len_ Builtin.cap_ Builtin.max_ Builtin.min_ Builtin.append_ Builtin.copy_ Builtin.delete_ convert binS pickS nilS callV callM Op.unary Own Mp It Cu


variable {K : Value → World → Prop} {w : World} {te : Option Nat}

/-- A log as plain data: the storage's block, its snapshot and entries (with the one ahead of them), the snapshot and the entries that are not stable, and the marks. -/
structure Lg where
  sb : Nat
  s : Sn
  es : List En
  us : Option Sn
  un : List En
  off : Int
  sip : Bool
  oip : Int
  cm : Int
  ag : Int
  ap : Int
  mx : Int

def US (v : Value) : Option Sn → World → Prop
  | none, _ => v = .pointer none
  | some s, w => PS v s w
theorem US.mt {v : Value} {o : Option Sn} {C : Nat → Prop} {T : List Nat} {w' : World} (ok : okT T = true) (u : Up C T w w') (h : US v o w) : US v o w' := by
  cases o with
  | none => exact h
  | some s => exact PS.mt ok u h
theorem US.ex {v : Value} {o : Option Sn} {w' : World} (u : Ex w w') (h : US v o w) : US v o w' := h.mt rfl u
theorem US.one {v : Value} {o : Option Sn} (h : US v o w) : one v = true := by
  cases o with
  | none => cases h; rfl
  | some s => exact PS.one h
theorem US.sh {v : Value} {o : Option Sn} (h : US v o w) : ∃ a, v = .pointer a ∧ a.isNone = o.isNone := by
  cases o with
  | none => cases h; exact ⟨_, rfl, rfl⟩
  | some s =>
    obtain ⟨b, _, _, rfl, _⟩ := h
    exact ⟨_, rfl, rfl⟩

def Lg.cells (L : Lg) (vs ve : Value) : Array Value :=
  #[.iface 121 (.pointer (some ⟨L.sb, 0, none⟩)), vs, ve, .int .u64 L.off, .bool L.sip, .int .u64 L.oip, .int .u64 L.cm, .int .u64 L.ag, .int .u64 L.ap, .int .u64 L.mx, .int .u64 0, .bool false]

def LG (base lb : Nat) (L : Lg) (w : World) : Prop :=
  ∃ lim vs ve ps, Bk w lb (.cells (L.cells vs ve) 196 (0, 0)) ∧ MSl base lim L.sb L.s L.es w ∧ base ≤ lim ∧ lim ≤ w.heap.size ∧ US vs L.us w ∧ Own w lim 212 1 ve (ones ps) ∧ PEs ps L.un w ∧ base ≤ lb ∧ base ≤ L.sb ∧ L.sb < w.heap.size

structure Lg.Ok (L : Lg) : Prop where
  ne : ∃ e r, L.es = e :: r ∧ 0 ≤ e.i ∧ e.i ≤ 1000000000000000
  len : L.es.length ≤ 100000
  off : 0 ≤ L.off ∧ L.off ≤ 1000000000000000
  un : L.un.length ≤ 100000
  us : ∀ s, L.us = some s → 0 ≤ s.i ∧ s.i ≤ 1000000000000000

/-- The last index. -/
def Lg.last (L : Lg) : Int :=
  match L.un with
  | _ :: _ => L.off + L.un.length - 1
  | [] => match L.us, L.es with
    | some s, _ => s.i
    | none, e :: r => e.i + r.length
    | none, [] => 0
theorem Lg.Ok.last {L : Lg} (h : L.Ok) : 0 ≤ L.last + 1 ∧ L.last ≤ 1000000000200000 := by
  obtain ⟨⟨e, r, h1, h2, h3⟩, h4, h5, h6, h7⟩ := h
  unfold Lg.last
  cases hu : L.un with
  | cons x l => simp only; rw [hu] at h6; simp at h6 ⊢; omega
  | nil =>
    cases hs : L.us with
    | some s => simp only; have := h7 s hs; omega
    | none => rw [h1] at h4 ⊢; simp only [List.length_cons] at h4 ⊢; omega

theorem LG.up {base lb : Nat} {L : Lg} {C : Nat → Prop} {T : List Nat} {w' : World} (o : okT T = true) (u : Up C T w w') (hb : T.contains 198 = false ∨ ¬ C lb) (hs : T.contains 227 = false ∨ ¬ C L.sb) (hv : T.contains 214 = false ∨ ∀ x, base ≤ x → x < w.heap.size → ¬ C x) (h : LG base lb L w) : LG base lb L w' := by
  obtain ⟨lim, vs, ve, ps, h1, h2, h3, h4, h5, h6, h7, h8, h9, h10⟩ := h
  have z := u.size
  refine ⟨lim, vs, ve, ps, ?_, h2.up o u hs (hv.imp id fun hv x h1 h2 => hv x h1 (by omega)), h3, by omega, h5.mt o u, h6.up u fun x hx => hv.imp id fun hv => hv x (by have := (h6.lt x hx).1; omega) (h6.lt x hx).2, h7.mt o u, h8, h9, by omega⟩
  rcases hb with hb | hb
  · exact u.at_ h1 hb
  · exact u.off h1 hb
theorem LG.ex {base lb : Nat} {L : Lg} {w' : World} (u : Ex w w') (h : LG base lb L w) : LG base lb L w' := h.up rfl u (.inr id) (.inr id) (.inr fun _ _ _ => id)
/-- The log stands where neither it nor its storage nor lists of entries turn. -/
theorem LG.mt {base lb : Nat} {L : Lg} {C : Nat → Prop} {T : List Nat} {w' : World} (o : okT T = true) (h1 : T.contains 198 = false) (h2 : T.contains 227 = false) (h3 : T.contains 214 = false) (u : Up C T w w') (h : LG base lb L w) : LG base lb L w' := h.up o u (.inl h1) (.inl h2) (.inl h3)
/-- The storage's counters turned. -/
theorem LG.sto {base lb : Nat} {L : Lg} {w' : World} (u : Up (fun x => x = L.sb) [227] w w') (h : LG base lb L w) (hm : ∀ lim, MSl base lim L.sb L.s L.es w → MSl base lim L.sb L.s L.es w') : LG base lb L w' := by
  obtain ⟨lim, vs, ve, ps, h1, h2, h3, h4, h5, h6, h7, h8, h9, h10⟩ := h
  have z := u.size
  exact ⟨lim, vs, ve, ps, u.at_ h1 rfl, hm _ h2, h3, by omega, h5.mt rfl u, h6.up u fun _ _ => .inl rfl, h7.mt rfl u, h8, h9, by omega⟩

instance tfn351 : TFn Pr 351 := ⟨by kernel_rfl⟩
instance tfn352 : TFn Pr 352 := ⟨by kernel_rfl⟩
instance tfn354 : TFn Pr 354 := ⟨by kernel_rfl⟩

theorem k125 {base b : Nat} {s : Sn} {e : En} {es : List En} {n : Int} (hm : MS base b s (e :: es) w) (hb : base ≤ b) (hi : 0 ≤ e.i ∧ e.i ≤ 1000000000000000) (hl : es.length ≤ 100000) (hsz : b < w.heap.size)
    (h : ∀ lb w', Up (fun x => x = b) [227] w w' → w.heap.size ≤ lb → LG base lb ⟨b, s, e :: es, none, [], e.i + es.length + 1, false, e.i + es.length + 1, e.i, e.i, e.i, n⟩ w' → K (.pointer (some ⟨lb, 0, none⟩)) w') : CK Pr 125 #[.iface 121 (.pointer (some ⟨b, 0, none⟩)), .int .u64 n] w K := by
  refine c125 ?_
  unfold t125
  have hbase := hm.lim
  refine cl_m (k351 hm.lim hi fun w1 u1 z1 m1 => ?_)
  (repeat (first | (refine go ?_; intros) | (refine goK11 ?_; intros)))
  refine cl_m (k352 m1 hi hl fun w2 u2 z2 m2 => ?_)
  (repeat (first | (refine go ?_; intros) | (refine goK11 ?_; intros)))
  rw [wrapU (n := e.i + es.length + 1) (by omega) (by omega)]
  (repeat (first | (refine go ?_; intros) | (refine goK11 ?_; intros) | refine b194_2_4 (by first | rfl | assumption) (by first | rfl | assumption) ?_))
  rw [wrapU (n := e.i + 1 - 1) (by omega) (by omega), show e.i + 1 - 1 = e.i by omega]
  (repeat (first | (refine go ?_; intros) | (refine goK11 ?_; intros) | refine b196_0_1_5_2_3_4 (by first | rfl | assumption) (by first | rfl | assumption) (by first | rfl | assumption) (by first | rfl | assumption) (by first | rfl | assumption) ?_))
  rename_i lb w3 e3 hb3 s3 s4
  obtain ⟨vs, ve, ps, c1, c2, c3, c4, c5, c6, q1, q2, q3, q4, q5, q6⟩ := m2.ex e3
  refine h lb w3 ((u1.trans u2).ex e3) (by omega) ⟨w.heap.size, _, _, [], hb3, m2.ex e3, ?_, by omega, rfl, Own.nil _ _ _ _, .nil _, ?_, hb, ?_⟩
  all_goals
    have := u1.size
    have := u2.size
    obtain ⟨_, _, _, _, _, _, _, _, _, qb, _, qs, _⟩ := hm
    have := qb.lt
    first | omega | (show b < _; omega)

theorem k72 {base b : Nat} {s : Sn} {e : En} {es : List En} {n : Int} (hm : MS base b s (e :: es) w) (hb : base ≤ b) (hi : 0 ≤ e.i ∧ e.i ≤ 1000000000000000) (hl : es.length ≤ 100000) (hsz : b < w.heap.size)
    (h : ∀ lb w', Up (fun x => x = b) [227] w w' → w.heap.size ≤ lb → LG base lb ⟨b, s, e :: es, none, [], e.i + es.length + 1, false, e.i + es.length + 1, e.i, e.i, e.i, n⟩ w' → K (.pointer (some ⟨lb, 0, none⟩)) w') : CK Pr 72 #[.iface 121 (.pointer (some ⟨b, 0, none⟩)), .int .u64 n] w K := by
  refine c72 ?_
  unfold t72
  exact cl_fn (k125 hm hb hi hl hsz h)

theorem k73 {base lb : Nat} {L : Lg} {v : Value} {qs : List Value} {l : List En} {c a : Int} {w0 : World} (hL : LG base lb L w0) (e : Ex w0 w) (hv : Own w w0.heap.size 212 1 v (ones qs)) (hq : PEs qs l w)
    (h : ∀ w', Up (fun x => x = lb) [198] w w' → w'.heap.size = w.heap.size → LG base lb { L with un := l, cm := c, ag := a, ap := a } w' → K (.tuple #[]) w') : CK Pr 73 #[.pointer (some ⟨lb, 0, none⟩), v, .int .u64 c, .int .u64 a] w K := by
  refine c73 ?_
  unfold t73
  obtain ⟨lim, vs, ve, ps, h1, m0, l3, h4, h5, h6, h7, h8, h9, h10⟩ := hL
  have zz := e.size
  have m2 := m0.ex e
  have ho := hv.mono h4
  have h1' : Bk w lb _ := e.at_ h1
  clear h1
  have o1 := ho.sl.one
  (repeat (first | (refine go ?_; intros) | (refine goK11 ?_; intros)))
  rename_i w1 u1 hb1 z1 w2 u2 hb2 z2 w3 u3 hb3 z3 w4 u4 hb4 z4
  have u : Up (fun x => x = lb) [198] w w4 := ((u1.trans u2).trans u3).trans u4
  refine h w4 u (by omega) ⟨lim, vs, v, qs, hb4, m2.up rfl u (.inl rfl) (.inl rfl), l3, by omega, (h5.ex e).mt rfl u, ho.up u fun _ _ => .inl rfl, hq.mt rfl u, h8, h9, by show L.sb < _; omega⟩

theorem k158 {base lb : Nat} {L : Lg} (hL : LG base lb L w) (hok : L.Ok)
    (h : K (.tuple #[.int .u64 (match L.un with | _ :: _ => L.last | [] => match L.us with | some s => s.i | none => 0), .bool (match L.un with | _ :: _ => true | [] => L.us.isSome)]) w) : CK Pr 158 #[.pointer (some ⟨lb, 1, none⟩)] w K := by
  refine c158 ?_
  unfold t158
  obtain ⟨lim, vs, ve, ps, h1, h2, h3, h4, h5, h6, h7, h8, h9, h10⟩ := hL
  have hl := h7.len
  (repeat (first | (refine go ?_; intros) | (refine goK11 ?_; intros)))
  refine q_lenSl h6.sl ?_
  rw [show (ones ps).length = L.un.length by simp [ones, hl]]
  obtain ⟨_, _, hoff, hun, _⟩ := hok
  cases hu : L.un with
  | cons x l =>
    rw [hu] at h hun
    (repeat (first | (refine go ?_; intros) | (refine goK11 ?_; intros)))
    have e1 : IntKind.u64.wrap (IntKind.u64.wrap (L.off + IntKind.u64.wrap ((x :: l).length : Nat)) - 1) = L.last := by
      simp only [Lg.last, hu]
      rw [wrapU (n := ((x :: l).length : Nat)) (by omega) (by omega), wrapU (n := L.off + ((x :: l).length : Nat)) (by omega) (by omega), wrapU (by simp; omega) (by omega)]
    rw [e1]
    exact h
  | nil =>
    rw [hu] at h
    (repeat (first | (refine go ?_; intros) | (refine goK11 ?_; intros)))
    cases hs : L.us with
    | none =>
      rw [hs] at h h5
      cases h5
      (repeat (first | (refine go ?_; intros) | (refine goK11 ?_; intros)))
      exact h
    | some s =>
      rw [hs] at h h5
      have h5' : PS vs s w := h5
      have h55 := h5'
      obtain ⟨b', _, _, rfl, _⟩ := h55
      (repeat (first | (refine go ?_; intros) | (refine goK11 ?_; intros)))
      refine cl_fn (k95 h5' fun vm hvm => ?_)
      refine cl_fn (k96 hvm ?_)
      exact h

theorem k104 {base lb : Nat} {L : Lg} (hL : LG base lb L w) (hok : L.Ok)
    (h : ∀ w', Up (fun x => x = L.sb) [227] w w' → w'.heap.size = w.heap.size → LG base lb L w' → K (.int .u64 L.last) w') : CK Pr 104 #[.pointer (some ⟨lb, 0, none⟩)] w K := by
  refine c104 ?_
  unfold t104
  (repeat (first | (refine go ?_; intros) | (refine goK11 ?_; intros)))
  refine cl_fn (k158 hL hok ?_)
  cases hu : L.un with
  | cons x l =>
    (repeat (first | (refine go ?_; intros) | (refine goK11 ?_; intros)))
    exact h w (.refl _ _ _) rfl hL
  | nil =>
    cases hs : L.us with
    | some s =>
      (repeat (first | (refine go ?_; intros) | (refine goK11 ?_; intros)))
      have := h w (.refl _ _ _) rfl hL
      simp only [Lg.last, hu, hs] at this
      exact this
    | none =>
      obtain ⟨⟨e, r, he, hi⟩, hlen, _, _, _⟩ := hok
      obtain ⟨lim, vs, ve, ps, h1, h2, h3, h4, h5, h6, h7, h8, h9, h10⟩ := hL
      (repeat (first | (refine go ?_; intros) | (refine goK11 ?_; intros)))
      have hlen' : r.length ≤ 100000 := by rw [he] at hlen; simp at hlen; omega
      refine cl_m (k352 (he ▸ h2) hi hlen' fun w1 u1 z1 m1 => ?_)
      (repeat (first | (refine go ?_; intros) | (refine goK11 ?_; intros)))
      have zz := u1.size
      have hL1 : LG base lb L w1 := ⟨lim, vs, ve, ps, u1.at_ h1 rfl, by rw [he]; exact m1, h3, by omega, h5.mt rfl u1, h6.up u1 fun _ _ => .inl rfl, h7.mt rfl u1, h8, h9, by omega⟩
      have := h w1 u1 z1 hL1
      simp only [Lg.last, hu, hs, he] at this
      exact this

theorem k77 {base lb : Nat} {L : Lg} (hL : LG base lb L w) (hok : L.Ok)
    (h : ∀ w', Up (fun x => x = L.sb) [227] w w' → w'.heap.size = w.heap.size → LG base lb L w' → K (.int .u64 L.last) w') : CK Pr 77 #[.pointer (some ⟨lb, 0, none⟩)] w K := by
  refine c77 ?_
  unfold t77
  exact cl_fn (k104 hL hok h)

theorem k85 {lb : Nat} (h : K (.pointer (some ⟨lb, 1, none⟩)) w) : CK Pr 85 #[.pointer (some ⟨lb, 0, none⟩)] w K := by
  refine c85 ?_
  unfold t85
  (repeat (first | (refine go ?_; intros) | (refine goK11 ?_; intros)))
  exact h

theorem k84 {base lb : Nat} {L : Lg} (hL : LG base lb L w)
    (h : ∀ vs ve ps w', Ex w w' → w'.heap.size = w.heap.size → US vs L.us w' → Sl w' (some 212) 1 ve (ones ps) → PEs ps L.un w' → K (.tuple #[vs, ve, .int .u64 L.off, .bool L.sip, .int .u64 L.oip]) w') : CK Pr 84 #[.pointer (some ⟨lb, 1, none⟩)] w K := by
  refine c84 ?_
  unfold t84
  obtain ⟨lim, vs, ve, ps, h1, h2, h3, h4, h5, h6, h7, h8, h9, h10⟩ := hL
  refine dr_rule No [] fun w1 x1 z1 => ?_
  have hb : Bk w1 lb _ := x1.at_ h1
  (repeat (first | (refine go ?_; intros) | (refine goK11 ?_; intros)))
  exact h vs ve ps w1 x1 z1 (h5.ex x1) (h6.ex x1).sl (h7.ex x1)

theorem k89 {base lb : Nat} {L : Lg} (hL : LG base lb L w)
    (h : ∀ w', Ex w w' → w'.heap.size = w.heap.size → K (.tuple #[.int .u64 L.cm, .int .u64 L.ag, .int .u64 L.ap, .bool false]) w') : CK Pr 89 #[.pointer (some ⟨lb, 0, none⟩)] w K := by
  refine c89 ?_
  unfold t89
  obtain ⟨lim, vs, ve, ps, h1, h2, h3, h4, h5, h6, h7, h8, h9, h10⟩ := hL
  refine dr_rule No [] fun w1 x1 z1 => ?_
  have hb : Bk w1 lb _ := x1.at_ h1
  (repeat (first | (refine go ?_; intros) | (refine goK11 ?_; intros)))
  exact h w1 x1 z1

end Go.Proofs.YtmmpogfbhelioaaGreat
/-
  Contracts: the tracker's parts; sets of members.
  Conditions: each one's own.
-/
namespace Go.Proofs.YtmmpogfbhelioaaGreat
set_option maxRecDepth 10000
set_option linter.unusedVariables false
set_option linter.unusedSimpArgs false
theorem nmK12 {p : Prop} (h : p := by (try simp only [List.getElem?_toArray, List.getElem?_cons_zero, List.getElem?_cons_succ, List.setIfInBounds_toArray, List.set_cons_zero, List.set_cons_succ, List.toList_toArray, List.drop_zero, List.drop_succ_cons, List.take_zero, List.take_succ_cons, Nat.zero_add, Nat.add_zero, Nat.reduceAdd, putCells, Pe.pcells]) <;> rfl) : p := h
theorem goK12 {G H : Prop} (h : H) (s : Stp G H := by (apply Stp.of; intro hS; (first | (refine q_ld bk_ nmK12 ?_) | (refine q_ldU bk_ rfl nmK12 ?_) | (refine q_ldW bk_ (by rfl) ?_) | (refine q_ldWU bk_ rfl (by rfl) ?_) | (refine q_ldP bk_ (Nat.le_of_ble_eq_true rfl) nmK12 ?_) | (refine q_ldPU bk_ rfl (Nat.le_of_ble_eq_true rfl) nmK12 ?_) | (refine q_ext nmK12 ?_) | (refine u_st bk_ (Nat.le_of_ble_eq_true rfl) (by first | rfl | assumption) nmK12 ?_) | (refine u_stA bk_ (Nat.le_of_ble_eq_true rfl) (by rfl) (by rfl) nmK12 ?_) | (refine q_field nmK12 ?_)); exact hS.out)) : G := s.f h
set_option linter.unusedVariables false
set_option linter.unusedSimpArgs false
attribute [local irreducible] Instr.box Instr.alloc Instr.loadAt Instr.storeAt Instr.fieldAt Instr.indexAt Instr.build Instr.buildSlice Instr.makeSlice Instr.makeMap Instr.mapUpdate Instr.lookup Instr.range Instr.next Instr.entry Instr.extract Instr.makeInterface Instr.makeFunc Instr.sliceAt Instr.typeAssert Instr.field Instr.index Builtin.len_ Builtin.cap_ Builtin.max_ Builtin.min_ Builtin.append_ Builtin.copy_ Builtin.delete_ convert binS pickS nilS callV callM Op.unary Own Mp It Cu


variable {K : Value → World → Prop} {w : World} {te : Option Nat}

/-- A set as a map. -/
def ms (l : List Int) : KV := l.map fun x => (x, .agg #[])
theorem put_ms {l : List Int} {x : Int} (h : x ∉ l) : put (ms l) x (.agg #[]) = ms (l ++ [x]) := by
  induction l with
  | nil => rfl
  | cons y r ih =>
    have h1 : y ≠ x := fun e => h (e ▸ List.mem_cons_self ..)
    simp only [ms, List.map_cons, put, if_neg h1, List.cons_append] at ih ⊢
    rw [ih (fun hx => h (List.mem_cons_of_mem _ hx))]
theorem lk_ms {l : List Int} {x : Int} : lk (ms l) x = if x ∈ l then some (.agg #[]) else none := by
  induction l with
  | nil => rfl
  | cons y r ih =>
    simp only [ms, List.map_cons, lk] at ih ⊢
    by_cases h : y = x
    · simp [h]
    · rw [if_neg h, ih]
      have : x ≠ y := fun e => h e.symm
      simp [List.mem_cons, this]

theorem notin_take {α : Type} : ∀ {l : List α} {j : Nat} {x : α}, l.Nodup → l[j]? = some x → x ∉ l.take j
  | [], j, x, _, h => by simp at h
  | y :: r, 0, x, _, _ => by simp
  | y :: r, j + 1, x, hn, h => by
    have hn' := List.nodup_cons.1 hn
    rw [List.take_succ_cons, List.mem_cons]
    rintro (rfl | h2)
    · exact hn'.1 (List.mem_of_getElem? (by simpa using h))
    · exact notin_take hn'.2 (by simpa using h) h2

theorem k75 {v : Value} {l : List Int} (hv : Nums w te v l) (hl : l.length ≤ 1000000) (hn : l.Nodup) (h : ∀ b w', Ex w w' → w.heap.size ≤ b → Mp w' b (ms l) → K (.map (some b)) w') : CK Pr 75 #[v] w K := by
  refine c75 ?_
  unfold t75
  refine e_mkmap (by intro v hv; cases hv) fun w1 e1 m1 s1 => ?_
  refine q_lenSl hv ?_
  rw [nums_len]
  refine loop_n (α := Nat) (fun j τ w' => g τ 1 = .int .i64 j ∧ j ≤ l.length ∧ Ex w w' ∧ Mp w' w.heap.size (ms (l.take j))) (fun j => l.length - j) 0 ⟨rfl, Nat.zero_le _, e1, by simpa [ms] using m1⟩ ?_
  intro j τ w' R ⟨hj, hle, hex, hm⟩ hR
  rw [hj]
  (repeat (first | (refine go ?_; intros) | (refine goK12 ?_; intros)))
  refine if_split (fun hb => ?_) (fun hb => ?_)
  · have hj' : j < l.length := by simpa using hb
    obtain ⟨x, hx⟩ : ∃ x, l[j]? = some x := ⟨_, List.getElem?_eq_getElem hj'⟩
    refine q_ixs (x := .int .u64 x) j (hv.ex hex) rfl (by simp [nums, hx]) fun _ => ?_
    (repeat (first | (refine go ?_; intros) | (refine goK12 ?_; intros) | refine b156_  ?_))
    refine u_put hm fun w2 u2 m2 z2 => ?_
    (repeat (first | (refine go ?_; intros) | (refine goK12 ?_; intros)))
    rw [wrapS (by omega)]
    have hnx : x ∉ l.take j := notin_take hn hx
    refine hR (j + 1) _ _ ⟨rfl, by omega, hex.new u2 (by intro b hb; subst hb; exact Nat.le_refl _), ?_⟩ (by omega)
    rw [take_snoc hx, ← put_ms hnx]
    exact m2
  · have hjl : j = l.length := by
      have : ¬ ((j : Int) < _) := of_decide_eq_false hb
      omega
    subst hjl
    refine h _ _ hex (Nat.le_refl _) ?_
    simpa using hm

/-- A map, or nil: the empty one. -/
def MpO (w : World) (o : Option Nat) (l : KV) : Prop := match o with | none => l = [] | some b => Mp w b l
theorem MpO.ex {w' : World} {o : Option Nat} {l : KV} (e : Ex w w') (h : MpO w o l) : MpO w' o l := by
  cases o with
  | none => exact h
  | some b => exact Mp.ex e h
theorem MpO.up {C : Nat → Prop} {T : List Nat} {w' : World} {o : Option Nat} {l : KV} (e : Up C T w w') (h : MpO w o l) (hc : T.contains 0 = false ∨ ∀ b, o = some b → ¬ C b) : MpO w' o l := by
  cases o with
  | none => exact h
  | some b => exact Mp.up e h (hc.imp id fun h => h b rfl)

theorem k76 {v : Value} {l : List Int} (hv : Nums w te v l) (hl : l.length ≤ 1000000) (hn : l.Nodup) (h : ∀ o w', Ex w w' → (∀ b, o = some b → w.heap.size ≤ b) → MpO w' o (ms l) → K (.map o) w') : CK Pr 76 #[v] w K := by
  refine c76 ?_
  unfold t76
  refine q_lenSl hv ?_
  rw [nums_len]
  by_cases h0 : l = []
  · subst h0
    (repeat (first | (refine go ?_; intros) | (refine goK12 ?_; intros)))
    exact h none w (.refl _ _ _) (by intro b hb; cases hb) rfl
  have hz : l.length ≠ 0 := fun e => h0 (List.eq_nil_of_length_eq_zero e)
  (repeat (first | (refine go ?_; intros) | (refine goK12 ?_; intros)))
  refine if_split (fun hb => absurd (by simpa using hb) h0) (fun _ => ?_)
  refine e_mkmap (by intro v hv; cases hv) fun w1 e1 m1 s1 => ?_
  refine q_lenSl (hv.ex e1) ?_
  rw [nums_len]
  refine loop_n (α := Nat) (fun j τ w' => g τ 1 = .int .i64 j ∧ j ≤ l.length ∧ Ex w w' ∧ Mp w' w.heap.size (ms (l.take j))) (fun j => l.length - j) 0 ⟨rfl, Nat.zero_le _, e1, by simpa [ms] using m1⟩ ?_
  intro j τ w' R ⟨hj, hle, hex, hm⟩ hR
  rw [hj]
  (repeat (first | (refine go ?_; intros) | (refine goK12 ?_; intros)))
  refine if_split (fun hb => ?_) (fun hb => ?_)
  · have hj' : j < l.length := by simpa using hb
    obtain ⟨x, hx⟩ : ∃ x, l[j]? = some x := ⟨_, List.getElem?_eq_getElem hj'⟩
    refine q_ixs (x := .int .u64 x) j (hv.ex hex) rfl (by simp [nums, hx]) fun _ => ?_
    (repeat (first | (refine go ?_; intros) | (refine goK12 ?_; intros) | refine b156_  ?_))
    refine u_put hm fun w2 u2 m2 z2 => ?_
    (repeat (first | (refine go ?_; intros) | (refine goK12 ?_; intros)))
    rw [wrapS (by omega)]
    have hnx : x ∉ l.take j := notin_take hn hx
    refine hR (j + 1) _ _ ⟨rfl, by omega, hex.new u2 (by intro b hb; subst hb; exact Nat.le_refl _), ?_⟩ (by omega)
    rw [take_snoc hx, ← put_ms hnx]
    exact m2
  · have hjl : j = l.length := by
      have : ¬ ((j : Int) < _) := of_decide_eq_false hb
      omega
    subst hjl
    refine h (some w.heap.size) _ hex (by intro b hb; cases hb; exact Nat.le_refl _) ?_
    show Mp _ _ _
    simpa using hm

/-! Progress. -/

structure Pg where
  ma : Int
  ne : Int
  sc : Int
  st : Int
  pend : Int
  act : Bool
  pau : Bool
  le : Bool
  size : Int
  mx : Int

def Inf (ib : Nat) (size mx : Int) (w : World) : Prop := Bk w ib (.cells #[.int .i64 0, .int .i64 0, .int .u64 0, .int .i64 size, .int .u64 mx, .slice none 0 0] 230 (0, 0))
def Pg.cells (q : Pg) (ib : Nat) : Array Value := #[.int .u64 q.ma, .int .u64 q.ne, .int .u64 q.sc, .int .u64 q.st, .int .u64 q.pend, .bool q.act, .bool q.pau, .pointer (some ⟨ib, 0, none⟩), .bool q.le]

/-- Block b is a progress, with its inflights. -/
def PG (base b : Nat) (q : Pg) (w : World) : Prop := base ≤ b ∧ ∃ ib, base ≤ ib ∧ Bk w b (.cells (q.cells ib) 152 (0, 0)) ∧ Inf ib q.size q.mx w
theorem PG.up {base b : Nat} {q : Pg} {C : Nat → Prop} {T : List Nat} {w' : World} (u : Up C T w w') (h1 : T.contains 154 = false ∨ ¬ C b) (h2 : T.contains 232 = false) (h : PG base b q w) : PG base b q w' := by
  obtain ⟨hb, ib, hi, hp, hf⟩ := h
  refine ⟨hb, ib, hi, ?_, u.at_ hf h2⟩
  rcases h1 with h1 | h1
  · exact u.at_ hp h1
  · exact u.off hp h1
theorem PG.ex {base b : Nat} {q : Pg} {w' : World} (u : Ex w w') (h : PG base b q w) : PG base b q w' := h.up u (.inl rfl) rfl
theorem PG.lt {base b : Nat} {q : Pg} (h : PG base b q w) : b < w.heap.size := by
  obtain ⟨_, ib, _, hp, _⟩ := h
  exact hp.lt

theorem k78 {n mx : Int} (h : ∀ ib w', Ex w w' → w.heap.size ≤ ib → Inf ib n mx w' → K (.pointer (some ⟨ib, 0, none⟩)) w') : CK Pr 78 #[.int .i64 n, .int .u64 mx] w K := by
  refine c78 ?_
  unfold t78
  (repeat (first | (refine go ?_; intros) | (refine goK12 ?_; intros) | refine b230_3_4 (by first | rfl | assumption) (by first | rfl | assumption) ?_))
  rename_i ib w1 e1 hb1 s1 s2
  exact h ib w1 e1 (by omega) hb1

theorem k79 {base : Nat} {p : Pe} (h1 : Nums w none p.flV p.fl) (h2 : Nums w none p.byV p.byt) (hf : p.fl = []) (hst : 0 ≤ p.st ∧ p.st ≤ 1) (hbase : base ≤ w.heap.size)
    (h : ∀ b w', Ex w w' → w.heap.size ≤ b → PG base b ⟨p.ma, p.ne, 0, p.st, p.pend, p.act, p.pau, p.lea, p.size, p.mx⟩ w' → K (.pointer (some ⟨b, 0, none⟩)) w') : CK Pr 79 #[.agg p.pcells.toArray] w K := by
  refine c79 ?_
  unfold t79
  unfold Pe.pcells
  have o1 := h1.one
  have o2 := h2.one
  (repeat (first | (refine go ?_; intros) | (refine goK12 ?_; intros)))
  rename_i b1 w1 e1 hb1 s1 s2
  refine cl_fn (k78 fun ib w2 e2 s3 hi => ?_)
  refine loop_n (α := Unit) (fun _ τ w' => g τ 0 = .int .i64 0 ∧ w' = w2) (fun _ => 0) () ⟨rfl, rfl⟩ ?_
  rintro _ τ w' R ⟨hj, rfl⟩ hR
  rw [hj]
  have h1' : Nums w' none p.flV [] := by rw [← hf]; exact (h1.ex e1).ex e2
  (repeat (first | (refine go ?_; intros) | (refine goK12 ?_; intros)))
  have e3 : IntKind.u64.wrap p.st = p.st := wrapU (by omega) (by omega)
  try rw [e3]
  (repeat (first | (refine go ?_; intros) | (refine goK12 ?_; intros) | refine b152_0_1_3_4_5_6_8_7 (by first | rfl | assumption) (by first | rfl | assumption) (by first | rfl | assumption) (by first | rfl | assumption) (by first | rfl | assumption) (by first | rfl | assumption) (by first | rfl | assumption) (by first | rfl | assumption) ?_))
  rename_i b3 w3 e4 hb3 s4 s5
  have z1 := e1.size
  have z2 := e2.size
  exact h b3 w3 ex_ (by omega) ⟨by omega, ib, by omega, hb3, e4.at_ hi⟩

theorem k127 (h : ∀ b rb w', Ex w w' → w.heap.size ≤ b → Bk w' b (.cells #[.int .i64 0, .map (some rb), .slice none 0 0, .int .u64 0] 265 (0, 0)) → K (.pointer (some ⟨b, 0, none⟩)) w') : CK Pr 127 #[.int .i64 0] w K := by
  refine c127 ?_
  unfold t127
  refine e_mkmap (by intro v hv; cases hv) fun w1 e1 m1 s1 => ?_
  (repeat (first | (refine go ?_; intros) | (refine goK12 ?_; intros) | refine b265_0_1 (by first | rfl | assumption) (by first | rfl | assumption) ?_))
  rename_i b2 w2 e2 hb2 s2 s3
  exact h b2 _ w2 ex_ (by omega) hb2

theorem k74 {n mx : Int} (h : ∀ vb pm vt w', Ex w w' → w.heap.size ≤ vb → w.heap.size ≤ pm → w.heap.size ≤ vt → vb ≠ pm → vb ≠ vt → pm ≠ vt → Mp w' vb [] → Mp w' pm [] → Mp w' vt [] →
    K (.agg #[.map (some vb), .map none, .bool false, .map none, .map none, .map (some pm), .map (some vt), .int .i64 n, .int .u64 mx]) w') : CK Pr 74 #[.int .i64 n, .int .u64 mx] w K := by
  refine c74 ?_
  unfold t74
  (repeat (first | (refine go ?_; intros) | (refine goK12 ?_; intros)))
  rename_i b1 w1 e1 hb1 s1 s2
  refine e_mkmap (by intro v hv; cases hv) fun w2 e2 m2 s3 => ?_
  (repeat (first | (refine go ?_; intros) | (refine goK12 ?_; intros) | refine b134_0_1 (by first | rfl | assumption) (by first | rfl | assumption) ?_ | refine b136_0_2_3 (by first | rfl | assumption) (by first | rfl | assumption) ?_))
  refine e_mkmap (by intro v hv; cases hv) fun w3 e3 m3 s4 => ?_
  refine e_mkmap (by intro v hv; cases hv) fun w4 e4 m4 s5 => ?_
  have hb1' : Bk w4 b1 _ := e4.at_ (e3.at_ (e2.at_ hb1))
  (repeat (first | (refine go ?_; intros) | (refine goK12 ?_; intros) | refine b141_3_4_0_2_1 (by first | rfl | assumption) (by first | rfl | assumption) (by first | rfl | assumption) (by first | rfl | assumption) ?_))
  rename_i b5 w5 e5 hb5 sa sb w6 u6 hb6 z6 w7 u7 hb7 z7
  have z1 := e1.size
  have z2 := e2.size
  have z3 := e3.size
  have z4 := e4.size
  exact h _ _ _ w7 ex_ (by omega) (by omega) (by omega) (by omega) (by omega) (by omega)
    ((((((m2.ex e3).ex e4).ex e5).up u6 (.inl rfl)).up u7 (.inl rfl))) (((((m4).ex e5).up u6 (.inl rfl)).up u7 (.inl rfl))) ((((m3.ex e4).ex e5).up u6 (.inl rfl)).up u7 (.inl rfl))

end Go.Proofs.YtmmpogfbhelioaaGreat
/-
  Rules: slices of two elements; arrays' elements and slices.
  Conditions: elements of one cell.
-/
namespace Go.Proofs.YtmmpogfbhelioaaGreat
set_option maxRecDepth 10000
set_option linter.unusedVariables false
set_option linter.unusedSimpArgs false
set_option linter.unusedVariables false
variable {P : Program} {w : World} {S : World → Prop}

theorem TArr.facts (t k e n : Nat) [h : TArr P t k e n] : ∃ i, P.underlying t = some (.array k e) ∧ P.info? e = some i ∧ i.size = n ∧ n ≠ 0 := by
  have hk := h.ok
  unfold tarrB at hk
  split at hk
  · rename_i k' e' hu
    simp only [Bool.and_eq_true] at hk
    obtain ⟨⟨h1, h2⟩, h3⟩ := hk
    have h1 := Nat.eq_of_beq_eq_true h1
    have h2 := Nat.eq_of_beq_eq_true h2
    subst h1 h2
    split at h3
    · rename_i i hi
      simp only [Bool.and_eq_true] at h3
      have h4 := Nat.eq_of_beq_eq_true h3.1
      refine ⟨i, hu, hi, h4, ?_⟩
      intro h0
      rw [h0] at h4
      rw [h4] at h3
      simp at h3
    · cases h3
  · cases hk

theorem q_ia {t k e n b o : Nat} [TArr P t k e n] {K : Value → Prop} {i : Int} {q : IntKind} (j : Nat) (hi : i = j) (hj : j < k) (kk : K (.pointer (some ⟨b, o + j * n, none⟩))) : Qu P S (Instr.indexAt t (.pointer (some ⟨b, o, none⟩)) (.int q i)) K := by
  obtain ⟨inf, hu, hinf, hn, hn0⟩ := TArr.facts (P := P) t k e n
  subst hi
  have h1 : (0 : Int) ≤ j ∧ (j : Int) < k := by omega
  refine .mk _ (fun w' _ => ?_) kk
  simp only [Instr.indexAt, asIntOf, Sem.run_bind, Sem.run_pure, Result.andThen_ok, run_und hu, Instr.sureAddr]
  rw [if_pos h1]
  simp [add_addr, run_size hinf, hn]

theorem q_slArr {t k e n b o : Nat} [TArr P t k e n] {K : Value → Prop} {i : Int} {q : IntKind} (j : Nat) (hi : i = j) (hj : j ≤ k) (hk : k ≠ 0) (kk : K (.slice (some ⟨b, o, none⟩) j k)) : Qu P S (Instr.sliceAt t (.pointer (some ⟨b, o, none⟩)) none (some (.int q i)) none) K := by
  obtain ⟨inf, hu, hinf, hn, hn0⟩ := TArr.facts (P := P) t k e n
  subst hi
  have h1 : (0 : Int) ≤ j ∧ (j : Int) ≤ k := by omega
  refine .mk _ (fun w' _ => ?_) kk
  simp only [Instr.sliceAt, Sem.run_bind, run_und hu, Result.andThen_ok, Instr.sureAddr, Instr.sliceBounds, Instr.sliceBound, asIntOf, Sem.run_pure, if_pos h1, run_size hinf, Int.toNat_natCast, Nat.sub_zero, Nat.zero_mul, if_neg hk, add_addr, Nat.add_zero]

variable {KW : Value → World → Prop}
/-- A slice of two elements. -/
theorem e_bs2 {t e by' : Nat} [TSli P t e 1] [TElm P e 1 by'] {x y : Value} (hx : one x = true) (hy : one y = true)
    (k : ∀ w', Ex w w' → Own w' w.heap.size e 1 (.slice (some ⟨w.heap.size, 0, none⟩) 2 2) [[x], [y]] → w'.heap.size = w.heap.size + 1 → KW (.slice (some ⟨w.heap.size, 0, none⟩) 2 2) w') :
    Ef P (Instr.buildSlice t 2 #[(0, x), (1, y)]) w KW := by
  obtain ⟨i, z', hi, hz, his, hib, hzs, h0⟩ := TElm.facts (P := P) e 1 by'
  haveI : TZero P e z' := ⟨by rw [hi]; exact hz⟩
  have hcx := one_cells' hx
  have hcy := one_cells' hy
  have hf : Instr.fill (fun i => some (i * 1, 1)) ((Array.range (2 * 1)).map (z'.cells[· % z'.cells.size]!)) #[(0, x), (1, y)].toList = some #[x, y] := by
    rw [show #[(0, x), (1, y)].toList = [(0, x), (1, y)] from rfl, fill_cons rfl (by rw [hcx]; rfl) (by simp), fill_cons rfl (by rw [hcy]; rfl) (by simp [hcx, putCells]), Instr.fill, hcx, hcy]
    simp [putCells]
    apply Array.ext
    · simp
    · intro j h1 h2
      simp at h2
      have : j = 0 ∨ j = 1 := by omega
      rcases this with rfl | rfl <;> simp
  refine .mk _ _ (run_bs (P := P) (t := t) (e := e) (n := 1) (m := 2) (cs := #[x, y]) (by omega) (by omega) hf) (k _ (Up.alloc _ _) ⟨⟨?_, .inr ⟨_, 2, #[x, y], rfl, Nat.le_refl _, Bk.alloc_new _ _, Nat.le_refl _, by simp [maxLen], by simp, ?_⟩⟩, ?_⟩ (by simp))
  · simp
  · simp
  · intro u hu
    simp at hu
    rcases hu with rfl | rfl <;> rfl

end Go.Proofs.YtmmpogfbhelioaaGreat
