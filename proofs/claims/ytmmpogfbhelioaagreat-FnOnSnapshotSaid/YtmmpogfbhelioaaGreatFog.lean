/-
  PARTS: K7 K8 K9 K10 K11 K12 Df K13 K1 K2 K3 K4 K14 K15 K16 K17 K18.
-/
import Derived.Test.YtmmpogfbhelioaaGreatFof
import Derived.Test.YtmmpogfbhelioaaGreatFob
import Derived.Test.YtmmpogfbhelioaaGreatFoe
import Derived.Test.YtmmpogfbhelioaaGreatFoc
/-
  Contracts: clones of configurations and snapshots.
  Conditions: each one's own.
-/
namespace Go.Proofs.YtmmpogfbhelioaaGreat
set_option maxRecDepth 10000
set_option linter.unusedVariables false
set_option linter.unusedSimpArgs false
attribute [local irreducible] Instr.box Instr.alloc Instr.loadAt Instr.storeAt Instr.fieldAt Instr.indexAt Instr.build Instr.buildSlice Instr.makeSlice Instr.makeMap Instr.mapUpdate Instr.lookup Instr.range Instr.next Instr.entry Instr.extract Instr.makeInterface Instr.makeFunc Instr.sliceAt Instr.typeAssert Instr.field Instr.index Builtin.len_ Builtin.cap_ Builtin.max_ Builtin.min_ Builtin.append_ Builtin.copy_ Builtin.delete_ convert binS pickS nilS callV callM Op.unary Own Mp It Cu

variable {K : Value → World → Prop} {w : World} {te : Option Nat}

theorem k287 {v : Value} {l : List Int} (hv : Nums w te v l) (hl : l.length ≤ 1000000) (h : ∀ v' w', Ex w w' → Sl w' (some 22) 1 v' (nums l) → K v' w') : CK Pr 287 #[v] w K := by
  refine c287 ?_
  unfold t287
  have hz := nums_len l
  obtain ⟨a, c, hvv⟩ := hv.sh
  cases a with
  | none =>
    have h0 : nums l = [] := hv.none_ hvv
    subst hvv
    (repeat (first | (refine go ?_; intros) | (refine gon ?_; intros)))
    refine h _ _ (.refl _ _ _) ?_
    rw [h0]
    exact .nil _ _
  | some a =>
    rw [hvv]
    (repeat (first | (refine go ?_; intros) | (refine gon ?_; intros)))
    rw [← hvv]
    refine e_make (m := (nums l).length) (zv := .int .u64 0) rfl rfl rfl (by omega) (by omega) fun w1 e1 o1 z1 => ?_
    refine e_copy o1 (hv.ex e1) (by rw [List.length_replicate]) nums_one fun r w2 u2 o2 z2 => ?_
    refine h _ _ ?_ o2.sl
    refine e1.new u2 fun b hb => ?_
    cases hb
    exact Nat.le_refl _

theorem k288 {v : Value} {p : Bool} (hv : PB1 v p w) (h : ∀ v' w', Ex w w' → PB1 v' p w' → K v' w') : CK Pr 288 #[v] w K := by
  refine c288 ?_
  unfold t288
  obtain ⟨b, rfl, hb⟩ := hv
  (repeat (first | (refine go ?_; intros) | (refine gon ?_; intros)))
  exact h _ _ ex_ ⟨_, rfl, by exact bk_⟩

theorem k266 {v : Value} {p : Int} (hv : PN1 22 .u64 v p w) (h : ∀ v' w', Ex w w' → PN1 22 .u64 v' p w' → K v' w') : CK Pr 266 #[v] w K := by
  refine c266 ?_
  unfold t266
  obtain ⟨b, rfl, hb⟩ := hv
  (repeat (first | (refine go ?_; intros) | (refine gon ?_; intros)))
  exact h _ _ ex_ ⟨_, rfl, by exact bk_⟩

theorem bytes_one {s : ByteArray} : ∀ y ∈ byteList s, ∀ u ∈ y, one u = true := by
  intro y hy u hu
  obtain ⟨x, _, rfl⟩ := List.mem_map.1 hy
  rw [List.mem_singleton.1 hu]; rfl

theorem k204 {v : Value} {s : ByteArray} (hv : Sl w te 1 v (byteList s)) (hl : s.size ≤ 1000000) (h : ∀ v' w', Ex w w' → Sl w' (some 5) 1 v' (byteList s) → K v' w') : CK Pr 204 #[v] w K := by
  refine c204 ?_
  unfold t204
  have hz : (byteList s).length = s.size := by simp only [byteList, List.length_map, Array.length_toList]; rfl
  obtain ⟨a, c, hvv⟩ := hv.sh
  cases a with
  | none =>
    have h0 : byteList s = [] := hv.none_ hvv
    subst hvv
    (repeat (first | (refine go ?_; intros) | (refine gon ?_; intros)))
    refine h _ _ (.refl _ _ _) ?_
    rw [h0]
    exact .nil _ _
  | some a =>
    rw [hvv]
    (repeat (first | (refine go ?_; intros) | (refine gon ?_; intros)))
    rw [← hvv]
    refine e_make (m := (byteList s).length) (zv := .int .u8 0) rfl rfl rfl (by omega) (by omega) fun w1 e1 o1 z1 => ?_
    refine e_copy o1 (hv.ex e1) (by rw [List.length_replicate]) bytes_one fun r w2 u2 o2 z2 => ?_
    refine h _ _ ?_ o2.sl
    refine e1.new u2 fun b hb => ?_
    cases hb
    exact Nat.le_refl _

/-- Lists that are small. -/
structure CfSm (c : Cf) : Prop where
  v : c.v.length ≤ 1000000
  l : c.l.length ≤ 1000000
  o : c.o.length ≤ 1000000
  n : c.n.length ≤ 1000000

theorem k226 {v : Value} {c : Cf} (hv : PC v c w) (sm : CfSm c) (h : ∀ v' w', Ex w w' → PC v' c w' → K v' w') : CK Pr 226 #[v] w K := by
  obtain ⟨b, v1, v2, v3, v4, v5, rfl, hb, h1, h2, h3, h4, h5⟩ := hv
  refine c226 ?_
  unfold t226
  (repeat (first | (refine go ?_; intros) | (refine gon ?_; intros)))
  refine dr_rule No [] fun w1 e1 z1 => ?_
  (repeat (first | (refine go ?_; intros) | (refine gon ?_; intros)))
  refine cl_fn (k287 (h1.ex ex_) sm.v fun u1 w2 e2 o1 => ⟨by exact ex_, ?_⟩)
  (repeat (first | (refine go ?_; intros) | (refine gon ?_; intros)))
  refine cl_fn (k287 (h2.ex ex_) sm.l fun u2 w3 e3 o2 => ⟨by exact ex_, ?_⟩)
  (repeat (first | (refine go ?_; intros) | (refine gon ?_; intros)))
  refine cl_fn (k287 (h3.ex ex_) sm.o fun u3 w4 e4 o3 => ⟨by exact ex_, ?_⟩)
  (repeat (first | (refine go ?_; intros) | (refine gon ?_; intros)))
  refine cl_fn (k287 (h4.ex ex_) sm.n fun u4 w5 e5 o4 => ⟨by exact ex_, ?_⟩)
  (repeat (first | (refine go ?_; intros) | (refine gon ?_; intros)))
  refine cl_fn (k288 (h5.ex ex_) fun u5 w6 e6 o5 => ⟨by exact ex_, ?_⟩)
  refine b200_0_1_2_3_4 o1.one o2.one o3.one o4.one o5.one ?_
  refine e_boxA fun b0 w7 e7 hb7 s1 s2 => ⟨by exact ex_, ?_⟩
  refine h _ _ ex_ ⟨_, _, _, _, _, _, rfl, hb7, ?_, ?_, ?_, ?_, ?_⟩ <;> exact lf_

theorem k205 {v : Value} {i t : Int} {c : Cf} (hv : PM v i t c w) (sm : CfSm c) (h : ∀ v' w', Ex w w' → PM v' i t c w' → K v' w') : CK Pr 205 #[v] w K := by
  obtain ⟨b, v1, v2, v3, rfl, hb, h1, h2, h3⟩ := hv
  refine c205 ?_
  unfold t205
  (repeat (first | (refine go ?_; intros) | (refine gon ?_; intros)))
  refine dr_rule No [] fun w1 e1 z1 => ?_
  (repeat (first | (refine go ?_; intros) | (refine gon ?_; intros)))
  refine cl_fn (k226 (h1.ex ex_) sm fun u1 w2 e2 o1 => ⟨by exact ex_, ?_⟩)
  (repeat (first | (refine go ?_; intros) | (refine gon ?_; intros)))
  refine cl_fn (k266 (h2.ex ex_) fun u2 w3 e3 o2 => ⟨by exact ex_, ?_⟩)
  (repeat (first | (refine go ?_; intros) | (refine gon ?_; intros)))
  refine cl_fn (k266 (h3.ex ex_) fun u3 w4 e4 o3 => ⟨by exact ex_, ?_⟩)
  refine b106_0_1_2 o1.one o2.one o3.one ?_
  refine e_boxA fun b0 w7 e7 hb7 s1 s2 => ⟨by exact ex_, ?_⟩
  refine h _ _ ex_ ⟨_, _, _, _, rfl, hb7, ?_, ?_, ?_⟩ <;> exact lf_

theorem k122 {v : Value} {s : Sn} (hv : PS v s w) (hd : s.d.size ≤ 1000000) (sm : CfSm s.c) (h : ∀ v' w', Ex w w' → PS v' s w' → K v' w') : CK Pr 122 #[v] w K := by
  obtain ⟨b, v1, v2, rfl, hb, h1, h2⟩ := hv
  refine c122 ?_
  unfold t122
  (repeat (first | (refine go ?_; intros) | (refine gon ?_; intros)))
  refine dr_rule No [] fun w1 e1 z1 => ?_
  (repeat (first | (refine go ?_; intros) | (refine gon ?_; intros)))
  refine cl_fn (k204 (h1.ex ex_) hd fun u1 w2 e2 o1 => ⟨by exact ex_, ?_⟩)
  (repeat (first | (refine go ?_; intros) | (refine gon ?_; intros)))
  refine cl_fn (k205 (h2.ex ex_) sm fun u2 w3 e3 o2 => ⟨by exact ex_, ?_⟩)
  refine b108_0_1 o1.one o2.one ?_
  refine e_boxA fun b0 w7 e7 hb7 s1 s2 => ⟨by exact ex_, ?_⟩
  refine h _ _ ex_ ⟨_, _, _, rfl, hb7, ?_, ?_⟩ <;> exact lf_

theorem k98 {v : Value} {c : Cf} (hv : PC v c w) (h : K v w) : CK Pr 98 #[v] w K := by
  obtain ⟨b, v1, v2, v3, v4, v5, rfl, hb, h1, h2, h3, h4, ⟨b5, rfl, hb5⟩⟩ := hv
  refine c98 ?_
  unfold t98
  unfold Jo
  (repeat (first | (refine go ?_; intros) | (refine gon ?_; intros)))
  exact h

theorem k69 (h : K (.tuple #[]) w) : CK Pr 69 #[.nilIface] w K := by
  refine c69 ?_
  unfold t69
  (repeat (first | (refine go ?_; intros) | (refine gon ?_; intros)))
  exact h

theorem k203 {v : Value} {i t : Int} {c : Cf} (hv : PM v i t c w) (h : K v w) : CK Pr 203 #[v] w K := by
  have hv' := hv
  obtain ⟨b, v1, v2, v3, rfl, hb, h1, ⟨b2, rfl, h2⟩, ⟨b3, rfl, h3⟩⟩ := hv
  refine c203 ?_
  unfold t203
  unfold Jo
  (repeat (first | (refine go ?_; intros) | (refine gon ?_; intros)))
  unfold t203_1
  unfold Jo
  (repeat (first | (refine go ?_; intros) | (refine gon ?_; intros)))
  refine cl_fn (k98 h1 ?_)
  obtain ⟨b5, _, _, _, _, _, rfl, _⟩ := h1
  (repeat (first | (refine go ?_; intros) | (refine gon ?_; intros)))
  exact h

theorem k118 {v : Value} {s : Sn} (hv : PS v s w) (h : K v w) : CK Pr 118 #[v] w K := by
  obtain ⟨b, v1, v2, rfl, hb, h1, h2⟩ := hv
  refine c118 ?_
  unfold t118
  unfold Jo
  (repeat (first | (refine go ?_; intros) | (refine gon ?_; intros)))
  refine cl_fn (k203 h2 ?_)
  obtain ⟨b5, _, _, _, rfl, _⟩ := h2
  (repeat (first | (refine go ?_; intros) | (refine gon ?_; intros)))
  exact h

theorem PC.typ {C : Nat → Prop} {T : List Nat} {w w' : World} {v : Value} {c : Cf} (u : Up C T w w') (h : PC v c w) (t1 : T.contains 202 = false) (t2 : T.contains 24 = false) (t3 : T.contains 6 = false) : PC v c w' := by
  obtain ⟨b, v1, v2, v3, v4, v5, rfl, hb, h1, h2, h3, h4, ⟨b5, rfl, hb5⟩⟩ := h
  exact ⟨b, _, _, _, _, _, rfl, u.at_ hb t1, h1.typ u t2, h2.typ u t2, h3.typ u t2, h4.typ u t2, ⟨_, rfl, u.at_ hb5 t3⟩⟩

abbrev Cf0 : Cf := ⟨[], [], [], [], false⟩

theorem k98n (h : ∀ v w', Ex w w' → PC v Cf0 w' → K v w') : CK Pr 98 #[.pointer none] w K := by
  refine c98 ?_
  unfold t98
  unfold Jo
  (repeat (first | (refine go ?_; intros) | (refine gon ?_; intros)))
  exact h _ _ ex_ ⟨_, _, _, _, _, _, rfl, by exact bk_, .nil _ _, .nil _ _, .nil _ _, .nil _ _, ⟨_, rfl, by exact bk_⟩⟩

theorem k203n (h : ∀ v w', Ex w w' → PM v 0 0 Cf0 w' → K v w') : CK Pr 203 #[.pointer none] w K := by
  refine c203 ?_
  unfold t203
  unfold Jo
  (repeat (first | (refine go ?_; intros) | (refine gon ?_; intros)))
  unfold t203_1
  unfold Jo
  (repeat (first | (refine go ?_; intros) | (refine gon ?_; intros)))
  refine cl_fn (k98n fun v1 w1 e1 h1 => ?_)
  have z1 := e1.size
  have o1 := h1.one
  (repeat (first | (refine go ?_; intros) | (refine gon ?_; intros)))
  refine h _ _ ex_ ⟨_, _, _, _, rfl, by exact bk_, by (repeat (first | assumption | refine PC.ex (by assumption) ?_ | refine PC.typ (by assumption) ?_ rfl rfl rfl)), ⟨_, rfl, by exact bk_⟩, ⟨_, rfl, by exact bk_⟩⟩

theorem PM.typ {C : Nat → Prop} {T : List Nat} {w w' : World} {v : Value} {i t : Int} {c : Cf} (u : Up C T w w') (h : PM v i t c w) (t0 : T.contains 108 = false) (t1 : T.contains 202 = false) (t2 : T.contains 24 = false) (t3 : T.contains 6 = false) : PM v i t c w' := by
  obtain ⟨b, v1, v2, v3, rfl, hb, h1, ⟨b2, rfl, h2⟩, ⟨b3, rfl, h3⟩⟩ := h
  exact ⟨b, _, _, _, rfl, u.at_ hb t0, h1.typ u t1 t2 t3, ⟨_, rfl, u.at_ h2 t2⟩, ⟨_, rfl, u.at_ h3 t2⟩⟩

abbrev Sn0 : Sn := ⟨ByteArray.empty, 0, 0, Cf0⟩

theorem k118n (h : ∀ v w', Ex w w' → PS v Sn0 w' → K v w') : CK Pr 118 #[.pointer none] w K := by
  refine c118 ?_
  unfold t118
  unfold Jo
  (repeat (first | (refine go ?_; intros) | (refine gon ?_; intros)))
  refine cl_fn (k203n fun v1 w1 e1 h1 => ?_)
  have z1 := e1.size
  have o1 := h1.one
  (repeat (first | (refine go ?_; intros) | (refine gon ?_; intros)))
  refine h _ _ ex_ ⟨_, _, _, rfl, by exact bk_, .nil _ _, by (repeat (first | assumption | refine PM.ex (by assumption) ?_ | refine PM.typ (by assumption) ?_ rfl rfl rfl rfl))⟩

end Go.Proofs.YtmmpogfbhelioaaGreat
/-
  Contracts: the storage.
  Conditions: each one's own.
-/
namespace Go.Proofs.YtmmpogfbhelioaaGreat
set_option maxRecDepth 10000
set_option linter.unusedVariables false
set_option linter.unusedSimpArgs false
attribute [local irreducible] Instr.box Instr.alloc Instr.loadAt Instr.storeAt Instr.fieldAt Instr.indexAt Instr.build Instr.buildSlice Instr.makeSlice Instr.makeMap Instr.mapUpdate Instr.lookup Instr.range Instr.next Instr.entry Instr.extract Instr.makeInterface Instr.makeFunc Instr.sliceAt Instr.typeAssert Instr.field Instr.index Builtin.len_ Builtin.cap_ Builtin.max_ Builtin.min_ Builtin.append_ Builtin.copy_ Builtin.delete_ convert binS pickS nilS callV callM Op.unary Own Mp It Cu

variable {K : Value → World → Prop} {w : World} {te : Option Nat}

/-- Block b is a memory storage of a snapshot and of entries. -/
def MS (base b : Nat) (s : Sn) (es : List En) (w : World) : Prop :=
  ∃ vs ve ps c1 c2 c3 c4 c5 c6, Bk w b (.cells #[.pointer none, vs, ve, .int .i64 c1, .int .i64 c2, .int .i64 c3, .int .i64 c4, .int .i64 c5, .int .i64 c6] 225 (0, 0)) ∧ PS vs s w ∧ base ≤ w.heap.size ∧ Own w base 212 1 ve (ones ps) ∧ PEs ps es w

theorem k68 (h : ∀ b w', Ex w w' → w.heap.size ≤ b → MS w.heap.size b Sn0 [⟨0, 0, 0, ByteArray.empty⟩] w' → K (.pointer (some ⟨b, 0, none⟩)) w') : CK Pr 68 #[] w K := by
  refine c68 ?_
  unfold t68
  refine b215_ ?_
  refine e_boxA fun b1 w1 e1 hb1 s1 s2 => ?_
  refine e_bs1 (n := 1) rfl (by omega) fun w2 e2 o2 z2 => ?_
  refine b225_2 o2.sl.one ?_
  refine e_boxA fun b3 w3 e3 hb3 s3 s4 => ?_
  (repeat (first | (refine go ?_; intros) | (refine gon ?_; intros)))
  refine cl_fn (k118n fun v4 w4 e4 h4 => ?_)
  have z4 := e4.size
  have o4 := h4.one
  (repeat (first | (refine go ?_; intros) | (refine gon ?_; intros)))
  rename_i w5 u5 hb5 z5
  refine h _ _ ex_ (by omega) ⟨_, _, [.pointer (some ⟨b1, 0, none⟩)], _, _, _, _, _, _, hb5, h4.mt rfl u5, by omega, ?_, ?_⟩
  · exact (((o2.ex e3).ex e4).mono (by omega)).up u5 fun _ _ => .inl rfl
  · refine .cons ?_ (.nil _)
    have hb1' : Bk w5 b1 _ := u5.at_ (e4.at_ (e3.at_ (e2.at_ hb1))) rfl
    exact ⟨_, _, _, _, _, rfl, hb1', .inl ⟨rfl, rfl⟩, .inl ⟨rfl, rfl⟩, .inl ⟨rfl, rfl⟩, .nil _ _⟩

theorem k70 {base b : Nat} {v : Value} {s : Sn} {es : List En} (hm : MS base b Sn0 es w) (hs : PS v s w) (hd : s.d.size ≤ 1000000) (sm : CfSm s.c)
    (h : ∀ w', Up (fun x => x = b) [227] w w' → MS base b s [⟨s.t, s.i, 0, ByteArray.empty⟩] w' → K .nilIface w') : CK Pr 70 #[.pointer (some ⟨b, 0, none⟩), v] w K := by
  refine c70 ?_
  unfold t70
  obtain ⟨vs, ve, ps, c1, c2, c3, c4, c5, c6, hb, hvs, hbase, hve, hps⟩ := hm
  refine cl_fn (k118 hs ?_)
  (repeat (first | (refine go ?_; intros) | (refine gon ?_; intros)))
  refine cl_fn (k95 hvs fun vm hvm => ?_)
  refine cl_fn (k96 hvm ?_)
  refine cl_fn (k95 hs fun vn hvn => ?_)
  refine cl_fn (k96 hvn ?_)
  (repeat (first | (refine go ?_; intros) | (refine gon ?_; intros)))
  refine cl_fn (k122 hs hd sm fun u1 w1 e1 h1 => ?_)
  have o1 := h1.one
  have z1 := e1.size
  (repeat (first | (refine go ?_; intros) | (refine gon ?_; intros)))
  rename_i w2 u2 hb2 z2
  have hs2 : PS v s w2 := (hs.ex e1).mt rfl u2
  refine cl_fn (k95 hs2 fun va ha => ?_)
  refine cl_fn (k99 ha ?_)
  refine e_box1 rfl fun b3 w3 e3 hb3 s3a s3b => ?_
  refine cl_fn (k95 (hs2.ex e3) fun vc hc => ?_)
  refine cl_fn (k96 hc ?_)
  refine e_box1 rfl fun b4 w4 e4 hb4 s4a s4b => ?_
  refine b215_0_1 rfl rfl ?_
  refine e_boxA fun b5 w5 e5 hb5 s5a s5b => ?_
  refine e_bs1 (n := 1) rfl (by omega) fun w6 e6 o6 z6 => ?_
  have hb6 : Bk w6 b _ := e6.at_ (e5.at_ (e4.at_ (e3.at_ hb2)))
  (repeat (first | (refine go ?_; intros) | (refine gon ?_; intros)))
  rename_i w7 u7 hb7 z7
  refine h w7 ?_ ⟨_, _, [.pointer (some ⟨b5, 0, none⟩)], _, _, _, _, _, _, hb7, ?_, by omega, (o6.mono (by omega)).up u7 fun _ _ => .inl rfl, .cons ?_ (.nil _)⟩
  · exact Up.trans (((((Up.of_ex e1 : Up (fun x => x = b) [227] w w1).trans u2).ex e3).ex e4).ex (e5.trans e6)) u7
  · exact ((((((h1.mt rfl u2).ex e3).ex e4).ex e5).ex e6)).mt rfl u7
  · have q5 : Bk w7 b5 _ := u7.at_ (e6.at_ hb5) rfl
    have q3 : Bk w7 b3 _ := u7.at_ (e6.at_ (e5.at_ (e4.at_ hb3))) rfl
    have q4 : Bk w7 b4 _ := u7.at_ (e6.at_ (e5.at_ hb4)) rfl
    exact ⟨_, _, _, _, _, rfl, q5, .inr ⟨_, rfl, q3⟩, .inr ⟨_, rfl, q4⟩, .inl ⟨rfl, rfl⟩, .nil _ _⟩

theorem k123 {base b : Nat} {s : Sn} {e : En} {es : List En} (hm : MS base b s (e :: es) w) (hi : 0 ≤ e.i ∧ e.i ≤ 1000000000000000) (h : K (.int .u64 (e.i + 1)) w) : CK Pr 123 #[.pointer (some ⟨b, 0, none⟩)] w K := by
  refine c123 ?_
  unfold t123
  obtain ⟨vs, ve, ps, c1, c2, c3, c4, c5, c6, hb, hvs, hbase, hve, hps⟩ := hm
  cases hps with
  | cons hp hr =>
    (repeat (first | (refine go ?_; intros) | (refine gon ?_; intros)))
    refine q_ixs 0 hve.sl rfl rfl fun _ => ?_
    refine cl_fn (k124 hp ?_)
    (repeat (first | (refine go ?_; intros) | (refine gon ?_; intros)))
    rw [wrapU (by omega) (by omega)]
    exact h

end Go.Proofs.YtmmpogfbhelioaaGreat
/-
  Contracts: the storage's Append.
  Conditions: what is appended follows the snapshot.
-/
namespace Go.Proofs.YtmmpogfbhelioaaGreat
set_option maxRecDepth 10000
set_option linter.unusedVariables false
set_option linter.unusedSimpArgs false
attribute [local irreducible] Instr.box Instr.alloc Instr.loadAt Instr.storeAt Instr.fieldAt Instr.indexAt Instr.build Instr.buildSlice Instr.makeSlice Instr.makeMap Instr.mapUpdate Instr.lookup Instr.range Instr.next Instr.entry Instr.extract Instr.makeInterface Instr.makeFunc Instr.sliceAt Instr.typeAssert Instr.field Instr.index Builtin.len_ Builtin.cap_ Builtin.max_ Builtin.min_ Builtin.append_ Builtin.copy_ Builtin.delete_ convert binS pickS nilS callV callM Op.unary Own Mp It Cu

variable {K : Value → World → Prop} {w : World} {te : Option Nat}

theorem PEs.ones {vs : List Value} {es : List En} (h : PEs vs es w) : ∀ v ∈ vs, one v = true := by
  induction h with
  | nil => intro v hv; cases hv
  | cons h _ ih =>
    intro v hv
    rcases List.mem_cons.1 hv with rfl | hv
    · exact h.one
    · exact ih v hv

theorem k71 {base b : Nat} {v : Value} {s : Sn} {e0 : En} {qs : List Value} {l : List En} (hm : MS base b s [e0] w) (hv : Sl w te 1 v (ones qs)) (hq : PEs qs l w) (hl : l.length ≤ 1000) (hi : 0 ≤ e0.i ∧ e0.i ≤ 1000000000000000)
    (hrow : ∀ e, l[0]? = some e → e.i = e0.i + 1) (h : ∀ w', Up (fun x => x = b ∨ base ≤ x) [227, 214] w w' → MS base b s (e0 :: l) w' → K .nilIface w') : CK Pr 71 #[.pointer (some ⟨b, 0, none⟩), v] w K := by
  refine c71 ?_
  unfold t71
  have hol : (ones qs).length = l.length := by rw [ones, List.length_map, hq.len]
  refine q_lenSl hv ?_
  rw [hol]
  (repeat (first | (refine go ?_; intros) | (refine gon ?_; intros)))
  cases l with
  | nil =>
    (repeat (first | (refine go ?_; intros) | (refine gon ?_; intros)))
    exact h w (.refl _ _ _) hm
  | cons e1 r =>
    refine if_f ?_
    unfold t71_3
    obtain ⟨q1, qr, rfl⟩ : ∃ q1 qr, qs = q1 :: qr := by
      cases hq with
      | cons _ _ => exact ⟨_, _, rfl⟩
    have hq' := hq
    cases hq with
    | cons hq1 hqr =>
    have he1 := hrow e1 rfl
    have hl' : r.length + 1 ≤ 1000 := by simpa using hl
    refine cl_fn (k123 hm ⟨hi.1, hi.2⟩ ?_)
    refine q_ixs 0 hv rfl rfl fun _ => ?_
    refine cl_fn (k124 hq1 ?_)
    refine q_lenSl hv ?_
    rw [hol]
    (repeat (first | (refine go ?_; intros) | (refine gon ?_; intros)))
    simp only [List.length_cons]
    have hw : IntKind.u64.wrap (IntKind.u64.wrap (e1.i + IntKind.u64.wrap ((r.length + 1 : Nat) : Int)) - 1) = e1.i + r.length := by
      rw [wrapU (n := ((r.length + 1 : Nat) : Int)) (by omega) (by omega), wrapU (n := e1.i + ((r.length + 1 : Nat) : Int)) (by omega) (by omega), wrapU (by omega) (by omega)]
      omega
    simp only [hw]
    refine if_split (fun hb => ?_) (fun hb => ?_)
    · have := of_decide_eq_true hb
      omega
    unfold t71_2
    refine q_ixs 0 hv rfl rfl fun _ => ?_
    refine cl_fn (k124 hq1 ?_)
    unfold Jo
    (repeat (first | (refine go ?_; intros) | (refine gon ?_; intros)))
    refine if_split (fun hb => ?_) (fun hb => ?_)
    · have := of_decide_eq_true hb
      omega
    unfold t71_1
    refine dr_rule No [] fun w1 x1 z1 => ?_
    obtain ⟨vs, ve, ps, c1, c2, c3, c4, c5, c6, hb1, hvs, hbase, hve, hps⟩ := hm
    cases hps with
    | cons hp0 hpr =>
    cases hpr
    refine q_ixsE 0 (hv.ex x1) rfl rfl fun _ => ?_
    refine cl_fn (k124 (hq1.ex x1) ⟨.refl _ _ _, ?_⟩)
    (repeat (first | (refine go ?_; intros) | (refine gon ?_; intros)))
    refine q_ixsE 0 (hve.sl.ex x1) rfl rfl fun _ => ?_
    refine cl_fn (k124 (hp0.ex x1) ⟨.refl _ _ _, ?_⟩)
    (repeat (first | (refine go ?_; intros) | (refine gon ?_; intros)))
    refine q_lenSl hve.sl ?_
    rw [he1, wrapU (n := e0.i + 1 - e0.i) (by omega) (by omega), show e0.i + 1 - e0.i = (1 : Int) by omega]
    unfold Jo
    (repeat (first | (refine go ?_; intros) | (refine gon ?_; intros)))
    refine q_lenSl hve.sl ?_
    (repeat (first | (refine go ?_; intros) | (refine gon ?_; intros)))
    have hb1w : Bk w1 b _ := x1.at_ hb1
    refine e_app (base := base) (hve.ex x1) (hv.ex x1) (by intro y hy u hu; obtain ⟨z, hz, rfl⟩ := List.mem_map.1 hy; rw [List.mem_singleton.1 hu]; exact hq'.ones z hz) (by rw [hol]; simp [ones]; omega) (by rw [hol]; simp [ones]; omega) (by omega) fun v2 w2 u2 o2 hbl z2 => ?_
    have hb2w := u2.at_ hb1w rfl
    have lt1 := hve.lt
    have o2o := o2.sl.one
    (repeat (first | (refine go ?_; intros) | (refine gon ?_; intros)))
    rename_i w3 u3 hb3 z3
    have ua : Up (fun x => x = b ∨ base ≤ x) [227, 214] w w3 :=
      ((Up.of_ex x1).step u2 (fun y _ hy => .inr (lt1 y hy).1) (fun k hk => by simp at hk; simp [hk])).step u3 (fun y _ hy => .inl hy) (fun k hk => by simp at hk; simp [hk])
    refine h w3 ua ⟨_, _, _, _, _, _, _, _, _, hb3, hvs.mt rfl ua, by have := ua.size; omega, (show Own w2 base 212 1 v2 (ones (_ :: q1 :: qr)) from o2).up u3 fun _ _ => .inl rfl, .cons (hp0.mt rfl ua) (hq'.mt rfl ua)⟩

end Go.Proofs.YtmmpogfbhelioaaGreat
/-
  Contracts: the storage's indices and terms; the log over it.
  Conditions: each one's own.
-/
namespace Go.Proofs.YtmmpogfbhelioaaGreat
set_option maxRecDepth 10000
set_option linter.unusedVariables false
set_option linter.unusedSimpArgs false
attribute [local irreducible] Instr.box Instr.alloc Instr.loadAt Instr.storeAt Instr.fieldAt Instr.indexAt Instr.build Instr.buildSlice Instr.makeSlice Instr.makeMap Instr.mapUpdate Instr.lookup Instr.range Instr.next Instr.entry Instr.extract Instr.makeInterface Instr.makeFunc Instr.sliceAt Instr.typeAssert Instr.field Instr.index Builtin.len_ Builtin.cap_ Builtin.max_ Builtin.min_ Builtin.append_ Builtin.copy_ Builtin.delete_ convert binS pickS nilS callV callM Op.unary Own Mp It Cu

variable {K : Value → World → Prop} {w : World} {te : Option Nat}

/-- A storage whose entries lie in a block below lim. -/
def MSl (base lim b : Nat) (s : Sn) (es : List En) (w : World) : Prop :=
  ∃ vs ve ps c1 c2 c3 c4 c5 c6, Bk w b (.cells #[.pointer none, vs, ve, .int .i64 c1, .int .i64 c2, .int .i64 c3, .int .i64 c4, .int .i64 c5, .int .i64 c6] 225 (0, 0)) ∧ PS vs s w ∧ base ≤ w.heap.size ∧ Own w base 212 1 ve (ones ps) ∧ PEs ps es w ∧ ∀ x, ve.ownBlock = some x → x < lim

theorem MSl.ms {base lim b : Nat} {s : Sn} {es : List En} (h : MSl base lim b s es w) : MS base b s es w := by
  obtain ⟨vs, ve, ps, c1, c2, c3, c4, c5, c6, h1, h2, h3, h4, h5, h6⟩ := h
  exact ⟨vs, ve, ps, c1, c2, c3, c4, c5, c6, h1, h2, h3, h4, h5⟩
theorem MS.lim {base b : Nat} {s : Sn} {es : List En} (h : MS base b s es w) : MSl base w.heap.size b s es w := by
  obtain ⟨vs, ve, ps, c1, c2, c3, c4, c5, c6, h1, h2, h3, h4, h5⟩ := h
  exact ⟨vs, ve, ps, c1, c2, c3, c4, c5, c6, h1, h2, h3, h4, h5, fun x hx => (h4.lt x hx).2⟩
theorem MSl.up {base lim b : Nat} {s : Sn} {es : List En} {C : Nat → Prop} {T : List Nat} {w' : World} (o : okT T = true) (u : Up C T w w') (hb : T.contains 227 = false ∨ ¬ C b) (hv : T.contains 214 = false ∨ ∀ x, base ≤ x → x < lim → ¬ C x) (h : MSl base lim b s es w) : MSl base lim b s es w' := by
  obtain ⟨vs, ve, ps, c1, c2, c3, c4, c5, c6, h1, h2, h3, h4, h5, h6⟩ := h
  refine ⟨vs, ve, ps, c1, c2, c3, c4, c5, c6, ?_, h2.mt o u, by have := u.size; omega, h4.up u fun x hx => hv.imp id fun hv => hv x (h4.lt x hx).1 (h6 x hx), h5.mt o u, h6⟩
  rcases hb with hb | hb
  · exact u.at_ h1 hb
  · exact u.off h1 hb
theorem MSl.ex {base lim b : Nat} {s : Sn} {es : List En} {w' : World} (u : Ex w w') (h : MSl base lim b s es w) : MSl base lim b s es w' := h.up rfl u (.inr id) (.inr fun _ _ _ => id)
/-- The block itself was stored to: a counter. -/
theorem MSl.cnt {base lim b : Nat} {s : Sn} {es : List En} {w' : World} (u : Up (fun x => x = b) [227] w w') {vs ve : Value} {ps : List Value} {c1 c2 c3 c4 c5 c6 : Int}
    (hb : Bk w' b (.cells #[.pointer none, vs, ve, .int .i64 c1, .int .i64 c2, .int .i64 c3, .int .i64 c4, .int .i64 c5, .int .i64 c6] 225 (0, 0))) (h2 : PS vs s w) (h3 : base ≤ w.heap.size) (h4 : Own w base 212 1 ve (ones ps)) (h5 : PEs ps es w) (h6 : ∀ x, ve.ownBlock = some x → x < lim) : MSl base lim b s es w' :=
  ⟨vs, ve, ps, c1, c2, c3, c4, c5, c6, hb, h2.mt rfl u, by have := u.size; omega, h4.up u fun _ _ => .inl rfl, h5.mt rfl u, h6⟩

instance tmeth121FirstIndex : TMeth Pr 121 "FirstIndex" 351 := ⟨by kernel_rfl⟩
instance tmeth121LastIndex : TMeth Pr 121 "LastIndex" 352 := ⟨by kernel_rfl⟩
instance tmeth121Term : TMeth Pr 121 "Term" 354 := ⟨by kernel_rfl⟩

theorem k351 {base lim b : Nat} {s : Sn} {e : En} {es : List En} (hm : MSl base lim b s (e :: es) w) (hi : 0 ≤ e.i ∧ e.i ≤ 1000000000000000)
    (h : ∀ w', Up (fun x => x = b) [227] w w' → w'.heap.size = w.heap.size → MSl base lim b s (e :: es) w' → K (.tuple #[.int .u64 (e.i + 1), .nilIface]) w') : CK Pr 351 #[.pointer (some ⟨b, 0, none⟩)] w K := by
  refine c351 ?_
  unfold t351
  obtain ⟨vs, ve, ps, c1, c2, c3, c4, c5, c6, h1, h2, h3, h4, h5, h6⟩ := hm
  (repeat (first | (refine go ?_; intros) | (refine gon ?_; intros)))
  rename_i w1 u1 hb1 z1
  have hm1 : MSl base lim b s (e :: es) w1 := MSl.cnt u1 hb1 h2 h3 h4 h5 h6
  exact cl_fn (k123 hm1.ms hi (h w1 u1 z1 hm1))

theorem k355 {base lim b : Nat} {s : Sn} {e : En} {es : List En} (hm : MSl base lim b s (e :: es) w) (hi : 0 ≤ e.i ∧ e.i ≤ 1000000000000000) (hl : es.length ≤ 100000)
    (h : ∀ w', Ex w w' → w'.heap.size = w.heap.size → K (.int .u64 (e.i + es.length)) w') : CK Pr 355 #[.pointer (some ⟨b, 0, none⟩)] w K := by
  refine c355 ?_
  unfold t355
  refine dr_rule No [] fun w1 x1 z1 => ?_
  obtain ⟨vs, ve, ps, c1, c2, c3, c4, c5, c6, h1, h2, h3, h4, h5, h6⟩ := hm.ex x1
  have hl5 := h5.len
  cases h5 with
  | cons hp hr =>
    (repeat (first | (refine go ?_; intros) | (refine gon ?_; intros)))
    refine q_ixsE 0 h4.sl rfl rfl fun _ => ?_
    refine cl_fn (k124 hp ⟨.refl _ _ _, ?_⟩)
    (repeat (first | (refine go ?_; intros) | (refine gon ?_; intros)))
    refine q_lenSl h4.sl ?_
    rw [show (ones (_ :: _)).length = es.length + 1 by simpa [ones] using hl5]
    (repeat (first | (refine go ?_; intros) | (refine gon ?_; intros)))
    rw [wrapU (n := ((es.length + 1 : Nat) : Int)) (by omega) (by omega), wrapU (n := e.i + ((es.length + 1 : Nat) : Int)) (by omega) (by omega), wrapU (by omega) (by omega), show e.i + ((es.length + 1 : Nat) : Int) - 1 = e.i + es.length by omega]
    exact h _ x1 z1

theorem k352 {base lim b : Nat} {s : Sn} {e : En} {es : List En} (hm : MSl base lim b s (e :: es) w) (hi : 0 ≤ e.i ∧ e.i ≤ 1000000000000000) (hl : es.length ≤ 100000)
    (h : ∀ w', Up (fun x => x = b) [227] w w' → w'.heap.size = w.heap.size → MSl base lim b s (e :: es) w' → K (.tuple #[.int .u64 (e.i + es.length), .nilIface]) w') : CK Pr 352 #[.pointer (some ⟨b, 0, none⟩)] w K := by
  refine c352 ?_
  unfold t352
  obtain ⟨vs, ve, ps, c1, c2, c3, c4, c5, c6, h1, h2, h3, h4, h5, h6⟩ := hm
  (repeat (first | (refine go ?_; intros) | (refine gon ?_; intros)))
  rename_i w1 u1 hb1 z1
  have hm1 : MSl base lim b s (e :: es) w1 := MSl.cnt u1 hb1 h2 h3 h4 h5 h6
  exact cl_fn (k355 hm1 hi hl fun w2 x2 z2 => h w2 (u1.ex x2) (by omega) (hm1.ex x2))

theorem k354 {base lim b : Nat} {s : Sn} {e : En} {es : List En} {i : Int} {j : Nat} {x : En} (hm : MSl base lim b s (e :: es) w) (hi : 0 ≤ e.i ∧ e.i ≤ 1000000000000000) (hl : es.length ≤ 100000) (hij : i = e.i + j) (hx : (e :: es)[j]? = some x)
    (h : ∀ w', Up (fun x => x = b) [227] w w' → w'.heap.size = w.heap.size → MSl base lim b s (e :: es) w' → K (.tuple #[.int .u64 x.t, .nilIface]) w') : CK Pr 354 #[.pointer (some ⟨b, 0, none⟩), .int .u64 i] w K := by
  refine c354 ?_
  unfold t354
  obtain ⟨vs, ve, ps, c1, c2, c3, c4, c5, c6, h1, h2, h3, h4, h5, h6⟩ := hm
  have hj : j < es.length + 1 := by simpa using (List.getElem?_eq_some_iff.1 hx).1
  (repeat (first | (refine go ?_; intros) | (refine gon ?_; intros)))
  rename_i w1 u1 hb1 z1
  have hm1 : MSl base lim b s (e :: es) w1 := MSl.cnt u1 hb1 h2 h3 h4 h5 h6
  have h4' : Own w1 base 212 1 ve (ones ps) := h4.up u1 fun _ _ => .inl rfl
  have h5' : PEs ps (e :: es) w1 := h5.mt rfl u1
  have hlen := h5'.len
  have hx' := h5'
  obtain ⟨v, hv⟩ : ∃ v, ps[j]? = some v := by
    have : j < ps.length := by rw [hlen]; simpa using hj
    exact ⟨ps[j], by simp [this]⟩
  obtain ⟨x', hxe, hxp⟩ := h5'.get hv
  rw [hx] at hxe
  cases hxe
  obtain ⟨p0, hp0⟩ : ∃ v, ps[0]? = some v := by
    have : 0 < ps.length := by rw [hlen]; simp
    exact ⟨ps[0], by simp [this]⟩
  obtain ⟨x0, hx0, hp00⟩ := h5'.get hp0
  cases hx0
  refine q_ixs (x := p0) 0 h4'.sl rfl (by simp [ones, hp0]) fun _ => ?_
  refine cl_fn (k124 hp00 ?_)
  (repeat (first | (refine go ?_; intros) | (refine gon ?_; intros)))
  refine if_split (fun hb => ?_) (fun hb => ?_)
  · have := of_decide_eq_true hb
    omega
  (repeat (first | (refine go ?_; intros) | (refine gon ?_; intros)))
  refine q_lenSl h4'.sl ?_
  rw [show (ones ps).length = es.length + 1 by simpa [ones] using hlen]
  have e1 : IntKind.u64.wrap (i - e.i) = (j : Int) := by rw [wrapU (by omega) (by omega)]; omega
  (repeat (first | (refine go ?_; intros) | (refine gon ?_; intros)))
  rw [e1, wrap64 (by omega) (by omega)]
  refine if_split (fun hb => ?_) (fun hb => ?_)
  · have := of_decide_eq_true hb
    omega
  (repeat (first | (refine go ?_; intros) | (refine gon ?_; intros)))
  rw [e1]
  refine q_ixs (x := v) j h4'.sl rfl (by simp [ones, hv]) fun _ => ?_
  exact cl_fn (k128 hxp (h w1 u1 z1 hm1))

end Go.Proofs.YtmmpogfbhelioaaGreat
/-
  Contracts: the log over the storage.
  Conditions: each one's own.
-/
namespace Go.Proofs.YtmmpogfbhelioaaGreat
set_option maxRecDepth 10000
set_option linter.unusedVariables false
set_option linter.unusedSimpArgs false
theorem nmK11 {p : Prop} (h : p := by (try simp only [List.getElem?_toArray, List.getElem?_cons_zero, List.getElem?_cons_succ, List.setIfInBounds_toArray, List.set_cons_zero, List.set_cons_succ, List.toList_toArray, List.drop_zero, List.drop_succ_cons, List.take_zero, List.take_succ_cons, Nat.zero_add, Nat.add_zero, Nat.reduceAdd, putCells, Lg.cells]) <;> rfl) : p := h
theorem goK11 {G H : Prop} (h : H) (s : Stp G H := by (apply Stp.of; intro hS; (first | (refine q_ld bk_ nmK11 ?_) | (refine q_ldU bk_ rfl nmK11 ?_) | (refine q_ldW bk_ (by rfl) ?_) | (refine q_ldWU bk_ rfl (by rfl) ?_) | (refine q_ldP bk_ (Nat.le_of_ble_eq_true rfl) nmK11 ?_) | (refine q_ldPU bk_ rfl (Nat.le_of_ble_eq_true rfl) nmK11 ?_) | (refine q_ext nmK11 ?_) | (refine u_st bk_ (Nat.le_of_ble_eq_true rfl) (by first | rfl | assumption) nmK11 ?_) | (refine u_stA bk_ (Nat.le_of_ble_eq_true rfl) (by rfl) (by rfl) nmK11 ?_) | (refine q_field nmK11 ?_)); exact hS.out)) : G := s.f h
attribute [local irreducible] Instr.box Instr.alloc Instr.loadAt Instr.storeAt Instr.fieldAt Instr.indexAt Instr.build Instr.buildSlice Instr.makeSlice Instr.makeMap Instr.mapUpdate Instr.lookup Instr.range Instr.next Instr.entry Instr.extract Instr.makeInterface Instr.makeFunc Instr.sliceAt Instr.typeAssert Instr.field Instr.index Builtin.len_ Builtin.cap_ Builtin.max_ Builtin.min_ Builtin.append_ Builtin.copy_ Builtin.delete_ convert binS pickS nilS callV callM Op.unary Own Mp It Cu

variable {K : Value → World → Prop} {w : World} {te : Option Nat}

/-- A log as plain data: the storage's block, its snapshot and entries (with the one ahead of them), the snapshot and the entries that are not stable, and the marks. -/
structure Lg where
  sb : Nat
  s : Sn
  es : List En
  us : Option Sn
  un : List En
  off : Int
  sip : Bool
  oip : Int
  cm : Int
  ag : Int
  ap : Int
  mx : Int

def US (v : Value) : Option Sn → World → Prop
  | none, _ => v = .pointer none
  | some s, w => PS v s w
theorem US.mt {v : Value} {o : Option Sn} {C : Nat → Prop} {T : List Nat} {w' : World} (ok : okT T = true) (u : Up C T w w') (h : US v o w) : US v o w' := by
  cases o with
  | none => exact h
  | some s => exact PS.mt ok u h
theorem US.ex {v : Value} {o : Option Sn} {w' : World} (u : Ex w w') (h : US v o w) : US v o w' := h.mt rfl u
theorem US.one {v : Value} {o : Option Sn} (h : US v o w) : one v = true := by
  cases o with
  | none => cases h; rfl
  | some s => exact PS.one h
theorem US.sh {v : Value} {o : Option Sn} (h : US v o w) : ∃ a, v = .pointer a ∧ a.isNone = o.isNone := by
  cases o with
  | none => cases h; exact ⟨_, rfl, rfl⟩
  | some s =>
    obtain ⟨b, _, _, rfl, _⟩ := h
    exact ⟨_, rfl, rfl⟩

def Lg.cells (L : Lg) (vs ve : Value) : Array Value :=
  #[.iface 121 (.pointer (some ⟨L.sb, 0, none⟩)), vs, ve, .int .u64 L.off, .bool L.sip, .int .u64 L.oip, .int .u64 L.cm, .int .u64 L.ag, .int .u64 L.ap, .int .u64 L.mx, .int .u64 0, .bool false]

def LG (base lb : Nat) (L : Lg) (w : World) : Prop :=
  ∃ lim vs ve ps, Bk w lb (.cells (L.cells vs ve) 196 (0, 0)) ∧ MSl base lim L.sb L.s L.es w ∧ base ≤ lim ∧ lim ≤ w.heap.size ∧ US vs L.us w ∧ Own w lim 212 1 ve (ones ps) ∧ PEs ps L.un w ∧ base ≤ lb ∧ base ≤ L.sb ∧ L.sb < w.heap.size

structure Lg.Ok (L : Lg) : Prop where
  ne : ∃ e r, L.es = e :: r ∧ 0 ≤ e.i ∧ e.i ≤ 1000000000000000
  len : L.es.length ≤ 100000
  off : 0 ≤ L.off ∧ L.off ≤ 1000000000000000
  un : L.un.length ≤ 100000
  us : ∀ s, L.us = some s → 0 ≤ s.i ∧ s.i ≤ 1000000000000000

/-- The last index. -/
def Lg.last (L : Lg) : Int :=
  match L.un with
  | _ :: _ => L.off + L.un.length - 1
  | [] => match L.us, L.es with
    | some s, _ => s.i
    | none, e :: r => e.i + r.length
    | none, [] => 0
theorem Lg.Ok.last {L : Lg} (h : L.Ok) : 0 ≤ L.last + 1 ∧ L.last ≤ 1000000000200000 := by
  obtain ⟨⟨e, r, h1, h2, h3⟩, h4, h5, h6, h7⟩ := h
  unfold Lg.last
  cases hu : L.un with
  | cons x l => simp only; rw [hu] at h6; simp at h6 ⊢; omega
  | nil =>
    cases hs : L.us with
    | some s => simp only; have := h7 s hs; omega
    | none => rw [h1] at h4 ⊢; simp only [List.length_cons] at h4 ⊢; omega

theorem LG.up {base lb : Nat} {L : Lg} {C : Nat → Prop} {T : List Nat} {w' : World} (o : okT T = true) (u : Up C T w w') (hb : T.contains 198 = false ∨ ¬ C lb) (hs : T.contains 227 = false ∨ ¬ C L.sb) (hv : T.contains 214 = false ∨ ∀ x, base ≤ x → x < w.heap.size → ¬ C x) (h : LG base lb L w) : LG base lb L w' := by
  obtain ⟨lim, vs, ve, ps, h1, h2, h3, h4, h5, h6, h7, h8, h9, h10⟩ := h
  have z := u.size
  refine ⟨lim, vs, ve, ps, ?_, h2.up o u hs (hv.imp id fun hv x h1 h2 => hv x h1 (by omega)), h3, by omega, h5.mt o u, h6.up u fun x hx => hv.imp id fun hv => hv x (by have := (h6.lt x hx).1; omega) (h6.lt x hx).2, h7.mt o u, h8, h9, by omega⟩
  rcases hb with hb | hb
  · exact u.at_ h1 hb
  · exact u.off h1 hb
theorem LG.ex {base lb : Nat} {L : Lg} {w' : World} (u : Ex w w') (h : LG base lb L w) : LG base lb L w' := h.up rfl u (.inr id) (.inr id) (.inr fun _ _ _ => id)
/-- The log stands where neither it nor its storage nor lists of entries turn. -/
theorem LG.mt {base lb : Nat} {L : Lg} {C : Nat → Prop} {T : List Nat} {w' : World} (o : okT T = true) (h1 : T.contains 198 = false) (h2 : T.contains 227 = false) (h3 : T.contains 214 = false) (u : Up C T w w') (h : LG base lb L w) : LG base lb L w' := h.up o u (.inl h1) (.inl h2) (.inl h3)
/-- The storage's counters turned. -/
theorem LG.sto {base lb : Nat} {L : Lg} {w' : World} (u : Up (fun x => x = L.sb) [227] w w') (h : LG base lb L w) (hm : ∀ lim, MSl base lim L.sb L.s L.es w → MSl base lim L.sb L.s L.es w') : LG base lb L w' := by
  obtain ⟨lim, vs, ve, ps, h1, h2, h3, h4, h5, h6, h7, h8, h9, h10⟩ := h
  have z := u.size
  exact ⟨lim, vs, ve, ps, u.at_ h1 rfl, hm _ h2, h3, by omega, h5.mt rfl u, h6.up u fun _ _ => .inl rfl, h7.mt rfl u, h8, h9, by omega⟩

instance tfn351 : TFn Pr 351 := ⟨by kernel_rfl⟩
instance tfn352 : TFn Pr 352 := ⟨by kernel_rfl⟩
instance tfn354 : TFn Pr 354 := ⟨by kernel_rfl⟩

theorem k125 {base b : Nat} {s : Sn} {e : En} {es : List En} {n : Int} (hm : MS base b s (e :: es) w) (hb : base ≤ b) (hi : 0 ≤ e.i ∧ e.i ≤ 1000000000000000) (hl : es.length ≤ 100000) (hsz : b < w.heap.size)
    (h : ∀ lb w', Up (fun x => x = b) [227] w w' → w.heap.size ≤ lb → LG base lb ⟨b, s, e :: es, none, [], e.i + es.length + 1, false, e.i + es.length + 1, e.i, e.i, e.i, n⟩ w' → K (.pointer (some ⟨lb, 0, none⟩)) w') : CK Pr 125 #[.iface 121 (.pointer (some ⟨b, 0, none⟩)), .int .u64 n] w K := by
  refine c125 ?_
  unfold t125
  have hbase := hm.lim
  refine cl_m (k351 hm.lim hi fun w1 u1 z1 m1 => ?_)
  (repeat (first | (refine go ?_; intros) | (refine goK11 ?_; intros)))
  refine cl_m (k352 m1 hi hl fun w2 u2 z2 m2 => ?_)
  (repeat (first | (refine go ?_; intros) | (refine goK11 ?_; intros)))
  rw [wrapU (n := e.i + es.length + 1) (by omega) (by omega)]
  (repeat (first | (refine go ?_; intros) | (refine goK11 ?_; intros) | refine b194_2_4 (by first | rfl | assumption) (by first | rfl | assumption) ?_))
  rw [wrapU (n := e.i + 1 - 1) (by omega) (by omega), show e.i + 1 - 1 = e.i by omega]
  (repeat (first | (refine go ?_; intros) | (refine goK11 ?_; intros) | refine b196_0_1_5_2_3_4 (by first | rfl | assumption) (by first | rfl | assumption) (by first | rfl | assumption) (by first | rfl | assumption) (by first | rfl | assumption) ?_))
  rename_i lb w3 e3 hb3 s3 s4
  obtain ⟨vs, ve, ps, c1, c2, c3, c4, c5, c6, q1, q2, q3, q4, q5, q6⟩ := m2.ex e3
  refine h lb w3 ((u1.trans u2).ex e3) (by omega) ⟨w.heap.size, _, _, [], hb3, m2.ex e3, ?_, by omega, rfl, Own.nil _ _ _ _, .nil _, ?_, hb, ?_⟩
  all_goals
    have := u1.size
    have := u2.size
    obtain ⟨_, _, _, _, _, _, _, _, _, qb, _, qs, _⟩ := hm
    have := qb.lt
    first | omega | (show b < _; omega)

theorem k72 {base b : Nat} {s : Sn} {e : En} {es : List En} {n : Int} (hm : MS base b s (e :: es) w) (hb : base ≤ b) (hi : 0 ≤ e.i ∧ e.i ≤ 1000000000000000) (hl : es.length ≤ 100000) (hsz : b < w.heap.size)
    (h : ∀ lb w', Up (fun x => x = b) [227] w w' → w.heap.size ≤ lb → LG base lb ⟨b, s, e :: es, none, [], e.i + es.length + 1, false, e.i + es.length + 1, e.i, e.i, e.i, n⟩ w' → K (.pointer (some ⟨lb, 0, none⟩)) w') : CK Pr 72 #[.iface 121 (.pointer (some ⟨b, 0, none⟩)), .int .u64 n] w K := by
  refine c72 ?_
  unfold t72
  exact cl_fn (k125 hm hb hi hl hsz h)

theorem k73 {base lb : Nat} {L : Lg} {v : Value} {qs : List Value} {l : List En} {c a : Int} {w0 : World} (hL : LG base lb L w0) (e : Ex w0 w) (hv : Own w w0.heap.size 212 1 v (ones qs)) (hq : PEs qs l w)
    (h : ∀ w', Up (fun x => x = lb) [198] w w' → w'.heap.size = w.heap.size → LG base lb { L with un := l, cm := c, ag := a, ap := a } w' → K (.tuple #[]) w') : CK Pr 73 #[.pointer (some ⟨lb, 0, none⟩), v, .int .u64 c, .int .u64 a] w K := by
  refine c73 ?_
  unfold t73
  obtain ⟨lim, vs, ve, ps, h1, m0, l3, h4, h5, h6, h7, h8, h9, h10⟩ := hL
  have zz := e.size
  have m2 := m0.ex e
  have ho := hv.mono h4
  have h1' : Bk w lb _ := e.at_ h1
  clear h1
  have o1 := ho.sl.one
  (repeat (first | (refine go ?_; intros) | (refine goK11 ?_; intros)))
  rename_i w1 u1 hb1 z1 w2 u2 hb2 z2 w3 u3 hb3 z3 w4 u4 hb4 z4
  have u : Up (fun x => x = lb) [198] w w4 := ((u1.trans u2).trans u3).trans u4
  refine h w4 u (by omega) ⟨lim, vs, v, qs, hb4, m2.up rfl u (.inl rfl) (.inl rfl), l3, by omega, (h5.ex e).mt rfl u, ho.up u fun _ _ => .inl rfl, hq.mt rfl u, h8, h9, by show L.sb < _; omega⟩

theorem k158 {base lb : Nat} {L : Lg} (hL : LG base lb L w) (hok : L.Ok)
    (h : K (.tuple #[.int .u64 (match L.un with | _ :: _ => L.last | [] => match L.us with | some s => s.i | none => 0), .bool (match L.un with | _ :: _ => true | [] => L.us.isSome)]) w) : CK Pr 158 #[.pointer (some ⟨lb, 1, none⟩)] w K := by
  refine c158 ?_
  unfold t158
  obtain ⟨lim, vs, ve, ps, h1, h2, h3, h4, h5, h6, h7, h8, h9, h10⟩ := hL
  have hl := h7.len
  (repeat (first | (refine go ?_; intros) | (refine goK11 ?_; intros)))
  refine q_lenSl h6.sl ?_
  rw [show (ones ps).length = L.un.length by simp [ones, hl]]
  obtain ⟨_, _, hoff, hun, _⟩ := hok
  cases hu : L.un with
  | cons x l =>
    rw [hu] at h hun
    (repeat (first | (refine go ?_; intros) | (refine goK11 ?_; intros)))
    have e1 : IntKind.u64.wrap (IntKind.u64.wrap (L.off + IntKind.u64.wrap ((x :: l).length : Nat)) - 1) = L.last := by
      simp only [Lg.last, hu]
      rw [wrapU (n := ((x :: l).length : Nat)) (by omega) (by omega), wrapU (n := L.off + ((x :: l).length : Nat)) (by omega) (by omega), wrapU (by simp; omega) (by omega)]
    rw [e1]
    exact h
  | nil =>
    rw [hu] at h
    (repeat (first | (refine go ?_; intros) | (refine goK11 ?_; intros)))
    cases hs : L.us with
    | none =>
      rw [hs] at h h5
      cases h5
      (repeat (first | (refine go ?_; intros) | (refine goK11 ?_; intros)))
      exact h
    | some s =>
      rw [hs] at h h5
      have h5' : PS vs s w := h5
      have h55 := h5'
      obtain ⟨b', _, _, rfl, _⟩ := h55
      (repeat (first | (refine go ?_; intros) | (refine goK11 ?_; intros)))
      refine cl_fn (k95 h5' fun vm hvm => ?_)
      refine cl_fn (k96 hvm ?_)
      exact h

theorem k104 {base lb : Nat} {L : Lg} (hL : LG base lb L w) (hok : L.Ok)
    (h : ∀ w', Up (fun x => x = L.sb) [227] w w' → w'.heap.size = w.heap.size → LG base lb L w' → K (.int .u64 L.last) w') : CK Pr 104 #[.pointer (some ⟨lb, 0, none⟩)] w K := by
  refine c104 ?_
  unfold t104
  (repeat (first | (refine go ?_; intros) | (refine goK11 ?_; intros)))
  refine cl_fn (k158 hL hok ?_)
  cases hu : L.un with
  | cons x l =>
    (repeat (first | (refine go ?_; intros) | (refine goK11 ?_; intros)))
    exact h w (.refl _ _ _) rfl hL
  | nil =>
    cases hs : L.us with
    | some s =>
      (repeat (first | (refine go ?_; intros) | (refine goK11 ?_; intros)))
      have := h w (.refl _ _ _) rfl hL
      simp only [Lg.last, hu, hs] at this
      exact this
    | none =>
      obtain ⟨⟨e, r, he, hi⟩, hlen, _, _, _⟩ := hok
      obtain ⟨lim, vs, ve, ps, h1, h2, h3, h4, h5, h6, h7, h8, h9, h10⟩ := hL
      (repeat (first | (refine go ?_; intros) | (refine goK11 ?_; intros)))
      have hlen' : r.length ≤ 100000 := by rw [he] at hlen; simp at hlen; omega
      refine cl_m (k352 (he ▸ h2) hi hlen' fun w1 u1 z1 m1 => ?_)
      (repeat (first | (refine go ?_; intros) | (refine goK11 ?_; intros)))
      have zz := u1.size
      have hL1 : LG base lb L w1 := ⟨lim, vs, ve, ps, u1.at_ h1 rfl, by rw [he]; exact m1, h3, by omega, h5.mt rfl u1, h6.up u1 fun _ _ => .inl rfl, h7.mt rfl u1, h8, h9, by omega⟩
      have := h w1 u1 z1 hL1
      simp only [Lg.last, hu, hs, he] at this
      exact this

theorem k77 {base lb : Nat} {L : Lg} (hL : LG base lb L w) (hok : L.Ok)
    (h : ∀ w', Up (fun x => x = L.sb) [227] w w' → w'.heap.size = w.heap.size → LG base lb L w' → K (.int .u64 L.last) w') : CK Pr 77 #[.pointer (some ⟨lb, 0, none⟩)] w K := by
  refine c77 ?_
  unfold t77
  exact cl_fn (k104 hL hok h)

theorem k85 {lb : Nat} (h : K (.pointer (some ⟨lb, 1, none⟩)) w) : CK Pr 85 #[.pointer (some ⟨lb, 0, none⟩)] w K := by
  refine c85 ?_
  unfold t85
  (repeat (first | (refine go ?_; intros) | (refine goK11 ?_; intros)))
  exact h

theorem k84 {base lb : Nat} {L : Lg} (hL : LG base lb L w)
    (h : ∀ vs ve ps w', Ex w w' → w'.heap.size = w.heap.size → US vs L.us w' → Sl w' (some 212) 1 ve (ones ps) → PEs ps L.un w' → K (.tuple #[vs, ve, .int .u64 L.off, .bool L.sip, .int .u64 L.oip]) w') : CK Pr 84 #[.pointer (some ⟨lb, 1, none⟩)] w K := by
  refine c84 ?_
  unfold t84
  obtain ⟨lim, vs, ve, ps, h1, h2, h3, h4, h5, h6, h7, h8, h9, h10⟩ := hL
  refine dr_rule No [] fun w1 x1 z1 => ?_
  have hb : Bk w1 lb _ := x1.at_ h1
  (repeat (first | (refine go ?_; intros) | (refine goK11 ?_; intros)))
  exact h vs ve ps w1 x1 z1 (h5.ex x1) (h6.ex x1).sl (h7.ex x1)

theorem k89 {base lb : Nat} {L : Lg} (hL : LG base lb L w)
    (h : ∀ w', Ex w w' → w'.heap.size = w.heap.size → K (.tuple #[.int .u64 L.cm, .int .u64 L.ag, .int .u64 L.ap, .bool false]) w') : CK Pr 89 #[.pointer (some ⟨lb, 0, none⟩)] w K := by
  refine c89 ?_
  unfold t89
  obtain ⟨lim, vs, ve, ps, h1, h2, h3, h4, h5, h6, h7, h8, h9, h10⟩ := hL
  refine dr_rule No [] fun w1 x1 z1 => ?_
  have hb : Bk w1 lb _ := x1.at_ h1
  (repeat (first | (refine go ?_; intros) | (refine goK11 ?_; intros)))
  exact h w1 x1 z1

end Go.Proofs.YtmmpogfbhelioaaGreat
/-
  Contracts: the tracker's parts; sets of members.
  Conditions: each one's own.
-/
namespace Go.Proofs.YtmmpogfbhelioaaGreat
set_option maxRecDepth 10000
set_option linter.unusedVariables false
set_option linter.unusedSimpArgs false
theorem nmK12 {p : Prop} (h : p := by (try simp only [List.getElem?_toArray, List.getElem?_cons_zero, List.getElem?_cons_succ, List.setIfInBounds_toArray, List.set_cons_zero, List.set_cons_succ, List.toList_toArray, List.drop_zero, List.drop_succ_cons, List.take_zero, List.take_succ_cons, Nat.zero_add, Nat.add_zero, Nat.reduceAdd, putCells, Pe.pcells]) <;> rfl) : p := h
theorem goK12 {G H : Prop} (h : H) (s : Stp G H := by (apply Stp.of; intro hS; (first | (refine q_ld bk_ nmK12 ?_) | (refine q_ldU bk_ rfl nmK12 ?_) | (refine q_ldW bk_ (by rfl) ?_) | (refine q_ldWU bk_ rfl (by rfl) ?_) | (refine q_ldP bk_ (Nat.le_of_ble_eq_true rfl) nmK12 ?_) | (refine q_ldPU bk_ rfl (Nat.le_of_ble_eq_true rfl) nmK12 ?_) | (refine q_ext nmK12 ?_) | (refine u_st bk_ (Nat.le_of_ble_eq_true rfl) (by first | rfl | assumption) nmK12 ?_) | (refine u_stA bk_ (Nat.le_of_ble_eq_true rfl) (by rfl) (by rfl) nmK12 ?_) | (refine q_field nmK12 ?_)); exact hS.out)) : G := s.f h
attribute [local irreducible] Instr.box Instr.alloc Instr.loadAt Instr.storeAt Instr.fieldAt Instr.indexAt Instr.build Instr.buildSlice Instr.makeSlice Instr.makeMap Instr.mapUpdate Instr.lookup Instr.range Instr.next Instr.entry Instr.extract Instr.makeInterface Instr.makeFunc Instr.sliceAt Instr.typeAssert Instr.field Instr.index Builtin.len_ Builtin.cap_ Builtin.max_ Builtin.min_ Builtin.append_ Builtin.copy_ Builtin.delete_ convert binS pickS nilS callV callM Op.unary Own Mp It Cu

variable {K : Value → World → Prop} {w : World} {te : Option Nat}

/-- A set as a map. -/
def ms (l : List Int) : KV := l.map fun x => (x, .agg #[])
theorem put_ms {l : List Int} {x : Int} (h : x ∉ l) : put (ms l) x (.agg #[]) = ms (l ++ [x]) := by
  induction l with
  | nil => rfl
  | cons y r ih =>
    have h1 : y ≠ x := fun e => h (e ▸ List.mem_cons_self ..)
    simp only [ms, List.map_cons, put, if_neg h1, List.cons_append] at ih ⊢
    rw [ih (fun hx => h (List.mem_cons_of_mem _ hx))]
theorem lk_ms {l : List Int} {x : Int} : lk (ms l) x = if x ∈ l then some (.agg #[]) else none := by
  induction l with
  | nil => rfl
  | cons y r ih =>
    simp only [ms, List.map_cons, lk] at ih ⊢
    by_cases h : y = x
    · simp [h]
    · rw [if_neg h, ih]
      have : x ≠ y := fun e => h e.symm
      simp [List.mem_cons, this]

theorem notin_take {α : Type} : ∀ {l : List α} {j : Nat} {x : α}, l.Nodup → l[j]? = some x → x ∉ l.take j
  | [], j, x, _, h => by simp at h
  | y :: r, 0, x, _, _ => by simp
  | y :: r, j + 1, x, hn, h => by
    have hn' := List.nodup_cons.1 hn
    rw [List.take_succ_cons, List.mem_cons]
    rintro (rfl | h2)
    · exact hn'.1 (List.mem_of_getElem? (by simpa using h))
    · exact notin_take hn'.2 (by simpa using h) h2

theorem k75 {v : Value} {l : List Int} (hv : Nums w te v l) (hl : l.length ≤ 1000000) (hn : l.Nodup) (h : ∀ b w', Ex w w' → w.heap.size ≤ b → Mp w' b (ms l) → K (.map (some b)) w') : CK Pr 75 #[v] w K := by
  refine c75 ?_
  unfold t75
  refine e_mkmap (by intro v hv; cases hv) fun w1 e1 m1 s1 => ?_
  refine q_lenSl hv ?_
  rw [nums_len]
  refine loop_n (α := Nat) (fun j τ w' => g τ 1 = .int .i64 j ∧ j ≤ l.length ∧ Ex w w' ∧ Mp w' w.heap.size (ms (l.take j))) (fun j => l.length - j) 0 ⟨rfl, Nat.zero_le _, e1, by simpa [ms] using m1⟩ ?_
  intro j τ w' R ⟨hj, hle, hex, hm⟩ hR
  rw [hj]
  (repeat (first | (refine go ?_; intros) | (refine goK12 ?_; intros)))
  refine if_split (fun hb => ?_) (fun hb => ?_)
  · have hj' : j < l.length := by simpa using hb
    obtain ⟨x, hx⟩ : ∃ x, l[j]? = some x := ⟨_, List.getElem?_eq_getElem hj'⟩
    refine q_ixs (x := .int .u64 x) j (hv.ex hex) rfl (by simp [nums, hx]) fun _ => ?_
    (repeat (first | (refine go ?_; intros) | (refine goK12 ?_; intros) | refine b156_  ?_))
    refine u_put hm fun w2 u2 m2 z2 => ?_
    (repeat (first | (refine go ?_; intros) | (refine goK12 ?_; intros)))
    rw [wrapS (by omega)]
    have hnx : x ∉ l.take j := notin_take hn hx
    refine hR (j + 1) _ _ ⟨rfl, by omega, hex.new u2 (by intro b hb; subst hb; exact Nat.le_refl _), ?_⟩ (by omega)
    rw [take_snoc hx, ← put_ms hnx]
    exact m2
  · have hjl : j = l.length := by
      have : ¬ ((j : Int) < _) := of_decide_eq_false hb
      omega
    subst hjl
    refine h _ _ hex (Nat.le_refl _) ?_
    simpa using hm

/-- A map, or nil: the empty one. -/
def MpO (w : World) (o : Option Nat) (l : KV) : Prop := match o with | none => l = [] | some b => Mp w b l
theorem MpO.ex {w' : World} {o : Option Nat} {l : KV} (e : Ex w w') (h : MpO w o l) : MpO w' o l := by
  cases o with
  | none => exact h
  | some b => exact Mp.ex e h
theorem MpO.up {C : Nat → Prop} {T : List Nat} {w' : World} {o : Option Nat} {l : KV} (e : Up C T w w') (h : MpO w o l) (hc : T.contains 0 = false ∨ ∀ b, o = some b → ¬ C b) : MpO w' o l := by
  cases o with
  | none => exact h
  | some b => exact Mp.up e h (hc.imp id fun h => h b rfl)

theorem k76 {v : Value} {l : List Int} (hv : Nums w te v l) (hl : l.length ≤ 1000000) (hn : l.Nodup) (h : ∀ o w', Ex w w' → (∀ b, o = some b → w.heap.size ≤ b) → MpO w' o (ms l) → K (.map o) w') : CK Pr 76 #[v] w K := by
  refine c76 ?_
  unfold t76
  refine q_lenSl hv ?_
  rw [nums_len]
  by_cases h0 : l = []
  · subst h0
    (repeat (first | (refine go ?_; intros) | (refine goK12 ?_; intros)))
    exact h none w (.refl _ _ _) (by intro b hb; cases hb) rfl
  have hz : l.length ≠ 0 := fun e => h0 (List.eq_nil_of_length_eq_zero e)
  (repeat (first | (refine go ?_; intros) | (refine goK12 ?_; intros)))
  refine if_split (fun hb => absurd (by simpa using hb) h0) (fun _ => ?_)
  refine e_mkmap (by intro v hv; cases hv) fun w1 e1 m1 s1 => ?_
  refine q_lenSl (hv.ex e1) ?_
  rw [nums_len]
  refine loop_n (α := Nat) (fun j τ w' => g τ 1 = .int .i64 j ∧ j ≤ l.length ∧ Ex w w' ∧ Mp w' w.heap.size (ms (l.take j))) (fun j => l.length - j) 0 ⟨rfl, Nat.zero_le _, e1, by simpa [ms] using m1⟩ ?_
  intro j τ w' R ⟨hj, hle, hex, hm⟩ hR
  rw [hj]
  (repeat (first | (refine go ?_; intros) | (refine goK12 ?_; intros)))
  refine if_split (fun hb => ?_) (fun hb => ?_)
  · have hj' : j < l.length := by simpa using hb
    obtain ⟨x, hx⟩ : ∃ x, l[j]? = some x := ⟨_, List.getElem?_eq_getElem hj'⟩
    refine q_ixs (x := .int .u64 x) j (hv.ex hex) rfl (by simp [nums, hx]) fun _ => ?_
    (repeat (first | (refine go ?_; intros) | (refine goK12 ?_; intros) | refine b156_  ?_))
    refine u_put hm fun w2 u2 m2 z2 => ?_
    (repeat (first | (refine go ?_; intros) | (refine goK12 ?_; intros)))
    rw [wrapS (by omega)]
    have hnx : x ∉ l.take j := notin_take hn hx
    refine hR (j + 1) _ _ ⟨rfl, by omega, hex.new u2 (by intro b hb; subst hb; exact Nat.le_refl _), ?_⟩ (by omega)
    rw [take_snoc hx, ← put_ms hnx]
    exact m2
  · have hjl : j = l.length := by
      have : ¬ ((j : Int) < _) := of_decide_eq_false hb
      omega
    subst hjl
    refine h (some w.heap.size) _ hex (by intro b hb; cases hb; exact Nat.le_refl _) ?_
    show Mp _ _ _
    simpa using hm

/-! Progress. -/

structure Pg where
  ma : Int
  ne : Int
  sc : Int
  st : Int
  pend : Int
  act : Bool
  pau : Bool
  le : Bool
  size : Int
  mx : Int

def Inf (ib : Nat) (size mx : Int) (w : World) : Prop := Bk w ib (.cells #[.int .i64 0, .int .i64 0, .int .u64 0, .int .i64 size, .int .u64 mx, .slice none 0 0] 230 (0, 0))
def Pg.cells (q : Pg) (ib : Nat) : Array Value := #[.int .u64 q.ma, .int .u64 q.ne, .int .u64 q.sc, .int .u64 q.st, .int .u64 q.pend, .bool q.act, .bool q.pau, .pointer (some ⟨ib, 0, none⟩), .bool q.le]

/-- Block b is a progress, with its inflights. -/
def PG (base b : Nat) (q : Pg) (w : World) : Prop := base ≤ b ∧ ∃ ib, base ≤ ib ∧ Bk w b (.cells (q.cells ib) 152 (0, 0)) ∧ Inf ib q.size q.mx w
theorem PG.up {base b : Nat} {q : Pg} {C : Nat → Prop} {T : List Nat} {w' : World} (u : Up C T w w') (h1 : T.contains 154 = false ∨ ¬ C b) (h2 : T.contains 232 = false) (h : PG base b q w) : PG base b q w' := by
  obtain ⟨hb, ib, hi, hp, hf⟩ := h
  refine ⟨hb, ib, hi, ?_, u.at_ hf h2⟩
  rcases h1 with h1 | h1
  · exact u.at_ hp h1
  · exact u.off hp h1
theorem PG.ex {base b : Nat} {q : Pg} {w' : World} (u : Ex w w') (h : PG base b q w) : PG base b q w' := h.up u (.inl rfl) rfl
theorem PG.lt {base b : Nat} {q : Pg} (h : PG base b q w) : b < w.heap.size := by
  obtain ⟨_, ib, _, hp, _⟩ := h
  exact hp.lt

theorem k78 {n mx : Int} (h : ∀ ib w', Ex w w' → w.heap.size ≤ ib → Inf ib n mx w' → K (.pointer (some ⟨ib, 0, none⟩)) w') : CK Pr 78 #[.int .i64 n, .int .u64 mx] w K := by
  refine c78 ?_
  unfold t78
  (repeat (first | (refine go ?_; intros) | (refine goK12 ?_; intros) | refine b230_3_4 (by first | rfl | assumption) (by first | rfl | assumption) ?_))
  rename_i ib w1 e1 hb1 s1 s2
  exact h ib w1 e1 (by omega) hb1

theorem k79 {base : Nat} {p : Pe} (h1 : Nums w none p.flV p.fl) (h2 : Nums w none p.byV p.byt) (hf : p.fl = []) (hst : 0 ≤ p.st ∧ p.st ≤ 1) (hbase : base ≤ w.heap.size)
    (h : ∀ b w', Ex w w' → w.heap.size ≤ b → PG base b ⟨p.ma, p.ne, 0, p.st, p.pend, p.act, p.pau, p.lea, p.size, p.mx⟩ w' → K (.pointer (some ⟨b, 0, none⟩)) w') : CK Pr 79 #[.agg p.pcells.toArray] w K := by
  refine c79 ?_
  unfold t79
  unfold Pe.pcells
  have o1 := h1.one
  have o2 := h2.one
  (repeat (first | (refine go ?_; intros) | (refine goK12 ?_; intros)))
  rename_i b1 w1 e1 hb1 s1 s2
  refine cl_fn (k78 fun ib w2 e2 s3 hi => ?_)
  refine loop_n (α := Unit) (fun _ τ w' => g τ 0 = .int .i64 0 ∧ w' = w2) (fun _ => 0) () ⟨rfl, rfl⟩ ?_
  rintro _ τ w' R ⟨hj, rfl⟩ hR
  rw [hj]
  have h1' : Nums w' none p.flV [] := by rw [← hf]; exact (h1.ex e1).ex e2
  (repeat (first | (refine go ?_; intros) | (refine goK12 ?_; intros)))
  have e3 : IntKind.u64.wrap p.st = p.st := wrapU (by omega) (by omega)
  try rw [e3]
  (repeat (first | (refine go ?_; intros) | (refine goK12 ?_; intros) | refine b152_0_1_3_4_5_6_8_7 (by first | rfl | assumption) (by first | rfl | assumption) (by first | rfl | assumption) (by first | rfl | assumption) (by first | rfl | assumption) (by first | rfl | assumption) (by first | rfl | assumption) (by first | rfl | assumption) ?_))
  rename_i b3 w3 e4 hb3 s4 s5
  have z1 := e1.size
  have z2 := e2.size
  exact h b3 w3 ex_ (by omega) ⟨by omega, ib, by omega, hb3, e4.at_ hi⟩

theorem k127 (h : ∀ b rb w', Ex w w' → w.heap.size ≤ b → Bk w' b (.cells #[.int .i64 0, .map (some rb), .slice none 0 0, .int .u64 0] 265 (0, 0)) → K (.pointer (some ⟨b, 0, none⟩)) w') : CK Pr 127 #[.int .i64 0] w K := by
  refine c127 ?_
  unfold t127
  refine e_mkmap (by intro v hv; cases hv) fun w1 e1 m1 s1 => ?_
  (repeat (first | (refine go ?_; intros) | (refine goK12 ?_; intros) | refine b265_0_1 (by first | rfl | assumption) (by first | rfl | assumption) ?_))
  rename_i b2 w2 e2 hb2 s2 s3
  exact h b2 _ w2 ex_ (by omega) hb2

theorem k74 {n mx : Int} (h : ∀ vb pm vt w', Ex w w' → w.heap.size ≤ vb → w.heap.size ≤ pm → w.heap.size ≤ vt → vb ≠ pm → vb ≠ vt → pm ≠ vt → Mp w' vb [] → Mp w' pm [] → Mp w' vt [] →
    K (.agg #[.map (some vb), .map none, .bool false, .map none, .map none, .map (some pm), .map (some vt), .int .i64 n, .int .u64 mx]) w') : CK Pr 74 #[.int .i64 n, .int .u64 mx] w K := by
  refine c74 ?_
  unfold t74
  (repeat (first | (refine go ?_; intros) | (refine goK12 ?_; intros)))
  rename_i b1 w1 e1 hb1 s1 s2
  refine e_mkmap (by intro v hv; cases hv) fun w2 e2 m2 s3 => ?_
  (repeat (first | (refine go ?_; intros) | (refine goK12 ?_; intros) | refine b134_0_1 (by first | rfl | assumption) (by first | rfl | assumption) ?_ | refine b136_0_2_3 (by first | rfl | assumption) (by first | rfl | assumption) ?_))
  refine e_mkmap (by intro v hv; cases hv) fun w3 e3 m3 s4 => ?_
  refine e_mkmap (by intro v hv; cases hv) fun w4 e4 m4 s5 => ?_
  have hb1' : Bk w4 b1 _ := e4.at_ (e3.at_ (e2.at_ hb1))
  (repeat (first | (refine go ?_; intros) | (refine goK12 ?_; intros) | refine b141_3_4_0_2_1 (by first | rfl | assumption) (by first | rfl | assumption) (by first | rfl | assumption) (by first | rfl | assumption) ?_))
  rename_i b5 w5 e5 hb5 sa sb w6 u6 hb6 z6 w7 u7 hb7 z7
  have z1 := e1.size
  have z2 := e2.size
  have z3 := e3.size
  have z4 := e4.size
  exact h _ _ _ w7 ex_ (by omega) (by omega) (by omega) (by omega) (by omega) (by omega)
    ((((((m2.ex e3).ex e4).ex e5).up u6 (.inl rfl)).up u7 (.inl rfl))) (((((m4).ex e5).up u6 (.inl rfl)).up u7 (.inl rfl))) ((((m3.ex e4).ex e5).up u6 (.inl rfl)).up u7 (.inl rfl))

end Go.Proofs.YtmmpogfbhelioaaGreat
/-
  Rules: slices of two elements; arrays' elements and slices.
  Conditions: elements of one cell.
-/
namespace Go.Proofs.YtmmpogfbhelioaaGreat
set_option maxRecDepth 10000
set_option linter.unusedVariables false
set_option linter.unusedSimpArgs false
variable {P : Program} {w : World} {S : World → Prop}

theorem TArr.facts (t k e n : Nat) [h : TArr P t k e n] : ∃ i, P.underlying t = some (.array k e) ∧ P.info? e = some i ∧ i.size = n ∧ n ≠ 0 := by
  have hk := h.ok
  unfold tarrB at hk
  split at hk
  · rename_i k' e' hu
    simp only [Bool.and_eq_true] at hk
    obtain ⟨⟨h1, h2⟩, h3⟩ := hk
    have h1 := Nat.eq_of_beq_eq_true h1
    have h2 := Nat.eq_of_beq_eq_true h2
    subst h1 h2
    split at h3
    · rename_i i hi
      simp only [Bool.and_eq_true] at h3
      have h4 := Nat.eq_of_beq_eq_true h3.1
      refine ⟨i, hu, hi, h4, ?_⟩
      intro h0
      rw [h0] at h4
      rw [h4] at h3
      simp at h3
    · cases h3
  · cases hk

theorem q_ia {t k e n b o : Nat} [TArr P t k e n] {K : Value → Prop} {i : Int} {q : IntKind} (j : Nat) (hi : i = j) (hj : j < k) (kk : K (.pointer (some ⟨b, o + j * n, none⟩))) : Qu P S (Instr.indexAt t (.pointer (some ⟨b, o, none⟩)) (.int q i)) K := by
  obtain ⟨inf, hu, hinf, hn, hn0⟩ := TArr.facts (P := P) t k e n
  subst hi
  have h1 : (0 : Int) ≤ j ∧ (j : Int) < k := by omega
  refine .mk _ (fun w' _ => ?_) kk
  simp only [Instr.indexAt, asIntOf, Sem.run_bind, Sem.run_pure, Result.andThen_ok, run_und hu, Instr.sureAddr]
  rw [if_pos h1]
  simp [add_addr, run_size hinf, hn]

theorem q_slArr {t k e n b o : Nat} [TArr P t k e n] {K : Value → Prop} {i : Int} {q : IntKind} (j : Nat) (hi : i = j) (hj : j ≤ k) (hk : k ≠ 0) (kk : K (.slice (some ⟨b, o, none⟩) j k)) : Qu P S (Instr.sliceAt t (.pointer (some ⟨b, o, none⟩)) none (some (.int q i)) none) K := by
  obtain ⟨inf, hu, hinf, hn, hn0⟩ := TArr.facts (P := P) t k e n
  subst hi
  have h1 : (0 : Int) ≤ j ∧ (j : Int) ≤ k := by omega
  refine .mk _ (fun w' _ => ?_) kk
  simp only [Instr.sliceAt, Sem.run_bind, run_und hu, Result.andThen_ok, Instr.sureAddr, Instr.sliceBounds, Instr.sliceBound, asIntOf, Sem.run_pure, if_pos h1, run_size hinf, Int.toNat_natCast, Nat.sub_zero, Nat.zero_mul, if_neg hk, add_addr, Nat.add_zero]

variable {KW : Value → World → Prop}
/-- A slice of two elements. -/
theorem e_bs2 {t e by' : Nat} [TSli P t e 1] [TElm P e 1 by'] {x y : Value} (hx : one x = true) (hy : one y = true)
    (k : ∀ w', Ex w w' → Own w' w.heap.size e 1 (.slice (some ⟨w.heap.size, 0, none⟩) 2 2) [[x], [y]] → w'.heap.size = w.heap.size + 1 → KW (.slice (some ⟨w.heap.size, 0, none⟩) 2 2) w') :
    Ef P (Instr.buildSlice t 2 #[(0, x), (1, y)]) w KW := by
  obtain ⟨i, z', hi, hz, his, hib, hzs, h0⟩ := TElm.facts (P := P) e 1 by'
  haveI : TZero P e z' := ⟨by rw [hi]; exact hz⟩
  have hcx := one_cells' hx
  have hcy := one_cells' hy
  have hf : Instr.fill (fun i => some (i * 1, 1)) ((Array.range (2 * 1)).map (z'.cells[· % z'.cells.size]!)) #[(0, x), (1, y)].toList = some #[x, y] := by
    rw [show #[(0, x), (1, y)].toList = [(0, x), (1, y)] from rfl, fill_cons rfl (by rw [hcx]; rfl) (by simp), fill_cons rfl (by rw [hcy]; rfl) (by simp [hcx, putCells]), Instr.fill, hcx, hcy]
    simp [putCells]
    apply Array.ext
    · simp
    · intro j h1 h2
      simp at h2
      have : j = 0 ∨ j = 1 := by omega
      rcases this with rfl | rfl <;> simp
  refine .mk _ _ (run_bs (P := P) (t := t) (e := e) (n := 1) (m := 2) (cs := #[x, y]) (by omega) (by omega) hf) (k _ (Up.alloc _ _) ⟨⟨?_, .inr ⟨_, 2, #[x, y], rfl, Nat.le_refl _, Bk.alloc_new _ _, Nat.le_refl _, by simp [maxLen], by simp, ?_⟩⟩, ?_⟩ (by simp))
  · simp
  · simp
  · intro u hu
    simp at hu
    rcases hu with rfl | rfl <;> rfl

end Go.Proofs.YtmmpogfbhelioaaGreat
/-
  The machine in memory; contract: it is made of its parts.
  Conditions: each one's own.
-/
namespace Go.Proofs.YtmmpogfbhelioaaGreat
set_option maxRecDepth 10000
set_option linter.unusedVariables false
set_option linter.unusedSimpArgs false
attribute [local irreducible] Instr.box Instr.alloc Instr.loadAt Instr.storeAt Instr.fieldAt Instr.indexAt Instr.build Instr.buildSlice Instr.makeSlice Instr.makeMap Instr.mapUpdate Instr.lookup Instr.range Instr.next Instr.entry Instr.extract Instr.makeInterface Instr.makeFunc Instr.sliceAt Instr.typeAssert Instr.field Instr.index Builtin.len_ Builtin.cap_ Builtin.max_ Builtin.min_ Builtin.append_ Builtin.copy_ Builtin.delete_ convert binS pickS nilS callV callM Op.unary Own Mp It Cu

variable {K : Value → World → Prop} {w : World} {te : Option Nat}

/-- The fields of a machine in memory. -/
structure Rf where
  id : Int
  term : Int
  vote : Int
  lb : Nat
  mm : Int
  mu : Int
  vb : Option Nat
  v1 : Option Nat
  al : Bool
  lm : Option Nat
  lx : Option Nat
  pm : Nat
  vt : Nat
  mi : Int
  mb : Int
  st : Int
  il : Bool
  ms : Value
  af : Value
  lead : Int
  tr : Int
  pc : Int
  us : Int
  ro : Nat
  ee : Int
  he : Int
  cq : Bool
  pv : Bool
  ht : Int
  et : Int
  rt : Int
  tick : Value
  step : Value

def Rf.cells (r : Rf) : Array Value :=
  #[.int .u64 r.id, .int .u64 r.term, .int .u64 r.vote, .slice none 0 0, .pointer (some ⟨r.lb, 0, none⟩), .int .u64 r.mm, .int .u64 r.mu, .map r.vb, .map r.v1, .bool r.al, .map r.lm, .map r.lx, .map (some r.pm), .map (some r.vt), .int .i64 r.mi, .int .u64 r.mb,
    .int .u64 r.st, .bool r.il, r.ms, r.af, .int .u64 r.lead, .int .u64 r.tr, .int .u64 r.pc, .bool false, .int .u64 r.us, .pointer (some ⟨r.ro, 0, none⟩), .int .i64 r.ee, .int .i64 r.he, .bool r.cq, .bool r.pv, .int .i64 r.ht, .int .i64 r.et, .int .i64 r.rt, .bool false, .bool false, r.tick, r.step,
    .slice none 0 0, .slice none 0 0, .int .i64 0]

/-- A machine's reads that wait. -/
def RdO (b : Nat) (w : World) : Prop := ∃ rb, Bk w b (.cells #[.int .i64 0, .map (some rb), .slice none 0 0, .int .u64 0] 265 (0, 0))
theorem RdO.ex {b : Nat} {w' : World} (u : Ex w w') (h : RdO b w) : RdO b w' := by
  obtain ⟨rb, h⟩ := h
  exact ⟨rb, u.at_ h⟩
theorem RdO.mt {b : Nat} {C : Nat → Prop} {T : List Nat} {w' : World} (u : Up C T w w') (hT : T.contains 267 = false) (h : RdO b w) : RdO b w' := by
  obtain ⟨rb, h⟩ := h
  exact ⟨rb, u.at_ h hT⟩

theorem k80 {id term vote lead tr st mm mu us : Int} {il pv cq : Bool} {et ht rt ee he : Int} {lb pm vt : Nat} {vb v1 lm lx : Option Nat} {al : Bool} {mi mb : Int}
    (h : ∀ b ro w', Ex w w' → w.heap.size ≤ b → w.heap.size ≤ ro → RdO ro w' →
      Bk w' b (.cells (Rf.cells ⟨id, term, vote, lb, mm, mu, vb, v1, al, lm, lx, pm, vt, mi, mb, st, il, .slice none 0 0, .slice none 0 0, lead, tr, 0, us, ro, ee, he, cq, pv, ht, et, rt, .nilFunc, .nilFunc⟩) 187 (0, 0)) → K (.pointer (some ⟨b, 0, none⟩)) w') :
    CK Pr 80 #[.agg #[.int .u64 id, .int .u64 term, .int .u64 vote, .int .u64 lead, .int .u64 tr, .int .u64 st, .bool il, .bool pv, .bool cq, .int .i64 et, .int .i64 ht, .int .i64 rt, .int .i64 ee, .int .i64 he, .int .u64 mm, .int .u64 mu, .int .u64 us],
      .pointer (some ⟨lb, 0, none⟩), .agg #[.map vb, .map v1, .bool al, .map lm, .map lx, .map (some pm), .map (some vt), .int .i64 mi, .int .u64 mb]] w K := by
  refine c80 ?_
  unfold t80
  (repeat (first | (refine go ?_; intros) | (refine gon ?_; intros)))
  rename_i b1 w1 e1 hb1 s1 s2 b2 w2 e2 hb2 s3 s4
  refine dr_rule No [] fun w3 e3 z3 => ?_
  have hb1' : Bk w3 b1 _ := e3.at_ (e2.at_ hb1)
  have hb2' : Bk w3 b2 _ := e3.at_ hb2
  (repeat (first | (refine go ?_; intros) | (refine gon ?_; intros)))
  refine cl_fn (k127 fun ro rb w4 e4 s5 hro => ⟨e4, ?_⟩)
  (repeat (first | (refine go ?_; intros) | (refine gon ?_; intros) | refine b187_0_1_2_12_13_8_9_21_20_23_22_24_18_19_5_6_16_4_7_17 (by first | rfl | assumption) (by first | rfl | assumption) (by first | rfl | assumption) (by first | rfl | assumption) (by first | rfl | assumption) (by first | rfl | assumption) (by first | rfl | assumption) (by first | rfl | assumption) (by first | rfl | assumption) (by first | rfl | assumption) (by first | rfl | assumption) (by first | rfl | assumption) (by first | rfl | assumption) (by first | rfl | assumption) (by first | rfl | assumption) (by first | rfl | assumption) (by first | rfl | assumption) (by first | rfl | assumption) (by first | rfl | assumption) ?_))
  have z1 := e1.size
  have z2 := e2.size
  have z4 := e4.size
  rename_i b5 w5 e5 hb5 s6 s7
  refine ⟨e4.trans e5, ?_⟩
  exact h b5 ro w5 ex_ (by omega) (by omega) ⟨rb, e5.at_ hro⟩ hb5

end Go.Proofs.YtmmpogfbhelioaaGreat
/-
  Contracts: the readers of plain data: sizes, lists, nodes.
  Conditions: each one's own.
-/
namespace Go.Proofs.YtmmpogfbhelioaaGreat
set_option maxRecDepth 10000
set_option linter.unusedVariables false
set_option linter.unusedSimpArgs false
theorem nmK1 {p : Prop} (h : p := by (try simp only [List.getElem?_toArray, List.getElem?_cons_zero, List.getElem?_cons_succ, List.setIfInBounds_toArray, List.set_cons_zero, List.set_cons_succ, List.toList_toArray, List.drop_zero, List.drop_succ_cons, List.take_zero, List.take_succ_cons, Nat.zero_add, Nat.add_zero, Nat.reduceAdd, putCells, En.cells, Mac.cells, Pe.cells, Pe.pcells]) <;> rfl) : p := h
theorem goK1 {G H : Prop} (h : H) (s : Stp G H := by (apply Stp.of; intro hS; (first | (refine q_ld bk_ nmK1 ?_) | (refine q_ldU bk_ rfl nmK1 ?_) | (refine q_ldW bk_ (by rfl) ?_) | (refine q_ldWU bk_ rfl (by rfl) ?_) | (refine q_ldP bk_ (Nat.le_of_ble_eq_true rfl) nmK1 ?_) | (refine q_ldPU bk_ rfl (Nat.le_of_ble_eq_true rfl) nmK1 ?_) | (refine q_ext nmK1 ?_) | (refine u_st bk_ (Nat.le_of_ble_eq_true rfl) (by first | rfl | assumption) nmK1 ?_) | (refine u_stA bk_ (Nat.le_of_ble_eq_true rfl) (by rfl) (by rfl) nmK1 ?_) | (refine q_field nmK1 ?_)); exact hS.out)) : G := s.f h
theorem lfK1 {p : Prop} (h : p := by (repeat (first | assumption | refine Sl.ex (by assumption) ?_ | refine PE.ex (by assumption) ?_ | refine PEs.ex (by assumption) ?_ | refine PC.ex (by assumption) ?_ | refine PM.ex (by assumption) ?_ | refine PS.ex (by assumption) ?_ | refine PN.ex (by assumption) ?_ | refine PBo.ex (by assumption) ?_ | refine PN1.ex (by assumption) ?_ | refine PB1.ex (by assumption) ?_ | refine Mp.ex (by assumption) ?_ | refine It.ex (by assumption) ?_ | refine Own.ex (by assumption) ?_ | refine IsCf.ex (by assumption) ?_ | refine IsMac.ex (by assumption) ?_ | refine Cu.ex (by assumption) ?_ | refine PE.mt rfl (by assumption) ?_ | refine PEs.mt rfl (by assumption) ?_ | refine PC.mt rfl (by assumption) ?_ | refine PM.mt rfl (by assumption) ?_ | refine PS.mt rfl (by assumption) ?_ | refine PBo.mt rfl (by assumption) ?_ | refine PB1.mt rfl (by assumption) ?_ | refine Sl.typ (by assumption) ?_ rfl | refine PN.mt rfl (by assumption) ?_ | refine PN1.mt rfl (by assumption) ?_))) : p := h
attribute [local irreducible] Instr.box Instr.alloc Instr.loadAt Instr.storeAt Instr.fieldAt Instr.indexAt Instr.build Instr.buildSlice Instr.makeSlice Instr.makeMap Instr.mapUpdate Instr.lookup Instr.range Instr.next Instr.entry Instr.extract Instr.makeInterface Instr.makeFunc Instr.sliceAt Instr.typeAssert Instr.field Instr.index Builtin.len_ Builtin.cap_ Builtin.max_ Builtin.min_ Builtin.append_ Builtin.copy_ Builtin.delete_ convert binS pickS nilS callV callM Op.unary Own Mp It Cu

variable {K : Value → World → Prop} {w : World} {te : Option Nat}

theorem k45 {e : En} (h : ∀ b w', Ex w w' → K (.bool b) w') : CK Pr 45 #[.agg e.cells.toArray] w K := by
  refine c45 ?_
  unfold t45
  (repeat' (first | (refine go ?_; intros) | (refine goK1 ?_; intros) | (refine q_lenSl lfK1 ?_) | (refine gd_split (fun hg => ?_) (fun hg => ?_) <;> (try simp only [hg])) | (refine if_split (fun _ => ?_) (fun _ => ?_)) | (exact h _ _ ex_)))

/-- Lists that are not too long to be counted. -/
structure CfFit (c : Cf) : Prop where
  v : c.v.length ≤ 2147483647
  l : c.l.length ≤ 2147483647
  o : c.o.length ≤ 2147483647
  n : c.n.length ≤ 2147483647
structure PeFit (p : Pe) : Prop where
  f : p.fl.length ≤ 2147483647
  b : p.byt.length ≤ 2147483647
structure MacFit (m : Mac) : Prop where
  cf : CfFit m.base.c
  pe : ∀ p ∈ m.pe, PeFit p
  pes : m.pe.length ≤ 2147483647
  vs : m.vs.length ≤ 2147483647
  st : m.st.length ≤ 2147483647
  fr : m.fr.length ≤ 2147483647

theorem fit_of {l : List Int} (h : decide ((2147483647 : Int) < ((nums l).length : Nat)) = false) : l.length ≤ 2147483647 := by
  have : ¬ (_ < _) := of_decide_eq_false h
  rw [nums_len] at this
  omega

theorem k66 {p : Pe} (h1 : Nums w none p.flV p.fl) (h2 : Nums w none p.byV p.byt) (h : ∀ b w', Ex w w' → (b = true → PeFit p) → K (.bool b) w') : CK Pr 66 #[.agg p.pcells.toArray] w K := by
  refine c66 ?_
  unfold t66
  (repeat (first | (refine go ?_; intros) | (refine goK1 ?_; intros) | (refine q_lenSl lfK1 ?_) | (refine gd_sf (fun hg => ?_) (fun hg => ?_); rotate_left 1; (rw [hg]; (repeat (first | refine gd_tf ?_ | refine gd_un ?_ | refine q_pick_t ?_ | refine if_t ?_)); exact h false _ ex_ (fun hf => by cases hf)); rw [hg]) | (refine if_split (fun hg => ?_) (fun hg => ?_); (exact h false _ ex_ (fun hf => by cases hf)))))
  exact h true _ ex_ (fun _ => ⟨fit_of (by assumption), fit_of (by assumption)⟩)

theorem k46 {p : Pe} (h1 : Nums w none p.flV p.fl) (h2 : Nums w none p.byV p.byt) (h : ∀ b w', Ex w w' → (b = true → PeFit p) → K (.bool b) w') : CK Pr 46 #[.agg p.cells.toArray] w K := by
  refine c46 ?_
  unfold t46
  (repeat (first | (refine go ?_; intros) | (refine goK1 ?_; intros) | (refine q_lenSl lfK1 ?_)))
  refine cl_fn (k66 (p := p) (by exact lfK1 : Nums _ none p.flV p.fl) (by exact lfK1 : Nums _ none p.byV p.byt) fun b w1 e1 hb => ?_)
  (repeat (first | (refine go ?_; intros) | (refine goK1 ?_; intros) | (refine q_lenSl lfK1 ?_)))
  cases b
  · (repeat (first | (refine go ?_; intros) | (refine goK1 ?_; intros) | (refine q_lenSl lfK1 ?_)))
    exact h false _ ex_ (fun hf => by cases hf)
  · (repeat (first | (refine go ?_; intros) | (refine goK1 ?_; intros) | (refine q_lenSl lfK1 ?_)))
    exact h true _ ex_ hb

theorem k25 {v1 v2 v3 v4 : Value} {c : Cf} (hc : IsCf w v1 v2 v3 v4 c) (h : ∀ b w', Ex w w' → (b = true → CfFit c) → K (.bool b) w') : CK Pr 25 #[.agg #[v1, v2, v3, v4, .bool c.a]] w K := by
  refine c25 ?_
  unfold t25
  obtain ⟨h1, h2, h3, h4⟩ := hc
  (repeat (first | (refine go ?_; intros) | (refine goK1 ?_; intros) | (refine q_lenSl lfK1 ?_) | (refine gd_sf (fun hg => ?_) (fun hg => ?_); rotate_left 1; (rw [hg]; (repeat (first | refine gd_tf ?_ | refine gd_un ?_ | refine q_pick_t ?_ | refine if_t ?_)); exact h false _ ex_ (fun hf => by cases hf)); rw [hg]) | (refine if_split (fun hg => ?_) (fun hg => ?_); (exact h false _ ex_ (fun hf => by cases hf)))))
  exact h true _ ex_ (fun _ => ⟨fit_of (by assumption), fit_of (by assumption), fit_of (by assumption), fit_of (by assumption)⟩)

theorem k8 {m : Sn} {v1 v2 v3 v4 : Value} (hc : IsCf w v1 v2 v3 v4 m.c) (h : ∀ b w', Ex w w' → (b = true → CfFit m.c) → K (.bool b) w') : CK Pr 8 #[.agg #[.string m.d, .int .u64 m.i, .int .u64 m.t, v1, v2, v3, v4, .bool m.c.a]] w K := by
  refine c8 ?_
  unfold t8
  (repeat (first | (refine go ?_; intros) | (refine goK1 ?_; intros) | (refine q_lenSl lfK1 ?_) | (refine gd_sf (fun hg => ?_) (fun hg => ?_); rotate_left 1; (rw [hg]; (repeat (first | refine gd_tf ?_ | refine gd_un ?_ | refine q_pick_t ?_ | refine if_t ?_)); exact h false _ ex_ (fun hf => by cases hf)); rw [hg]) | (refine if_split (fun hg => ?_) (fun hg => ?_); (exact h false _ ex_ (fun hf => by cases hf)))))
  refine cl_fn (k25 (by exact lfK1 : IsCf _ v1 v2 v3 v4 m.c) fun b w1 e1 hb => ?_)
  cases b
  · (repeat (first | (refine go ?_; intros) | (refine goK1 ?_; intros) | (refine q_lenSl lfK1 ?_)))
    exact h false _ ex_ (fun hf => by cases hf)
  · (repeat (first | (refine go ?_; intros) | (refine goK1 ?_; intros) | (refine q_lenSl lfK1 ?_)))
    exact h true _ ex_ hb

theorem k23 {v : Value} {l : List En} (hv : Ens w te v l) (h : ∀ b w', Ex w w' → (b = true → l.length ≤ 2147483647) → K (.bool b) w') : CK Pr 23 #[v] w K := by
  refine c23 ?_
  unfold t23
  (repeat (first | (refine go ?_; intros) | (refine goK1 ?_; intros) | (refine q_lenSl lfK1 ?_)))
  refine if_split (fun _ => ?_) (fun hn => ?_)
  · exact h false _ ex_ (fun hf => by cases hf)
  (repeat (first | (refine go ?_; intros) | (refine goK1 ?_; intros) | (refine q_lenSl lfK1 ?_)))
  have hlen : l.length ≤ 2147483647 := by
    have : ¬ (_ < _) := of_decide_eq_false hn
    simp only [List.length_map] at this
    omega
  refine loop_n (α := Nat) (fun j τ w' => g τ 2 = .int .i64 j ∧ j ≤ l.length ∧ Ex w w') (fun j => l.length - j) 0 ⟨rfl, Nat.zero_le _, .refl _ _ _⟩ ?_
  intro j τ w' R ⟨hj, hle, hex⟩ hR
  rw [hj]
  (repeat (first | (refine go ?_; intros) | (refine goK1 ?_; intros) | (refine q_lenSl lfK1 ?_)))
  have zz := hex.size
  refine if_split (fun hb => ?_) (fun hb => ?_)
  · have hj' : j < l.length := by simpa using hb
    obtain ⟨e, he⟩ : ∃ e, l[j]? = some e := ⟨_, List.getElem?_eq_getElem hj'⟩
    refine q_ixa j (by exact lfK1 : Ens w' te v l) rfl (by rw [List.getElem?_map, he]; rfl) fun _ => ?_
    (repeat (first | (refine go ?_; intros) | (refine goK1 ?_; intros) | (refine q_lenSl lfK1 ?_)))
    refine cl_fn (k45 (e := e) fun b w1 e1 => ?_)
    have z1 := e1.size
    have ew : Ex w' w1 := by exact ex_
    (repeat (first | (refine go ?_; intros) | (refine goK1 ?_; intros) | (refine q_lenSl lfK1 ?_)))
    refine if_split (fun _ => ?_) (fun _ => ?_)
    · (repeat (first | (refine go ?_; intros) | (refine goK1 ?_; intros) | (refine q_lenSl lfK1 ?_)))
      exact h _ _ ex_ (fun _ => hlen)
    · (repeat (first | (refine go ?_; intros) | (refine goK1 ?_; intros) | (refine q_lenSl lfK1 ?_)))
      exact hR (j + 1) _ _ ⟨by rw [← wrapS (by omega)]; rfl, hj', hex.trans ew⟩ (by omega)
  · (repeat (first | (refine go ?_; intros) | (refine goK1 ?_; intros) | (refine q_lenSl lfK1 ?_)))
    exact h _ _ ex_ (fun _ => hlen)

theorem k24 {v : Value} {l : List Pe} (hv : Sl w te 12 v (l.map Pe.cells)) (hp : ∀ p ∈ l, Nums w none p.flV p.fl ∧ Nums w none p.byV p.byt) (h : ∀ b w', Ex w w' → (b = true → l.length ≤ 2147483647 ∧ ∀ p ∈ l, PeFit p) → K (.bool b) w') : CK Pr 24 #[v] w K := by
  refine c24 ?_
  unfold t24
  (repeat (first | (refine go ?_; intros) | (refine goK1 ?_; intros) | (refine q_lenSl lfK1 ?_)))
  refine if_split (fun _ => ?_) (fun hn => ?_)
  · exact h false _ ex_ (fun hf => by cases hf)
  (repeat (first | (refine go ?_; intros) | (refine goK1 ?_; intros) | (refine q_lenSl lfK1 ?_)))
  have hlen : l.length ≤ 2147483647 := by
    have : ¬ (_ < _) := of_decide_eq_false hn
    simp only [List.length_map] at this
    omega
  refine loop_n (α := Nat) (fun j τ w' => g τ 2 = .int .i64 j ∧ j ≤ l.length ∧ Ex w w' ∧ ∀ p ∈ l.take j, PeFit p) (fun j => l.length - j) 0 ⟨rfl, Nat.zero_le _, .refl _ _ _, by simp⟩ ?_
  intro j τ w' R ⟨hj, hle, hex, hfit⟩ hR
  rw [hj]
  (repeat (first | (refine go ?_; intros) | (refine goK1 ?_; intros) | (refine q_lenSl lfK1 ?_)))
  have zz := hex.size
  refine if_split (fun hb => ?_) (fun hb => ?_)
  · have hj' : j < l.length := by simpa using hb
    obtain ⟨e, he⟩ : ∃ e, l[j]? = some e := ⟨_, List.getElem?_eq_getElem hj'⟩
    obtain ⟨hp1, hp2⟩ := hp e (List.mem_of_getElem? he)
    have o1 := hp1.one
    have o2 := hp2.one
    refine q_ixa j (by exact lfK1 : Sl w' te 12 v (l.map Pe.cells)) rfl (by rw [List.getElem?_map, he]; rfl) fun _ => ?_
    (repeat (first | (refine go ?_; intros) | (refine goK1 ?_; intros) | (refine q_lenSl lfK1 ?_)))
    refine u_stA bk_ (Nat.le_of_ble_eq_true rfl) (by rfl) (by simp only [Pe.cells, List.all_cons, List.all_nil, o1, o2]; rfl) nmK1 fun _ _ _ _ => ?_
    (repeat (first | (refine go ?_; intros) | (refine goK1 ?_; intros) | (refine q_lenSl lfK1 ?_)))
    refine cl_fn (k46 (p := e) (by refine Sl.ex ?_ hp1; exact ex_) (by refine Sl.ex ?_ hp2; exact ex_) fun b w1 e1 hfb => ?_)
    have z1 := e1.size
    have ew : Ex w' w1 := by exact ex_
    (repeat (first | (refine go ?_; intros) | (refine goK1 ?_; intros) | (refine q_lenSl lfK1 ?_)))
    cases b
    · (repeat (first | (refine go ?_; intros) | (refine goK1 ?_; intros) | (refine q_lenSl lfK1 ?_)))
      exact h false _ (hex.trans ew) (fun hf => by cases hf)
    · (repeat (first | (refine go ?_; intros) | (refine goK1 ?_; intros) | (refine q_lenSl lfK1 ?_)))
      refine hR (j + 1) _ _ ⟨by rw [← wrapS (by omega)]; rfl, hj', hex.trans ew, ?_⟩ (by omega)
      rw [take_snoc he]
      intro p hp
      rcases List.mem_append.1 hp with hp | hp
      · exact hfit p hp
      · rw [List.mem_singleton.1 hp]; exact hfb rfl
  · have : ¬ ((j : Int) < ((l.map Pe.cells).length : Nat)) := of_decide_eq_false hb
    rw [List.length_map] at this
    rw [show j = l.length by omega, List.take_length] at hfit
    exact h true _ hex (fun _ => ⟨hlen, hfit⟩)

theorem k7 {m : Mac} (hm : IsMac w m) (h : ∀ b w', Ex w w' → (b = true → MacFit m) → K (.bool b) w') : CK Pr 7 #[.agg m.cells] w K := by
  refine c7 ?_
  unfold t7
  have h1 := hm.cf
  have h2 := hm.st
  have h3 := hm.fr
  have h4 := hm.vo
  have h5 := hm.le
  have h6 := hm.pe
  have h7 := hm.vs
  (repeat (first | (refine go ?_; intros) | (refine goK1 ?_; intros) | (refine q_lenSl lfK1 ?_)))
  refine cl_fn (k8 (m := m.base) (by exact lfK1 : IsCf _ m.cvV m.clV m.coV m.cnV m.base.c) fun b1 w1 e1 f1 => ?_)
  cases b1
  · (repeat (first | (refine go ?_; intros) | (refine goK1 ?_; intros) | (refine q_lenSl lfK1 ?_)))
    exact h false _ ex_ (fun hf => by cases hf)
  (repeat (first | (refine go ?_; intros) | (refine goK1 ?_; intros) | (refine q_lenSl lfK1 ?_)))
  unfold t7_1
  (repeat (first | (refine go ?_; intros) | (refine goK1 ?_; intros) | (refine q_lenSl lfK1 ?_)))
  refine cl_fn (k23 (by exact lfK1 : Ens _ none m.stV m.st) fun b2 w2 e2 f2 => ?_)
  cases b2
  · (repeat (first | (refine go ?_; intros) | (refine goK1 ?_; intros) | (refine q_lenSl lfK1 ?_)))
    exact h false _ ex_ (fun hf => by cases hf)
  (repeat (first | (refine go ?_; intros) | (refine goK1 ?_; intros) | (refine q_lenSl lfK1 ?_)))
  refine cl_fn (k23 (by exact lfK1 : Ens _ none m.frV m.fr) fun b3 w3 e3 f3 => ?_)
  cases b3
  · (repeat (first | (refine go ?_; intros) | (refine goK1 ?_; intros) | (refine q_lenSl lfK1 ?_)))
    exact h false _ ex_ (fun hf => by cases hf)
  (repeat (first | (refine go ?_; intros) | (refine goK1 ?_; intros) | (refine q_lenSl lfK1 ?_) | (refine gd_sf (fun hg => ?_) (fun hg => ?_); rotate_left 1; (rw [hg]; (repeat (first | refine gd_tf ?_ | refine gd_un ?_ | refine q_pick_t ?_ | refine if_t ?_)); exact h false _ ex_ (fun hf => by cases hf)); rw [hg]) | (refine if_split (fun hg => ?_) (fun hg => ?_); (exact h false _ ex_ (fun hf => by cases hf)))))
  refine cl_fn (k24 (l := m.pe) (hm.ex ex_).pe (hm.ex ex_).pes fun b4 w4 e4 f4 => ?_)
  cases b4
  · (repeat (first | (refine go ?_; intros) | (refine goK1 ?_; intros) | (refine q_lenSl lfK1 ?_)))
    exact h false _ ex_ (fun hf => by cases hf)
  (repeat (first | (refine go ?_; intros) | (refine goK1 ?_; intros) | (refine q_lenSl lfK1 ?_) | (refine gd_sf (fun hg => ?_) (fun hg => ?_); rotate_left 1; (rw [hg]; (repeat (first | refine gd_tf ?_ | refine gd_un ?_ | refine q_pick_t ?_ | refine if_t ?_)); exact h false _ ex_ (fun hf => by cases hf)); rw [hg]) | (refine if_split (fun hg => ?_) (fun hg => ?_); (exact h false _ ex_ (fun hf => by cases hf)))))
  refine h true _ ex_ (fun _ => ⟨f1 rfl, (f4 rfl).2, (f4 rfl).1, ?_, f2 rfl, f3 rfl⟩)
  have : ¬ (_ < _) := of_decide_eq_false (by assumption : decide ((2147483647 : Int) < ((bals m.vs).length : Nat)) = false)
  rw [bals, List.length_map] at this
  omega

theorem k20 {n : Int} (h : K (.bool (decide (0 < n) && decide (n < 1099511627776))) w) : CK Pr 20 #[.int .u64 n] w K := by
  refine c20 ?_
  unfold t20
  (repeat (first | (refine go ?_; intros) | (refine goK1 ?_; intros) | (refine q_lenSl lfK1 ?_)))
  refine gd_split (fun hg => ?_) (fun hg => ?_)
  · simp only [hg] at h ⊢
    (repeat (first | (refine go ?_; intros) | (refine goK1 ?_; intros) | (refine q_lenSl lfK1 ?_)))
    simpa using h
  · simp only [hg] at h ⊢
    (repeat (first | (refine go ?_; intros) | (refine goK1 ?_; intros) | (refine q_lenSl lfK1 ?_)))
    simpa using h

theorem k18 {v : Value} {l : List Int} {n : Int} (hv : Nums w te v l) (h : K (.bool (decide (n ∈ l))) w) : CK Pr 18 #[v, .int .u64 n] w K := by
  refine c18 ?_
  unfold t18
  (repeat (first | (refine go ?_; intros) | (refine goK1 ?_; intros) | (refine q_lenSl lfK1 ?_)))
  have hlen := hv.le
  rw [nums_len] at hlen
  refine loop_n (α := Nat) (fun j τ w' => g τ 2 = .int .i64 j ∧ j ≤ l.length ∧ w' = w ∧ n ∉ l.take j) (fun j => l.length - j) 0 ⟨rfl, Nat.zero_le _, rfl, by simp⟩ ?_
  rintro j τ w' R ⟨hj, hle, rfl, hno⟩ hR
  rw [hj]
  (repeat (first | (refine go ?_; intros) | (refine goK1 ?_; intros) | (refine q_lenSl lfK1 ?_)))
  refine if_split (fun hb => ?_) (fun hb => ?_)
  · have hj' : j < l.length := by simpa [nums_len] using hb
    obtain ⟨e, he⟩ : ∃ e, l[j]? = some e := ⟨_, List.getElem?_eq_getElem hj'⟩
    refine q_ixs j hv rfl (by rw [nums, List.getElem?_map, he]; rfl) fun _ => ?_
    (repeat (first | (refine go ?_; intros) | (refine goK1 ?_; intros) | (refine q_lenSl lfK1 ?_)))
    refine if_split (fun hb => ?_) (fun hb => ?_)
    · have : e = n := by simpa using hb
      rw [decide_eq_true (this ▸ List.mem_of_getElem? he)] at h
      exact h
    · (repeat (first | (refine go ?_; intros) | (refine goK1 ?_; intros) | (refine q_lenSl lfK1 ?_)))
      have hne : e ≠ n := by simpa using hb
      refine hR (j + 1) _ _ ⟨by rw [← wrapS (by omega)]; rfl, hj', rfl, ?_⟩ (by omega)
      rw [take_snoc he]
      simp [hno, Ne.symm hne]
  · have : ¬ ((j : Int) < ((nums l).length : Nat)) := of_decide_eq_false hb
    rw [nums_len] at this
    rw [show j = l.length by omega, List.take_length] at hno
    rw [decide_eq_false hno] at h
    exact h

theorem nodup_take {l : List Int} {j : Nat} {x : Int} (h : l[j]? = some x) (hn : (l.take j).Nodup) : (l.take (j + 1)).Nodup ↔ x ∉ l.take j := by
  rw [take_snoc h, List.nodup_append]
  constructor
  · intro ⟨_, _, h3⟩ hx
    exact h3 x hx x (by simp) rfl
  · intro hx
    refine ⟨hn, by simp, ?_⟩
    intro a ha b hb hab
    rw [List.mem_singleton.1 hb] at hab
    exact hx (hab ▸ ha)

theorem k47 {v : Value} {l : List Int} (hv : Nums w te v l) (h : ∀ b, (b = true ↔ l.Nodup) → K (.bool b) w) : CK Pr 47 #[v] w K := by
  refine c47 ?_
  unfold t47
  (repeat (first | (refine go ?_; intros) | (refine goK1 ?_; intros) | (refine q_lenSl lfK1 ?_)))
  have hlen := hv.le
  rw [nums_len] at hlen
  refine loop_n (α := Nat) (fun j τ w' => g τ 3 = .int .i64 j ∧ j ≤ l.length ∧ w' = w ∧ (l.take j).Nodup) (fun j => l.length - j) 0 ⟨rfl, Nat.zero_le _, rfl, by simp⟩ ?_
  rintro j τ w' R ⟨hj, hle, rfl, hno⟩ hR
  rw [hj]
  (repeat (first | (refine go ?_; intros) | (refine goK1 ?_; intros) | (refine q_lenSl lfK1 ?_)))
  refine if_split (fun hb => ?_) (fun hb => ?_)
  · have hj' : j < l.length := by simpa [nums_len] using hb
    obtain ⟨e, he⟩ : ∃ e, l[j]? = some e := ⟨_, List.getElem?_eq_getElem hj'⟩
    refine q_ixs j hv rfl (by rw [nums, List.getElem?_map, he]; rfl) fun _ => ?_
    refine q_slpre j hv rfl (by rw [nums_len]; exact hle) fun v' hv' => ?_
    rw [nums, ← List.map_take] at hv'
    refine cl_fn (k18 hv' ?_)
    (repeat (first | (refine go ?_; intros) | (refine goK1 ?_; intros) | (refine q_lenSl lfK1 ?_)))
    refine if_split (fun hb => ?_) (fun hb => ?_)
    · refine h _ ⟨fun hf => by simp at hf, fun hf => ?_⟩
      have h2 : (l.take (j + 1)).Nodup := hf.sublist (List.take_sublist _ _)
      exact absurd (of_decide_eq_true hb) ((nodup_take he hno).1 h2)
    · (repeat (first | (refine go ?_; intros) | (refine goK1 ?_; intros) | (refine q_lenSl lfK1 ?_)))
      exact hR (j + 1) _ _ ⟨by rw [← wrapS (by omega)]; rfl, hj', rfl, (nodup_take he hno).2 (of_decide_eq_false hb)⟩ (by omega)
  · have : ¬ ((j : Int) < ((nums l).length : Nat)) := of_decide_eq_false hb
    rw [nums_len] at this
    rw [show j = l.length by omega, List.take_length] at hno
    exact h _ ⟨fun _ => hno, fun _ => rfl⟩

end Go.Proofs.YtmmpogfbhelioaaGreat
/-
  Contracts: the readers of plain data: members, rows, the node's log.
  Conditions: each one's own.
-/
namespace Go.Proofs.YtmmpogfbhelioaaGreat
set_option maxRecDepth 10000
set_option linter.unusedVariables false
set_option linter.unusedSimpArgs false
theorem nmK2 {p : Prop} (h : p := by (try simp only [List.getElem?_toArray, List.getElem?_cons_zero, List.getElem?_cons_succ, List.setIfInBounds_toArray, List.set_cons_zero, List.set_cons_succ, List.toList_toArray, List.drop_zero, List.drop_succ_cons, List.take_zero, List.take_succ_cons, Nat.zero_add, Nat.add_zero, Nat.reduceAdd, putCells, En.cells, Mac.cells, Pe.cells, Pe.pcells, Nd.cells]) <;> rfl) : p := h
theorem goK2 {G H : Prop} (h : H) (s : Stp G H := by (apply Stp.of; intro hS; (first | (refine q_ld bk_ nmK2 ?_) | (refine q_ldU bk_ rfl nmK2 ?_) | (refine q_ldW bk_ (by rfl) ?_) | (refine q_ldWU bk_ rfl (by rfl) ?_) | (refine q_ldP bk_ (Nat.le_of_ble_eq_true rfl) nmK2 ?_) | (refine q_ldPU bk_ rfl (Nat.le_of_ble_eq_true rfl) nmK2 ?_) | (refine q_ext nmK2 ?_) | (refine u_st bk_ (Nat.le_of_ble_eq_true rfl) (by first | rfl | assumption) nmK2 ?_) | (refine u_stA bk_ (Nat.le_of_ble_eq_true rfl) (by rfl) (by rfl) nmK2 ?_) | (refine q_field nmK2 ?_)); exact hS.out)) : G := s.f h
theorem lfK2 {p : Prop} (h : p := by (repeat (first | assumption | refine Sl.ex (by assumption) ?_ | refine PE.ex (by assumption) ?_ | refine PEs.ex (by assumption) ?_ | refine PC.ex (by assumption) ?_ | refine PM.ex (by assumption) ?_ | refine PS.ex (by assumption) ?_ | refine PN.ex (by assumption) ?_ | refine PBo.ex (by assumption) ?_ | refine PN1.ex (by assumption) ?_ | refine PB1.ex (by assumption) ?_ | refine Mp.ex (by assumption) ?_ | refine It.ex (by assumption) ?_ | refine Own.ex (by assumption) ?_ | refine IsCf.ex (by assumption) ?_ | refine IsMac.ex (by assumption) ?_ | refine Cu.ex (by assumption) ?_ | refine PE.mt rfl (by assumption) ?_ | refine PEs.mt rfl (by assumption) ?_ | refine PC.mt rfl (by assumption) ?_ | refine PM.mt rfl (by assumption) ?_ | refine PS.mt rfl (by assumption) ?_ | refine PBo.mt rfl (by assumption) ?_ | refine PB1.mt rfl (by assumption) ?_ | refine Sl.typ (by assumption) ?_ rfl | refine PN.mt rfl (by assumption) ?_ | refine PN1.mt rfl (by assumption) ?_))) : p := h
attribute [local irreducible] Instr.box Instr.alloc Instr.loadAt Instr.storeAt Instr.fieldAt Instr.indexAt Instr.build Instr.buildSlice Instr.makeSlice Instr.makeMap Instr.mapUpdate Instr.lookup Instr.range Instr.next Instr.entry Instr.extract Instr.makeInterface Instr.makeFunc Instr.sliceAt Instr.typeAssert Instr.field Instr.index Builtin.len_ Builtin.cap_ Builtin.max_ Builtin.min_ Builtin.append_ Builtin.copy_ Builtin.delete_ convert binS pickS nilS callV callM Op.unary Own Mp It Cu

variable {K : Value → World → Prop} {w : World} {te : Option Nat}

/-- A configuration that is not joint, small, of members that are all different. -/
structure MembersOk (c : Cf) : Prop where
  v0 : 0 < c.v.length
  v9 : c.v.length ≤ 9
  l4 : c.l.length ≤ 4
  o : c.o = []
  n : c.n = []
  a : c.a = false
  id : ∀ x ∈ c.v ++ c.l, 0 < x ∧ x < 1099511627776
  nd : (c.v ++ c.l).Nodup

theorem k26 {v1 v2 v3 v4 : Value} {c : Cf} (hc : IsCf w v1 v2 v3 v4 c) (hfo : c.o.length ≤ 2147483647) (hfn : c.n.length ≤ 2147483647) (h : ∀ b w', Ex w w' → (b = true → MembersOk c) → K (.bool b) w') : CK Pr 26 #[.agg #[v1, v2, v3, v4, .bool c.a]] w K := by
  refine c26 ?_
  unfold t26
  obtain ⟨h1, h2, h3, h4⟩ := hc
  have l1 := h1.le
  have l2 := h2.le
  have l3 := h3.le
  have l4 := h4.le
  rw [nums_len] at l1 l2 l3 l4
  (repeat (first | (refine go ?_; intros) | (refine goK2 ?_; intros) | (refine q_lenSl lfK2 ?_) | (refine gd_sf (fun hg => ?_) (fun hg => ?_); rotate_left 1; (rw [hg]; (repeat (first | refine gd_tf ?_ | refine gd_un ?_ | refine q_pick_t ?_ | refine if_t ?_)); exact h false _ ex_ (fun hf => by cases hf)); rw [hg]) | (refine if_split (fun hg => ?_) (fun hg => ?_); (exact h false _ ex_ (fun hf => by cases hf)))))
  refine dr_rule No [] fun w1 e1 z1 => ?_
  refine e_bs0 fun w2 e2 o2 z2 => ⟨by exact ex_, ?_⟩
  (repeat (first | (refine go ?_; intros) | (refine goK2 ?_; intros) | (refine q_lenSl lfK2 ?_)))
  have hv9 : c.v.length ≤ 9 := by
    have : ¬ (_ < _) := of_decide_eq_false (by assumption : decide ((9 : Int) < ((nums c.v).length : Nat)) = false)
    rw [nums_len] at this; omega
  have hl4 : c.l.length ≤ 4 := by
    have : ¬ (_ < _) := of_decide_eq_false (by assumption : decide ((4 : Int) < ((nums c.l).length : Nat)) = false)
    rw [nums_len] at this; omega
  have hon : c.o = [] ∧ c.n = [] := by
    have : ¬ (_ < _) := of_decide_eq_false (by assumption : decide ((0 : Int) < IntKind.i64.wrap (((nums c.o).length : Nat) + ((nums c.n).length : Nat))) = false)
    rw [nums_len, nums_len] at this
    rw [wrap64 (by omega) (by omega)] at this
    exact ⟨List.eq_nil_of_length_eq_zero (by omega), List.eq_nil_of_length_eq_zero (by omega)⟩
  have hv0 : 0 < c.v.length := by
    have := (by assumption : ((((nums c.v).length : Nat) : Int) == 0) = false)
    rw [nums_len] at this
    have := ne_of_beq_false this
    omega
  have n1 := nums_len c.v
  have n2 := nums_len c.l
  have ew2 : Ex w w2 := by exact ex_
  refine e_app (base := w1.heap.size) o2 (h1.ex ew2) nums_one (by simp only [List.length_nil]; omega) (by simp only [List.length_nil]; omega) (by omega) fun v3 w3 u3 o3 hb3 z3 => ?_
  have lt2 := o2.lt
  have ew3 : Ex w1 w3 := by
    refine Up.new ex_ u3 ?_
    intro b hb
    exact (lt2 b hb).1
  refine ⟨ew3, ?_⟩
  clear ew3
  (repeat (first | (refine go ?_; intros) | (refine goK2 ?_; intros) | (refine q_lenSl lfK2 ?_)))
  have ex3 : Ex w w3 := by
    have := ew2
    refine Up.new ex_ u3 ?_
    intro b hb
    have := (lt2 b hb).1
    omega
  refine e_app (base := w1.heap.size) o3 (h2.ex ex3) nums_one (by simp only [List.nil_append]; omega) (by simp only [List.nil_append]; omega) (by omega) fun v4 w4 u4 o4 hb4 z4 => ?_
  have lt3 := o3.lt
  have zw1 : w.heap.size ≤ w1.heap.size := by omega
  have ew4 : Ex w1 w4 := by
    refine Up.new (Up.new ex_ u3 ?_) u4 ?_
    · intro b hb
      exact (lt2 b hb).1
    · intro b hb
      exact (lt3 b hb).1
  refine ⟨ew4, ?_⟩
  have ex4 : Ex w w4 := by
    refine Up.trans ?_ ew4
    exact ex_
  clear ew4 ex3 ew2
  have hall : Nums w4 (some 22) v4 (c.v ++ c.l) := by
    have := o4.sl
    rw [List.nil_append] at this
    unfold Nums nums
    rw [List.map_append]
    exact this
  have hlen : (c.v ++ c.l).length ≤ 13 := by rw [List.length_append]; omega
  generalize hg : c.v ++ c.l = all at hall hlen
  refine q_lenSl hall ?_
  refine loop_n (α := Nat) (fun j τ w' => g τ 2 = .int .i64 j ∧ j ≤ all.length ∧ w' = w4 ∧ ∀ x ∈ all.take j, 0 < x ∧ x < 1099511627776) (fun j => all.length - j) 0 ⟨rfl, Nat.zero_le _, rfl, by simp⟩ ?_
  rintro j τ w' R ⟨hj, hle, rfl, hno⟩ hR
  rw [hj]
  (repeat (first | (refine go ?_; intros) | (refine goK2 ?_; intros) | (refine q_lenSl lfK2 ?_)))
  refine if_split (fun hb => ?_) (fun hb => ?_)
  · have hj' : j < all.length := by simpa [nums_len] using hb
    obtain ⟨e, he⟩ : ∃ e, all[j]? = some e := ⟨_, List.getElem?_eq_getElem hj'⟩
    refine q_ixs j hall rfl (by rw [nums, List.getElem?_map, he]; rfl) fun _ => ?_
    refine cl_fn (k20 ?_)
    (repeat (first | (refine go ?_; intros) | (refine goK2 ?_; intros) | (refine q_lenSl lfK2 ?_)))
    refine if_split (fun hb => ?_) (fun hb => ?_)
    · exact h false _ ex4 (fun hf => by cases hf)
    · (repeat (first | (refine go ?_; intros) | (refine goK2 ?_; intros) | (refine q_lenSl lfK2 ?_)))
      refine hR (j + 1) _ _ ⟨by rw [← wrapS (by omega)]; rfl, hj', rfl, ?_⟩ (by omega)
      rw [take_snoc he]
      intro x hx
      rcases List.mem_append.1 hx with hx | hx
      · exact hno x hx
      · rw [List.mem_singleton.1 hx]
        simpa using hb
  · have : ¬ ((j : Int) < ((nums all).length : Nat)) := of_decide_eq_false hb
    rw [nums_len] at this
    rw [show j = all.length by omega, List.take_length] at hno
    refine cl_fn (k47 hall fun b hb => ?_)
    exact h b _ ex4 (fun hbt => ⟨hv0, hv9, hl4, hon.1, hon.2, by assumption, by rw [hg]; exact hno, by rw [hg]; exact hb.1 hbt⟩)

theorem k27 {m : Mac} {x : Int} (hm : IsMac w m) (h : ∀ w', Ex w w' → K (.bool (decide (x ∈ m.vo) || decide (x ∈ m.le))) w') : CK Pr 27 #[.agg m.cells, .int .u64 x] w K := by
  refine c27 ?_
  unfold t27
  (repeat (first | (refine go ?_; intros) | (refine goK2 ?_; intros) | (refine q_lenSl lfK2 ?_)))
  refine cl_fn (k18 (hm.ex ex_).vo ?_)
  refine gd_sf (fun hg => ?_) (fun hg => ?_)
  · simp only [hg] at h ⊢
    (repeat (first | (refine go ?_; intros) | (refine goK2 ?_; intros) | (refine q_lenSl lfK2 ?_)))
    refine cl_fn (k18 (hm.ex ex_).le ?_)
    (repeat (first | (refine go ?_; intros) | (refine goK2 ?_; intros) | (refine q_lenSl lfK2 ?_)))
    simpa using h _ ex_
  · simp only [hg] at h ⊢
    (repeat (first | (refine go ?_; intros) | (refine goK2 ?_; intros) | (refine q_lenSl lfK2 ?_)))
    simpa using h _ ex_

/-- A node of the reference. -/
structure Nd where
  id : Int
  lead : Int
  term : Int
  vote : Int
  commit : Int
  base : Sn
  cvV : Value
  clV : Value
  coV : Value
  cnV : Value
  logV : Value
  log : List En

def Nd.cells (n : Nd) : Array Value := #[.int .u64 n.id, .int .u64 n.lead, .int .u64 n.term, .int .u64 n.vote, .int .u64 n.commit, .string n.base.d, .int .u64 n.base.i, .int .u64 n.base.t, n.cvV, n.clV, n.coV, n.cnV, .bool n.base.c.a, n.logV]

/-- The node of a machine, but for its log's place. -/
def Mac.nd (m : Mac) (v : Value) : Nd := { id := m.id, lead := m.lead, term := m.term, vote := m.vote, commit := m.commit, base := m.base, cvV := m.cvV, clV := m.clV, coV := m.coV, cnV := m.cnV, logV := v, log := m.st ++ m.fr }

theorem ens_one {l : List En} : ∀ y ∈ l.map En.cells, ∀ u ∈ y, one u = true := by
  intro y hy u hu
  obtain ⟨x, _, rfl⟩ := List.mem_map.1 hy
  simp only [En.cells, List.mem_cons, List.not_mem_nil, or_false] at hu
  rcases hu with rfl | rfl | rfl | rfl <;> rfl

theorem k12 {m : Mac} (hm : IsMac w m) (hl : m.st.length + m.fr.length ≤ 1000000000000) (h : ∀ v w', Ex w w' → Own w' w.heap.size 56 4 v ((m.st ++ m.fr).map En.cells) → K (.agg (m.nd v).cells) w') : CK Pr 12 #[.agg m.cells] w K := by
  refine c12 ?_
  unfold t12
  obtain ⟨o1, o2, o3, o4, _⟩ := hm.one1
  refine e_boxA fun b1 wa ea hb1 sa1 sa2 => ?_
  refine e_allocA fun b2 wb eb hb2 sb1 sb2 => ?_
  refine dr2_rule No [] (fun b => b = b2) [45] fun w1 e1 z1 => ?_
  (repeat (first | (refine go ?_; intros) | (refine goK2 ?_; intros) | (refine q_lenSl lfK2 ?_)))
  refine b41_0_1_2 rfl rfl rfl ?_
  (repeat (first | (refine go ?_; intros) | (refine goK2 ?_; intros) | (refine q_lenSl lfK2 ?_)))
  refine e_bs0 fun w2 e2 ow2 z2 => ⟨⟨e2, .of_ex e2⟩, ?_⟩
  (repeat (first | (refine go ?_; intros) | (refine goK2 ?_; intros) | (refine q_lenSl lfK2 ?_)))
  have lt2 := ow2.lt
  refine e_app (base := w1.heap.size) ow2 (hm.ex ex_).st ens_one (by simp only [List.length_nil, List.length_map]; omega) (by simp only [List.length_nil, List.length_map]; omega) (by omega) fun v3 w3 u3 ow3 hb3 z3 => ?_
  have ew3 : Ex w1 w3 := by
    refine Up.new ex_ u3 ?_
    intro b hb
    exact (lt2 b hb).1
  refine ⟨⟨ew3, Up.of_ex ew3⟩, ?_⟩
  (repeat (first | (refine go ?_; intros) | (refine goK2 ?_; intros) | (refine q_lenSl lfK2 ?_)))
  have lt3 := ow3.lt
  refine e_app (base := w1.heap.size) ow3 (by refine (hm.ex ?_).fr; exact ex_) ens_one (by simp only [List.length_nil, List.length_map, List.nil_append]; omega) (by simp only [List.length_nil, List.length_map, List.nil_append]; omega) (by omega) fun v4 w4 u4 ow4 hb4 z4 => ?_
  have ew4 : Ex w1 w4 := by
    refine Up.new ew3 u4 ?_
    intro b hb
    exact (lt3 b hb).1
  refine ⟨⟨ew4, Up.of_ex ew4⟩, ?_⟩
  refine b43_0_1_2_3_4 rfl rfl ow4.sl.one ?_
  have z14 := ew4.size
  have hb4 : Bk w4 b2 _ := ew4.at_ (e1.at_ hb2)
  refine u_stA hb4 (Nat.le_of_ble_eq_true rfl) (by rfl) (by simp only [List.all_cons, List.all_nil, o1, o2, o3, o4, ow4.sl.one]; rfl) nmK2 fun w5 u5 hb5 z5 => ⟨(Up.of_ex ew4).trans u5, ?_⟩
  (repeat (first | (refine go ?_; intros) | (refine goK2 ?_; intros) | (refine q_lenSl lfK2 ?_)))
  refine h v4 _ ?_ ?_
  · refine Up.new (Up.trans ?_ ew4) u5 ?_
    · exact Up.trans (Up.trans ea eb) e1
    · intro b hb
      subst hb
      omega
  · rw [List.map_append]
    rw [List.nil_append] at ow4
    exact (ow4.mono (by omega)).up u5 fun _ _ => .inl rfl

theorem k19 {n : Nd} (hl : Ens w te n.logV n.log) (o : one n.cvV = true ∧ one n.clV = true ∧ one n.coV = true ∧ one n.cnV = true) (h : ∀ w', Ex w w' → K (.tuple #[.int .u64 ((n.log.getLast?.map (·.i)).getD n.base.i), .int .u64 ((n.log.getLast?.map (·.t)).getD n.base.t)]) w') : CK Pr 19 #[.agg n.cells] w K := by
  refine c19 ?_
  unfold t19
  (repeat (first | (refine go ?_; intros) | (refine goK2 ?_; intros) | (refine q_lenSl lfK2 ?_)))
  refine if_split (fun hb => ?_) (fun hb => ?_)
  · have hnil : n.log = [] := by
      have : (((n.log.map En.cells).length : Nat) : Int) = 0 := by simpa using hb
      rw [List.length_map] at this
      exact List.eq_nil_of_length_eq_zero (by omega)
    refine dr_rule No [] fun w1 e1 z1 => ?_
    (repeat (first | (refine go ?_; intros) | (refine goK2 ?_; intros) | (refine q_lenSl lfK2 ?_)))
    have := h w1 ex_
    rw [hnil] at this
    exact this
  · (repeat (first | (refine go ?_; intros) | (refine goK2 ?_; intros) | (refine q_lenSl lfK2 ?_)))
    have hne : n.log.length ≠ 0 := by
      have : ¬ ((((n.log.map En.cells).length : Nat) : Int) = 0) := by simpa using hb
      rw [List.length_map] at this
      omega
    have hle := hl.le
    rw [List.length_map] at hle
    obtain ⟨e, he⟩ : ∃ e, n.log[n.log.length - 1]? = some e := ⟨_, List.getElem?_eq_getElem (by omega)⟩
    refine q_ixa (n.log.length - 1) (by exact lfK2 : Ens _ te n.logV n.log) (by rw [List.length_map, wrap64 (by omega) (by omega)]; omega) (by rw [List.getElem?_map, he]; rfl) fun _ => ?_
    (repeat (first | (refine go ?_; intros) | (refine goK2 ?_; intros) | (refine q_lenSl lfK2 ?_)))
    refine dr_rule No [] fun w1 e1 z1 => ?_
    (repeat (first | (refine go ?_; intros) | (refine goK2 ?_; intros) | (refine q_lenSl lfK2 ?_)))
    have := h w1 ex_
    rw [List.getLast?_eq_getElem?, he] at this
    exact this

end Go.Proofs.YtmmpogfbhelioaaGreat
/-
  Contracts: rows of entries, and whether a machine is whole.
  Conditions: each one's own.
-/
namespace Go.Proofs.YtmmpogfbhelioaaGreat
set_option maxRecDepth 10000
set_option linter.unusedVariables false
set_option linter.unusedSimpArgs false
theorem lfK3 {p : Prop} (h : p := by (repeat (first | assumption | refine Sl.ex (by assumption) ?_ | refine PE.ex (by assumption) ?_ | refine PEs.ex (by assumption) ?_ | refine PC.ex (by assumption) ?_ | refine PM.ex (by assumption) ?_ | refine PS.ex (by assumption) ?_ | refine PN.ex (by assumption) ?_ | refine PBo.ex (by assumption) ?_ | refine PN1.ex (by assumption) ?_ | refine PB1.ex (by assumption) ?_ | refine Mp.ex (by assumption) ?_ | refine It.ex (by assumption) ?_ | refine Own.ex (by assumption) ?_ | refine IsCf.ex (by assumption) ?_ | refine IsMac.ex (by assumption) ?_ | refine Cu.ex (by assumption) ?_ | refine PE.mt rfl (by assumption) ?_ | refine PEs.mt rfl (by assumption) ?_ | refine PC.mt rfl (by assumption) ?_ | refine PM.mt rfl (by assumption) ?_ | refine PS.mt rfl (by assumption) ?_ | refine PBo.mt rfl (by assumption) ?_ | refine PB1.mt rfl (by assumption) ?_ | refine Sl.typ (by assumption) ?_ rfl | refine PN.mt rfl (by assumption) ?_ | refine PN1.mt rfl (by assumption) ?_))) : p := h
attribute [local irreducible] Instr.box Instr.alloc Instr.loadAt Instr.storeAt Instr.fieldAt Instr.indexAt Instr.build Instr.buildSlice Instr.makeSlice Instr.makeMap Instr.mapUpdate Instr.lookup Instr.range Instr.next Instr.entry Instr.extract Instr.makeInterface Instr.makeFunc Instr.sliceAt Instr.typeAssert Instr.field Instr.index Builtin.len_ Builtin.cap_ Builtin.max_ Builtin.min_ Builtin.append_ Builtin.copy_ Builtin.delete_ convert binS pickS nilS callV callM Op.unary Own Mp It Cu

variable {K : Value → World → Prop} {w : World} {te : Option Nat}

/-- Entries behind an index and a term. -/
structure RowOk (i t : Int) (l : List En) (most : Int) : Prop where
  len : l.length ≤ 30
  hi : t ≤ most
  at_ : ∀ (j : Nat) (e : En), l[j]? = some e → e.i = i + 1 + j ∧ t ≤ e.t ∧ e.t ≤ most ∧ e.k = 0 ∧ e.d.size ≤ 100

theorem k28 {v : Value} {l : List En} {i t most : Int} (hv : Ens w te v l) (hi : 0 ≤ i ∧ i ≤ 1099511627776) (h : ∀ b w', Ex w w' → (b = true → RowOk i t l most) → K (.bool b) w') : CK Pr 28 #[.int .u64 i, .int .u64 t, v, .int .u64 most] w K := by
  refine c28 ?_
  unfold t28
  (repeat (first | (refine go ?_; intros) | (refine goK2 ?_; intros) | (refine q_lenSl lfK3 ?_) | (refine gd_sf (fun hg => ?_) (fun hg => ?_); rotate_left 1; (rw [hg]; (repeat (first | refine gd_tf ?_ | refine gd_un ?_ | refine q_pick_t ?_ | refine if_t ?_)); exact h false _ ex_ (fun hf => by cases hf)); rw [hg]) | (refine if_split (fun hg => ?_) (fun hg => ?_); (exact h false _ ex_ (fun hf => by cases hf)))))
  unfold t28_2
  (repeat (first | (refine go ?_; intros) | (refine goK2 ?_; intros) | (refine q_lenSl lfK3 ?_)))
  have hlen : l.length ≤ 30 := by
    have : ¬ (_ < _) := of_decide_eq_false (by assumption : decide ((30 : Int) < ((l.map En.cells).length : Nat)) = false)
    rw [List.length_map] at this; omega
  have hmo : t ≤ most := by
    have : ¬ (_ < _) := of_decide_eq_false (by assumption : decide (most < t) = false)
    omega
  refine loop_n (α := Nat) (fun j τ w' => g τ 4 = .int .i64 j ∧ j ≤ l.length ∧ Ex w w' ∧ (∃ c, g τ 0 = .int .u64 c ∧ t ≤ c) ∧ ∀ (k : Nat) (e : En), k < j → l[k]? = some e → e.i = i + 1 + k ∧ t ≤ e.t ∧ e.t ≤ most ∧ e.k = 0 ∧ e.d.size ≤ 100) (fun j => l.length - j) 0
    ⟨rfl, Nat.zero_le _, .refl _ _ _, ⟨t, rfl, Int.le_refl _⟩, by intro k e hk; omega⟩ ?_
  intro j τ w' R ⟨hj, hle, hex, ⟨c, hc, hct⟩, hrow⟩ hR
  rw [hj]
  (repeat (first | (refine go ?_; intros) | (refine goK2 ?_; intros) | (refine q_lenSl lfK3 ?_)))
  have zz := hex.size
  refine if_split (fun hb => ?_) (fun hb => ?_)
  · have hj' : j < l.length := by simpa using hb
    obtain ⟨e, he⟩ : ∃ e, l[j]? = some e := ⟨_, List.getElem?_eq_getElem hj'⟩
    unfold t28_1
    rw [hj, hc]
    refine q_ixa j (by exact lfK3 : Ens w' te v l) rfl (by rw [List.getElem?_map, he]; rfl) fun _ => ?_
    (repeat (first | (refine go ?_; intros) | (refine goK2 ?_; intros) | (refine q_lenSl lfK3 ?_) | (refine gd_sf (fun hg => ?_) (fun hg => ?_); rotate_left 1; (rw [hg]; (repeat (first | refine gd_tf ?_ | refine gd_un ?_ | refine q_pick_t ?_ | refine if_t ?_)); exact h false _ ex_ (fun hf => by cases hf)); rw [hg]) | (refine if_split (fun hg => ?_) (fun hg => ?_); (exact h false _ ex_ (fun hf => by cases hf)))))
    have f1 : e.i = i + 1 + j := by
      have := (by assumption : (!e.i == IntKind.u64.wrap (IntKind.u64.wrap (i + 1) + IntKind.u64.wrap (j : Int))) = false)
      rw [wrapU (n := i + 1) (by omega) (by omega), wrapU (n := (j : Int)) (by omega) (by omega), wrapU (by omega) (by omega)] at this
      simpa using this
    have f2 : ¬ (e.t < c) := of_decide_eq_false (by assumption)
    have f3 : ¬ (most < e.t) := of_decide_eq_false (by assumption)
    have f4 : e.k = 0 := by
      have := (by assumption : (!e.k == 0) = false)
      simpa using this
    have f5 : ¬ ((100 : Int) < (e.d.size : Nat)) := of_decide_eq_false (by assumption)
    refine hR (j + 1) _ _ ⟨by rw [← wrapS (by omega)]; rfl, hj', hex.trans ex_, ⟨e.t, rfl, by omega⟩, ?_⟩ (by omega)
    intro k e' hk he'
    rcases Nat.lt_or_ge k j with h2 | h2
    · exact hrow k e' h2 he'
    · have : k = j := by omega
      subst this
      rw [he] at he'
      cases he'
      exact ⟨f1, by omega, by omega, f4, by omega⟩
  · have : ¬ ((j : Int) < ((l.map En.cells).length : Nat)) := of_decide_eq_false hb
    rw [List.length_map] at this
    exact h true _ hex (fun _ => ⟨hlen, hmo, fun k e hk => hrow k e (by have := (List.getElem?_eq_some_iff.1 hk).1; omega) hk⟩)

end Go.Proofs.YtmmpogfbhelioaaGreat
/-
  Contract: whether a machine is whole, and what that says.
  Conditions: numbers that fit their kinds, lists that can be counted.
-/
namespace Go.Proofs.YtmmpogfbhelioaaGreat
set_option maxRecDepth 10000
set_option linter.unusedVariables false
set_option linter.unusedSimpArgs false
theorem lfK4 {p : Prop} (h : p := by (repeat (first | assumption | refine Sl.ex (by assumption) ?_ | refine PE.ex (by assumption) ?_ | refine PEs.ex (by assumption) ?_ | refine PC.ex (by assumption) ?_ | refine PM.ex (by assumption) ?_ | refine PS.ex (by assumption) ?_ | refine PN.ex (by assumption) ?_ | refine PBo.ex (by assumption) ?_ | refine PN1.ex (by assumption) ?_ | refine PB1.ex (by assumption) ?_ | refine Mp.ex (by assumption) ?_ | refine It.ex (by assumption) ?_ | refine Own.ex (by assumption) ?_ | refine IsCf.ex (by assumption) ?_ | refine IsMac.ex (by assumption) ?_ | refine Cu.ex (by assumption) ?_ | refine PE.mt rfl (by assumption) ?_ | refine PEs.mt rfl (by assumption) ?_ | refine PC.mt rfl (by assumption) ?_ | refine PM.mt rfl (by assumption) ?_ | refine PS.mt rfl (by assumption) ?_ | refine PBo.mt rfl (by assumption) ?_ | refine PB1.mt rfl (by assumption) ?_ | refine Sl.typ (by assumption) ?_ rfl | refine PN.mt rfl (by assumption) ?_ | refine PN1.mt rfl (by assumption) ?_))) : p := h
set_option maxHeartbeats 4000000
attribute [local irreducible] Instr.box Instr.alloc Instr.loadAt Instr.storeAt Instr.fieldAt Instr.indexAt Instr.build Instr.buildSlice Instr.makeSlice Instr.makeMap Instr.mapUpdate Instr.lookup Instr.range Instr.next Instr.entry Instr.extract Instr.makeInterface Instr.makeFunc Instr.sliceAt Instr.typeAssert Instr.field Instr.index Builtin.len_ Builtin.cap_ Builtin.max_ Builtin.min_ Builtin.append_ Builtin.copy_ Builtin.delete_ convert binS pickS nilS callV callM Op.unary Own Mp It Cu

variable {K : Value → World → Prop} {w : World} {te : Option Nat}

def Mac.cf (m : Mac) : Cf := ⟨m.vo, m.le, [], [], false⟩
def Mac.lasti (m : Mac) : Int := m.base.i + (m.st ++ m.fr).length

/-- One peer of a machine that is whole. -/
structure PeW (m : Mac) (p : Pe) : Prop where
  mem : p.id ∈ m.vo ∨ p.id ∈ m.le
  lea : p.lea = decide (p.id ∈ m.le)
  ma : p.ma < p.ne
  ne : p.ne ≤ m.lasti + 1
  st : 0 ≤ p.st ∧ p.st ≤ 1
  pend : p.pend = 0
  size : 1 ≤ p.size ∧ p.size ≤ 100
  mx : p.mx = 0
  fl : p.fl = []
  byt : p.byt = []

structure Whole (m : Mac) : Prop where
  id : 0 < m.id ∧ m.id < 1099511627776
  term : 1 ≤ m.term ∧ m.term ≤ 1099511627776
  vote : m.vote < 1099511627776
  lead : m.lead < 1099511627776
  role : 0 ≤ m.role ∧ m.role ≤ 3
  mem : MembersOk m.cf
  inn : m.id ∈ m.vo ∨ m.id ∈ m.le
  bi : 1 ≤ m.base.i ∧ m.base.i ≤ 1099511627776
  bt : 1 ≤ m.base.t
  bd : m.base.d.size ≤ 100
  bc : MembersOk m.base.c
  row : RowOk m.base.i m.base.t (m.st ++ m.fr) m.term
  com : m.base.i ≤ m.commit ∧ m.commit ≤ m.lasti
  app : m.base.i ≤ m.applied ∧ m.applied ≤ m.commit
  tr : m.tr = 0
  hb : 1 ≤ m.hb
  el : m.hb < m.el ∧ m.el ≤ 30
  to : m.el ≤ m.to ∧ m.to < 2 * m.el
  pe : ∀ p ∈ m.pe, PeW m p
  srt : ∀ (j : Nat) p q, m.pe[j]? = some p → m.pe[j + 1]? = some q → p.id < q.id
  pes : m.pe.length = m.vo.length + m.le.length
  vs : m.vs = []

/-- What the last part of whole tells. -/
structure WholeP (m : Mac) : Prop where
  pe : ∀ p ∈ m.pe, PeW m p
  srt : ∀ (j : Nat) p q, m.pe[j]? = some p → m.pe[j + 1]? = some q → p.id < q.id
  pes : m.pe.length = m.vo.length + m.le.length
  vs : m.vs = []

theorem k9_2 {m : Mac} {b1 : Nat} (hbm : Bk w b1 (.cells m.cells 32 (0, 0))) (hm : IsMac w m) (ok : MacOk m) (fit : MacFit m) (hlast : 0 ≤ m.lasti ∧ m.lasti ≤ 2199023255552) (hvo : m.vo.length ≤ 9) (hle : m.le.length ≤ 4)
    (h : ∀ b w', Ex w w' → (b = true → WholeP m) → K (.bool b) w') : t9_2 w (.pointer (some ⟨b1, 0, none⟩)) (.int .u64 m.lasti) K := by
  unfold t9_2
  (repeat (first | (refine go ?_; intros) | (refine goK2 ?_; intros) | (refine q_lenSl lfK4 ?_)))
  refine q_lenSl hm.pe ?_
  refine loop_n (α := Nat) (fun j τ w' => g τ 3 = .int .i64 j ∧ j ≤ m.pe.length ∧ Ex w w' ∧ (∀ p ∈ m.pe.take j, PeW m p) ∧ (∀ (k : Nat) p q, k + 1 < j → m.pe[k]? = some p → m.pe[k + 1]? = some q → p.id < q.id)) (fun j => m.pe.length - j) 0
    ⟨rfl, Nat.zero_le _, .refl _ _ _, by simp, by intro k p q hk; omega⟩ ?_
  intro j τ w' R ⟨hj, hle, hex, hpw, hsrt⟩ hR
  rw [hj]
  (repeat (first | (refine go ?_; intros) | (refine goK2 ?_; intros) | (refine q_lenSl lfK4 ?_)))
  have zz := hex.size
  have hpl := fit.pes
  refine if_split (fun hb => ?_) (fun hb => ?_)
  · have hj' : j < m.pe.length := by simpa using hb
    obtain ⟨e, he⟩ : ∃ e, m.pe[j]? = some e := ⟨_, List.getElem?_eq_getElem hj'⟩
    obtain ⟨hp1, hp2⟩ := hm.pes e (List.mem_of_getElem? he)
    have o1 := hp1.one
    have o2 := hp2.one
    unfold t9_1
    rw [hj]
    refine q_ixa j (hm.ex hex).pe rfl (by rw [List.getElem?_map, he]; rfl) fun _ => ?_
    refine e_allocA fun b2 w2 e2 hb2 s2a s2b => ?_
    refine u_stA hb2 (Nat.le_of_ble_eq_true rfl) (by rfl) (by simp only [Pe.cells, List.all_cons, List.all_nil, o1, o2]; rfl) nmK2 fun w3 u3 hb3 z3 => ?_
    clear hb2
    refine dr_rule No [] fun w4 e4 z4 => ?_
    have hb3' := e4.at_ hb3
    have hb1' : Bk w4 b1 (.cells m.cells 32 (0, 0)) := by
      have := hex.at_ hbm
      exact bk_
    have ew : Ex w' w4 := by exact ex_
    have hm4 := hm.ex (hex.trans ew)
    (repeat (first | (refine go ?_; intros) | (refine goK2 ?_; intros) | (refine q_lenSl lfK4 ?_)))
    refine cl_fn (k27 hm4 fun w5 e5 => ⟨e5, ?_⟩)
    (repeat (first | (refine go ?_; intros) | (refine goK2 ?_; intros) | (refine q_lenSl lfK4 ?_)))
    refine gd_sf (fun hg => ?_) (fun hg => ?_)
    rotate_left 1
    · rw [hg]
      (repeat (first | refine gd_tf ?_ | refine gd_un ?_ | refine q_pick_t ?_ | refine if_t ?_))
      exact h false _ (hex.trans (ew.trans e5)) (fun hf => by cases hf)
    rw [hg]
    have hmem : e.id ∈ m.vo ∨ e.id ∈ m.le := by
      rcases Classical.em (e.id ∈ m.vo) with h1 | h1
      · exact .inl h1
      · rcases Classical.em (e.id ∈ m.le) with h2 | h2
        · exact .inr h2
        · simp [h1, h2] at hg
    (repeat (first | (refine go ?_; intros) | (refine goK2 ?_; intros) | (refine q_lenSl lfK4 ?_)))
    refine gd_st (fun hz => ?_) (fun hz => ?_)
    · rw [hz]
      have hz' : 0 < j := by
        have : (0 : Int) < j := of_decide_eq_true hz
        omega
      obtain ⟨e0, he0⟩ : ∃ e, m.pe[j - 1]? = some e := ⟨_, List.getElem?_eq_getElem (by omega)⟩
      (repeat (first | (refine go ?_; intros) | (refine goK2 ?_; intros) | (refine q_lenSl lfK4 ?_)))
      refine q_ix (j - 1) hm4.pe (by rw [wrap64 (by omega) (by omega)]; omega) (by rw [List.getElem?_map, he0]; rfl) fun b9 o9 hel => ?_
      (repeat (first | (refine go ?_; intros) | (refine goK2 ?_; intros) | (refine q_lenSl lfK4 ?_)))
      refine q_ldEU hel (by rfl) ?_
      (repeat (first | (refine go ?_; intros) | (refine goK2 ?_; intros) | (refine q_lenSl lfK4 ?_)))
      refine gd_sf (fun hg2 => ?_) (fun hg2 => ?_)
      rotate_left 1
      · rw [hg2]
        (repeat (first | refine gd_tf ?_ | refine gd_un ?_ | refine q_pick_t ?_ | refine if_t ?_))
        exact h false _ (hex.trans (ew.trans e5)) (fun hf => by cases hf)
      rw [hg2]
      have hsr : ∀ (k : Nat) p, k + 1 = j → m.pe[k]? = some p → p.id < e.id := by
        intro k p hk hp
        have : k = j - 1 := by omega
        subst this
        rw [he0] at hp
        cases hp
        have : ¬ (e.id ≤ e0.id) := of_decide_eq_false hg2
        omega
      clear hg2
      (repeat (first | (refine go ?_; intros) | (refine goK2 ?_; intros) | (refine q_lenSl lfK4 ?_)))
      refine cl_fn (k18 (hm4.ex e5).le ⟨e5, ?_⟩)
      (repeat (first | (refine go ?_; intros) | (refine goK2 ?_; intros) | (refine q_lenSl lfK4 ?_) | (refine gd_sf (fun hg => ?_) (fun hg => ?_); rotate_left 1; (rw [hg]; (repeat (first | refine gd_tf ?_ | refine gd_un ?_ | refine q_pick_t ?_ | refine if_t ?_)); exact h false _ (hex.trans (ew.trans e5)) (fun hf => by cases hf)); rw [hg]) | (refine if_split (fun hg => ?_) (fun hg => ?_); (exact h false _ (hex.trans (ew.trans e5)) (fun hf => by cases hf)))))
      have f1 : e.lea = decide (e.id ∈ m.le) := by
        have := (by assumption : (!e.lea == decide (e.id ∈ m.le)) = false)
        simpa using this
      have f2 : ¬ e.ne ≤ e.ma := of_decide_eq_false (by assumption)
      have f3 : ¬ m.lasti + 1 < e.ne := by
        have := of_decide_eq_false (by assumption : decide (IntKind.u64.wrap (m.lasti + 1) < e.ne) = false)
        rw [wrapU (by omega) (by omega)] at this
        exact this
      have f4 : ¬ e.st < 0 := of_decide_eq_false (by assumption)
      have f5 : ¬ 1 < e.st := of_decide_eq_false (by assumption)
      have f6 : e.pend = 0 := by
        have := (by assumption : (!e.pend == 0) = false)
        simpa using this
      have f7 : ¬ e.size < 1 := of_decide_eq_false (by assumption)
      have f8 : ¬ 100 < e.size := of_decide_eq_false (by assumption)
      have f9 : e.mx = 0 := by
        have := (by assumption : (!e.mx == 0) = false)
        simpa using this
      have fe := fit.pe e (List.mem_of_getElem? he)
      have ff1 := fe.f
      have ff2 := fe.b
      have f10 : e.fl = [] ∧ e.byt = [] := by
        have := of_decide_eq_false (by assumption : decide (0 < IntKind.i64.wrap (((nums e.fl).length : Nat) + ((nums e.byt).length : Nat))) = false)
        rw [nums_len, nums_len, wrap64 (by omega) (by omega)] at this
        exact ⟨List.eq_nil_of_length_eq_zero (by omega), List.eq_nil_of_length_eq_zero (by omega)⟩
      refine hR (j + 1) _ _ ⟨by rw [← wrapS (by omega)]; rfl, hj', hex.trans (ew.trans e5), ?_, ?_⟩ (by omega)
      · rw [take_snoc he]
        intro p hp
        rcases List.mem_append.1 hp with hp | hp
        · exact hpw p hp
        · rw [List.mem_singleton.1 hp]
          exact ⟨hmem, f1, by omega, by omega, ⟨by omega, by omega⟩, f6, ⟨by omega, by omega⟩, f9, f10.1, f10.2⟩
      · intro k p q hk hp hq
        rcases Nat.lt_or_ge (k + 1) j with h2 | h2
        · exact hsrt k p q h2 hp hq
        · have : k + 1 = j := by omega
          rw [this, he] at hq
          cases hq
          exact hsr k p this hp
    · rw [hz]
      have hsr : ∀ (k : Nat) p, k + 1 = j → m.pe[k]? = some p → p.id < e.id := by
        intro k p hk hp
        have : ¬ (0 : Int) < j := of_decide_eq_false hz
        omega
      (repeat (first | (refine go ?_; intros) | (refine goK2 ?_; intros) | (refine q_lenSl lfK4 ?_)))
      refine cl_fn (k18 (hm4.ex e5).le ⟨e5, ?_⟩)
      (repeat (first | (refine go ?_; intros) | (refine goK2 ?_; intros) | (refine q_lenSl lfK4 ?_) | (refine gd_sf (fun hg => ?_) (fun hg => ?_); rotate_left 1; (rw [hg]; (repeat (first | refine gd_tf ?_ | refine gd_un ?_ | refine q_pick_t ?_ | refine if_t ?_)); exact h false _ (hex.trans (ew.trans e5)) (fun hf => by cases hf)); rw [hg]) | (refine if_split (fun hg => ?_) (fun hg => ?_); (exact h false _ (hex.trans (ew.trans e5)) (fun hf => by cases hf)))))
      have f1 : e.lea = decide (e.id ∈ m.le) := by
        have := (by assumption : (!e.lea == decide (e.id ∈ m.le)) = false)
        simpa using this
      have f2 : ¬ e.ne ≤ e.ma := of_decide_eq_false (by assumption)
      have f3 : ¬ m.lasti + 1 < e.ne := by
        have := of_decide_eq_false (by assumption : decide (IntKind.u64.wrap (m.lasti + 1) < e.ne) = false)
        rw [wrapU (by omega) (by omega)] at this
        exact this
      have f4 : ¬ e.st < 0 := of_decide_eq_false (by assumption)
      have f5 : ¬ 1 < e.st := of_decide_eq_false (by assumption)
      have f6 : e.pend = 0 := by
        have := (by assumption : (!e.pend == 0) = false)
        simpa using this
      have f7 : ¬ e.size < 1 := of_decide_eq_false (by assumption)
      have f8 : ¬ 100 < e.size := of_decide_eq_false (by assumption)
      have f9 : e.mx = 0 := by
        have := (by assumption : (!e.mx == 0) = false)
        simpa using this
      have fe := fit.pe e (List.mem_of_getElem? he)
      have ff1 := fe.f
      have ff2 := fe.b
      have f10 : e.fl = [] ∧ e.byt = [] := by
        have := of_decide_eq_false (by assumption : decide (0 < IntKind.i64.wrap (((nums e.fl).length : Nat) + ((nums e.byt).length : Nat))) = false)
        rw [nums_len, nums_len, wrap64 (by omega) (by omega)] at this
        exact ⟨List.eq_nil_of_length_eq_zero (by omega), List.eq_nil_of_length_eq_zero (by omega)⟩
      refine hR (j + 1) _ _ ⟨by rw [← wrapS (by omega)]; rfl, hj', hex.trans (ew.trans e5), ?_, ?_⟩ (by omega)
      · rw [take_snoc he]
        intro p hp
        rcases List.mem_append.1 hp with hp | hp
        · exact hpw p hp
        · rw [List.mem_singleton.1 hp]
          exact ⟨hmem, f1, by omega, by omega, ⟨by omega, by omega⟩, f6, ⟨by omega, by omega⟩, f9, f10.1, f10.2⟩
      · intro k p q hk hp hq
        rcases Nat.lt_or_ge (k + 1) j with h2 | h2
        · exact hsrt k p q h2 hp hq
        · have : k + 1 = j := by omega
          rw [this, he] at hq
          cases hq
          exact hsr k p this hp
  · have hjj : j = m.pe.length := by
      have : ¬ ((j : Int) < ((m.pe.map Pe.cells).length : Nat)) := of_decide_eq_false hb
      rw [List.length_map] at this
      omega
    have hbm' := hex.at_ hbm
    have hm' := hm.ex hex
    obtain ⟨q1, q2, q3, q4⟩ : Nums w' none m.voV m.vo ∧ Nums w' none m.leV m.le ∧ Sl w' none 12 m.peV (m.pe.map Pe.cells) ∧ Sl w' none 2 m.vsV (bals m.vs) := ⟨hm'.vo, hm'.le, hm'.pe, hm'.vs⟩
    (repeat (first | (refine go ?_; intros) | (refine goK2 ?_; intros) | (refine q_lenSl lfK4 ?_)))
    rw [hjj, List.take_length] at hpw
    refine gd_st (fun hz => ?_) (fun hz => ?_)
    · rw [hz]
      (repeat (first | (refine go ?_; intros) | (refine goK2 ?_; intros) | (refine q_lenSl lfK4 ?_)))
      refine h _ _ hex fun hv => ⟨hpw, ?_, ?_, ?_⟩
      · intro k p q hp hq
        have := (List.getElem?_eq_some_iff.1 hq).1
        exact hsrt k p q (by omega) hp hq
      · have := eq_of_beq hz
        rw [List.length_map, nums_len, nums_len, wrap64 (by omega) (by omega)] at this
        omega
      · have := eq_of_beq hv
        rw [bals, List.length_map] at this
        exact List.eq_nil_of_length_eq_zero (by omega)
    · rw [hz]
      (repeat (first | (refine go ?_; intros) | (refine goK2 ?_; intros) | (refine q_lenSl lfK4 ?_)))
      exact h false _ hex (fun hf => by cases hf)

end Go.Proofs.YtmmpogfbhelioaaGreat
/-
  Members' progress in memory; the whole machine in memory.
  Conditions: none.
-/
namespace Go.Proofs.YtmmpogfbhelioaaGreat
set_option maxRecDepth 10000
set_option linter.unusedVariables false
set_option linter.unusedSimpArgs false

variable {w : World}

abbrev Ps := List (Int × Nat × Pg)
def kvP (ps : Ps) : KV := ps.map fun x => (x.1, .pointer (some ⟨x.2.1, 0, none⟩))
def putP : Ps → Int → Nat → Pg → Ps
  | [], i, b, q => [(i, b, q)]
  | (j, c, r) :: l, i, b, q => if j = i then (i, b, q) :: l else (j, c, r) :: putP l i b q

theorem kvP_put (ps : Ps) (i : Int) (b : Nat) (q : Pg) : kvP (putP ps i b q) = put (kvP ps) i (.pointer (some ⟨b, 0, none⟩)) := by
  induction ps with
  | nil => rfl
  | cons x l ih =>
    obtain ⟨j, c, r⟩ := x
    simp only [putP, kvP, List.map_cons, put] at ih ⊢
    by_cases h : j = i
    · simp [h]
    · simp [h, ih]
theorem putP_mem {ps : Ps} {i : Int} {b : Nat} {q : Pg} {x : Int × Nat × Pg} (h : x ∈ putP ps i b q) : x = (i, b, q) ∨ x ∈ ps := by
  induction ps with
  | nil => simp [putP] at h; exact .inl h
  | cons y l ih =>
    obtain ⟨j, c, r⟩ := y
    simp only [putP] at h
    by_cases hj : j = i
    · rw [if_pos hj] at h
      rcases List.mem_cons.1 h with h | h
      · exact .inl h
      · exact .inr (List.mem_cons_of_mem _ h)
    · rw [if_neg hj] at h
      rcases List.mem_cons.1 h with h | h
      · exact .inr (h ▸ List.mem_cons_self ..)
      · exact (ih h).imp id (List.mem_cons_of_mem _)
theorem putP_nd {ps : Ps} {i : Int} {b : Nat} {q : Pg} (hn : (ps.map (·.2.1)).Nodup) (hb : ∀ x ∈ ps, x.2.1 ≠ b) : ((putP ps i b q).map (·.2.1)).Nodup := by
  induction ps with
  | nil => simp [putP]
  | cons y l ih =>
    obtain ⟨j, c, r⟩ := y
    simp only [putP]
    have hn' := List.nodup_cons.1 (by simpa using hn : (c :: l.map (·.2.1)).Nodup)
    by_cases hj : j = i
    · rw [if_pos hj]
      simp only [List.map_cons, List.nodup_cons]
      refine ⟨fun h => ?_, hn'.2⟩
      obtain ⟨x, hx, hxb⟩ := List.mem_map.1 h
      exact hb x (List.mem_cons_of_mem _ hx) hxb
    · rw [if_neg hj]
      simp only [List.map_cons, List.nodup_cons]
      refine ⟨fun h => ?_, ih hn'.2 fun x hx => hb x (List.mem_cons_of_mem _ hx)⟩
      obtain ⟨x, hx, hxc⟩ := List.mem_map.1 h
      rcases putP_mem hx with rfl | hx
      · exact hb (j, c, r) (List.mem_cons_self ..) hxc.symm
      · exact hn'.1 (hxc ▸ List.mem_map.2 ⟨x, hx, rfl⟩)
theorem putP_in {ps : Ps} {i : Int} {b : Nat} {q : Pg} (h : i ∈ ps.map (·.1)) : (putP ps i b q).map (·.1) = ps.map (·.1) := by
  induction ps with
  | nil => cases h
  | cons y l ih =>
    obtain ⟨j, c, r⟩ := y
    simp only [putP]
    by_cases hj : j = i
    · simp [hj]
    · rw [if_neg hj]
      simp only [List.map_cons, List.mem_cons] at h ⊢
      rw [ih (h.resolve_left fun e => hj e.symm)]
theorem putP_new {ps : Ps} {i : Int} {b : Nat} {q : Pg} (h : i ∉ ps.map (·.1)) : (putP ps i b q).map (·.1) = ps.map (·.1) ++ [i] := by
  induction ps with
  | nil => rfl
  | cons y l ih =>
    obtain ⟨j, c, r⟩ := y
    simp only [List.map_cons, List.mem_cons, not_or] at h
    simp only [putP]
    rw [if_neg (fun e => h.1 e.symm)]
    simp only [List.map_cons, List.cons_append, ih h.2]

/-- The map of members' progress. -/
structure Prs (base pm : Nat) (ps : Ps) (w : World) : Prop where
  mp : Mp w pm (kvP ps)
  nd : (ps.map (·.2.1)).Nodup
  pg : ∀ x ∈ ps, PG base x.2.1 x.2.2 w
  b0 : base ≤ pm

theorem Prs.up {base pm : Nat} {ps : Ps} {C : Nat → Prop} {T : List Nat} {w' : World} (u : Up C T w w') (h0 : T.contains 0 = false ∨ ¬ C pm) (h1 : T.contains 154 = false ∨ ∀ x ∈ ps, ¬ C x.2.1) (h2 : T.contains 232 = false) (h : Prs base pm ps w) : Prs base pm ps w' :=
  ⟨h.mp.up u h0, h.nd, fun x hx => (h.pg x hx).up u (h1.imp id fun h1 => h1 x hx) h2, h.b0⟩
theorem Prs.ex {base pm : Nat} {ps : Ps} {w' : World} (u : Ex w w') (h : Prs base pm ps w) : Prs base pm ps w' := h.up u (.inr id) (.inl rfl) rfl
theorem Prs.put {base pm b : Nat} {ps : Ps} {i : Int} {q : Pg} {w' : World} (h : Prs base pm ps w) (u : Up (fun x => x = pm) [0] w w') (hm : Mp w' pm (put (kvP ps) i (.pointer (some ⟨b, 0, none⟩)))) (hb : ∀ x ∈ ps, x.2.1 ≠ b) (hq : PG base b q w') : Prs base pm (putP ps i b q) w' :=
  ⟨by rw [kvP_put]; exact hm, putP_nd h.nd hb, fun x hx => by
    rcases putP_mem hx with rfl | hx
    · exact hq
    · exact (h.pg x hx).up u (.inl rfl) rfl, h.b0⟩
theorem Prs.fresh {base pm b : Nat} {ps : Ps} (h : Prs base pm ps w) (hb : w.heap.size ≤ b) : ∀ x ∈ ps, x.2.1 ≠ b := fun x hx e => by
  have := (h.pg x hx).lt
  omega

/-- The machine in memory: b its block, R its fields, L its log, ps its members' progress, vo and le its voters and learners. -/
structure RM (base b : Nat) (R : Rf) (L : Lg) (ps : Ps) (vo le : List Int) (w : World) : Prop where
  bk : Bk w b (.cells R.cells 187 (0, 0))
  b0 : base ≤ b
  lg : LG base R.lb L w
  lok : L.Ok
  pr : Prs base R.pm ps w
  vo : MpO w R.vb (ms vo)
  le : MpO w R.lm (ms le)
  vt : Mp w R.vt []
  ro : RdO R.ro w

/-- A machine's fields as they are made. -/
def mkR (m : Mac) (lb : Nat) (vb : Nat) (lm : Option Nat) (pm vt ro : Nat) (most : Int) : Rf :=
  ⟨m.id, m.term, m.vote, lb, m.ms, m.mu, some vb, none, false, lm, none, pm, vt, most, 0, m.role, decide (m.id ∈ m.le), .slice none 0 0, .slice none 0 0, m.lead, m.tr, 0, m.un, ro, m.ep, m.be, m.cq, m.pv, m.hb, m.el, m.to, .nilFunc, .nilFunc⟩
def mkL (m : Mac) (sb : Nat) : Lg :=
  ⟨sb, m.base, ⟨m.base.t, m.base.i, 0, ByteArray.empty⟩ :: m.st, none, m.fr, m.base.i + m.st.length + 1, false, m.base.i + m.st.length + 1, m.commit, m.applied, m.applied, 18446744073709551615⟩

end Go.Proofs.YtmmpogfbhelioaaGreat
/-
  Contract: a machine is made out of plain data.
  Conditions: the data is whole.
-/
namespace Go.Proofs.YtmmpogfbhelioaaGreat
set_option maxRecDepth 10000
set_option linter.unusedVariables false
set_option linter.unusedSimpArgs false
theorem nmK15 {p : Prop} (h : p := by (try simp only [List.getElem?_toArray, List.getElem?_cons_zero, List.getElem?_cons_succ, List.setIfInBounds_toArray, List.set_cons_zero, List.set_cons_succ, List.toList_toArray, List.drop_zero, List.drop_succ_cons, List.take_zero, List.take_succ_cons, Nat.zero_add, Nat.add_zero, Nat.reduceAdd, putCells, Mac.cells, Pe.cells]) <;> rfl) : p := h
theorem goK15 {G H : Prop} (h : H) (s : Stp G H := by (apply Stp.of; intro hS; (first | (refine q_ld bk_ nmK15 ?_) | (refine q_ldU bk_ rfl nmK15 ?_) | (refine q_ldW bk_ (by rfl) ?_) | (refine q_ldWU bk_ rfl (by rfl) ?_) | (refine q_ldP bk_ (Nat.le_of_ble_eq_true rfl) nmK15 ?_) | (refine q_ldPU bk_ rfl (Nat.le_of_ble_eq_true rfl) nmK15 ?_) | (refine q_ext nmK15 ?_) | (refine u_st bk_ (Nat.le_of_ble_eq_true rfl) (by first | rfl | assumption) nmK15 ?_) | (refine u_stA bk_ (Nat.le_of_ble_eq_true rfl) (by rfl) (by rfl) nmK15 ?_) | (refine q_field nmK15 ?_)); exact hS.out)) : G := s.f h
attribute [local irreducible] Instr.box Instr.alloc Instr.loadAt Instr.storeAt Instr.fieldAt Instr.indexAt Instr.build Instr.buildSlice Instr.makeSlice Instr.makeMap Instr.mapUpdate Instr.lookup Instr.range Instr.next Instr.entry Instr.extract Instr.makeInterface Instr.makeFunc Instr.sliceAt Instr.typeAssert Instr.field Instr.index Builtin.len_ Builtin.cap_ Builtin.max_ Builtin.min_ Builtin.append_ Builtin.copy_ Builtin.delete_ convert binS pickS nilS callV callM Op.unary Own Mp It Cu

variable {K : Value → World → Prop} {w : World} {te : Option Nat}

/-- While the machine is made. -/
structure MTC (m : Mac) (w0 : World) (base b1 lb tb vb : Nat) (lm : Option Nat) (pm vt : Nat) (L : Lg) (most : Int) (ps : Ps) (w : World) : Prop where
  ex : Ex w0 w
  b0 : w0.heap.size ≤ base
  b2 : base ≤ w.heap.size
  bm : Bk w b1 (.cells m.cells 32 (0, 0))
  lg : LG base lb L w
  lok : L.Ok
  tb : Bk w tb (.cells #[.map (some vb), .map none, .bool false, .map lm, .map none, .map (some pm), .map (some vt), .int .i64 most, .int .u64 0] 141 (0, 0))
  pr : Prs base pm ps w
  vo : Mp w vb (ms m.vo)
  le : MpO w lm (ms m.le)
  vt : Mp w vt []

theorem q_lookO {P : Program} {t kt et : TypeId} {q : IntKind} [hm : TUn P t (.map kt et)] [hk : TUn P kt (.int q)] {K : Value → Prop} {zv : Value} [hz : TZero P et zv] {o : Option Nat} {l : KV} {k : Int} {ok : Bool} (h : MpO w o l)
    (kk : K (if ok then .tuple #[(lk l k).getD zv, .bool (lk l k).isSome] else (lk l k).getD zv)) : Qu P (Is w) (Instr.lookup t (.map o) (.int .u64 k) ok) K := by
  cases o with
  | none =>
    cases (show l = [] from h)
    exact q_look0 (kt := kt) (et := et) (by cases ok <;> exact kk)
  | some b => exact q_look (kt := kt) (et := et) h kk

theorem mt_1 {m : Mac} {w0 : World} {base b1 lb tb vb pm vt : Nat} {lm : Option Nat} {L : Lg} {most : Int} {ps : Ps} (hr : 0 ≤ m.role ∧ m.role ≤ 3) (c : MTC m w0 base b1 lb tb vb lm pm vt L most ps w)
    (h : ∀ b ro w', Ex w0 w' → RM base b (mkR m lb vb lm pm vt ro most) L ps m.vo m.le w' → K (.pointer (some ⟨b, 0, none⟩)) w') :
    t50_1 w (.pointer (some ⟨tb, 0, none⟩)) (.pointer (some ⟨b1, 0, none⟩)) (.pointer (some ⟨lb, 0, none⟩)) K := by
  unfold t50_1
  have bm := c.bm
  have htb := c.tb
  (repeat (first | (refine go ?_; intros) | (refine goK15 ?_; intros)))
  refine q_lookO c.le ?_
  rw [lk_ms]
  have e1 : (if m.id ∈ m.le then some (Value.agg #[]) else none).getD (.agg #[]) = .agg #[] := by split <;> rfl
  have e2 : (if m.id ∈ m.le then some (Value.agg #[]) else none).isSome = decide (m.id ∈ m.le) := by split <;> simp_all
  rw [e1, e2]
  (repeat (first | (refine go ?_; intros) | (refine goK15 ?_; intros)))
  rename_i b2 w2 e2' hb2 s1 s2 w3 u3 hb3 z3
  have bm3 : Bk w3 b1 (.cells m.cells 32 (0, 0)) := u3.at_ (e2'.at_ bm) rfl
  have htb3 := u3.at_ (e2'.at_ htb) rfl
  clear bm htb
  (repeat (first | (refine go ?_; intros) | (refine goK15 ?_; intros)))
  rw [wrapU (n := m.role) (by omega) (by omega)]
  (repeat (first | (refine go ?_; intros) | (refine goK15 ?_; intros) | refine b161_0_1_2_3_4_5_6_7_8_9_10_11_12_13_14_15_16 (by first | rfl | assumption) (by first | rfl | assumption) (by first | rfl | assumption) (by first | rfl | assumption) (by first | rfl | assumption) (by first | rfl | assumption) (by first | rfl | assumption) (by first | rfl | assumption) (by first | rfl | assumption) (by first | rfl | assumption) (by first | rfl | assumption) (by first | rfl | assumption) (by first | rfl | assumption) (by first | rfl | assumption) (by first | rfl | assumption) (by first | rfl | assumption) (by first | rfl | assumption) ?_))
  have eW : Ex w w3 := by exact ex_
  refine cl_fn (k80 fun b ro w4 e4 s3 s4 hro hb4 => ?_)
  have eW4 := eW.trans e4
  have z1 := eW.size
  have z2 := c.b2
  exact h b ro w4 (c.ex.trans eW4) ⟨hb4, by omega, c.lg.ex eW4, c.lok, c.pr.ex eW4, Mp.ex eW4 c.vo, c.le.ex eW4, c.vt.ex eW4, hro⟩

theorem mt_2 {m : Mac} {w0 : World} {base b1 lb tb vb pm vt : Nat} {lm : Option Nat} {L : Lg} {most : Int} {ps : Ps} (hm : IsMac w0 m) (hvs : m.vs = []) (hr : 0 ≤ m.role ∧ m.role ≤ 3) (c : MTC m w0 base b1 lb tb vb lm pm vt L most ps w)
    (h : ∀ b ro w', Ex w0 w' → RM base b (mkR m lb vb lm pm vt ro most) L ps m.vo m.le w' → K (.pointer (some ⟨b, 0, none⟩)) w') :
    t50_2 w (.pointer (some ⟨b1, 0, none⟩)) (.pointer (some ⟨tb, 0, none⟩)) (.pointer (some ⟨lb, 0, none⟩)) K := by
  unfold t50_2
  have bm := c.bm
  have hv := (hm.ex c.ex).vs
  (repeat (first | (refine go ?_; intros) | (refine goK15 ?_; intros)))
  rw [hvs]
  refine loop_n (α := Unit) (fun _ τ w' => g τ 1 = .int .i64 0 ∧ w' = w) (fun _ => 0) () ⟨rfl, rfl⟩ ?_
  rintro _ τ w' R ⟨hj, rfl⟩ hR
  rw [hj]
  (repeat (first | (refine go ?_; intros) | (refine goK15 ?_; intros)))
  exact mt_1 hr c h

theorem MTC.step {m : Mac} {w0 : World} {base b1 lb tb vb pm vt : Nat} {lm : Option Nat} {L : Lg} {most : Int} {ps : Ps} {w' : World} (c : MTC m w0 base b1 lb tb vb lm pm vt L most ps w) (e : Ex w w') : MTC m w0 base b1 lb tb vb lm pm vt L most ps w' :=
  ⟨c.ex.trans e, c.b0, Nat.le_trans c.b2 e.size, e.at_ c.bm, c.lg.ex e, c.lok, e.at_ c.tb, c.pr.ex e, c.vo.ex e, c.le.ex e, c.vt.ex e⟩
/-- A progress was put. -/
theorem MTC.put {m : Mac} {w0 : World} {base b1 lb tb vb pm vt b : Nat} {lm : Option Nat} {L : Lg} {most : Int} {ps : Ps} {w' : World} {i : Int} {q : Pg} (c : MTC m w0 base b1 lb tb vb lm pm vt L most ps w) (h1 : vb ≠ pm) (h2 : ∀ x, lm = some x → x ≠ pm) (h3 : vt ≠ pm)
    (u : Up (fun x => x = pm) [0] w w') (hm : Mp w' pm (put (kvP ps) i (.pointer (some ⟨b, 0, none⟩)))) (hb : ∀ x ∈ ps, x.2.1 ≠ b) (hq : PG base b q w') : MTC m w0 base b1 lb tb vb lm pm vt L most (putP ps i b q) w' := by
  have z0 := c.b0
  have hpm := c.pr.b0
  have z1 := u.size
  have z2 := c.b2
  exact ⟨c.ex.new u (by intro x hx; subst hx; omega), c.b0, by omega, u.at_ c.bm rfl, c.lg.mt rfl rfl rfl rfl u, c.lok, u.at_ c.tb rfl, c.pr.put u hm hb hq, c.vo.up u (.inr h1), c.le.up u (.inr h2), c.vt.up u (.inr h3)⟩
/-- The storage's counters turned. -/
theorem MTC.sto {m : Mac} {w0 : World} {base b1 lb tb vb pm vt : Nat} {lm : Option Nat} {L : Lg} {most : Int} {ps : Ps} {w' : World} (c : MTC m w0 base b1 lb tb vb lm pm vt L most ps w) (hs : w0.heap.size ≤ L.sb) (u : Up (fun x => x = L.sb) [227] w w') (hl : LG base lb L w') : MTC m w0 base b1 lb tb vb lm pm vt L most ps w' := by
  have z1 := u.size
  have z2 := c.b2
  exact ⟨c.ex.new u (by intro x hx; subst hx; omega), c.b0, by omega, u.at_ c.bm rfl, hl, c.lok, u.at_ c.tb rfl, c.pr.up u (.inl rfl) (.inl rfl) rfl, c.vo.up u (.inl rfl), c.le.up u (.inl rfl), c.vt.up u (.inl rfl)⟩

theorem mt_3 {m : Mac} {w0 : World} {base b1 lb tb vb pm vt : Nat} {lm : Option Nat} {L : Lg} {most : Int} {ps : Ps} (hm : IsMac w0 m) (hvs : m.vs = []) (hr : 0 ≤ m.role ∧ m.role ≤ 3) (hpe : ∀ p ∈ m.pe, PeW m p) (hpl : m.pe.length ≤ 2147483647) (h1 : vb ≠ pm) (h2 : ∀ x, lm = some x → x ≠ pm) (h3 : vt ≠ pm)
    (c : MTC m w0 base b1 lb tb vb lm pm vt L most ps w) (hk : ps.map (·.1) = m.vo ++ m.le)
    (h : ∀ b ro ps w', Ex w0 w' → ps.map (·.1) = m.vo ++ m.le → RM base b (mkR m lb vb lm pm vt ro most) L ps m.vo m.le w' → K (.pointer (some ⟨b, 0, none⟩)) w') :
    t50_3 w (.pointer (some ⟨b1, 0, none⟩)) (.pointer (some ⟨tb, 0, none⟩)) (.pointer (some ⟨lb, 0, none⟩)) K := by
  unfold t50_3
  have bm := c.bm
  have hv := (hm.ex c.ex).pe
  (repeat (first | (refine go ?_; intros) | (refine goK15 ?_; intros)))
  rw [List.length_map]
  refine loop_n (α := Nat × Ps) (fun a τ w' => g τ 1 = .int .i64 (a.1 : Nat) ∧ a.1 ≤ m.pe.length ∧ MTC m w0 base b1 lb tb vb lm pm vt L most a.2 w' ∧ a.2.map (·.1) = m.vo ++ m.le) (fun a => m.pe.length - a.1) (0, ps) ⟨rfl, Nat.zero_le _, c, hk⟩ ?_
  clear c hk bm hv
  rintro ⟨j, ps⟩ τ w' R ⟨hj, hle, c, hk⟩ hR
  simp only at hj hle c hk hR
  rw [hj]
  (repeat (first | (refine go ?_; intros) | (refine goK15 ?_; intros)))
  refine if_split (fun hb => ?_) (fun hb => ?_)
  · have hj' : j < m.pe.length := by simpa using hb
    obtain ⟨p, hp⟩ : ∃ e, m.pe[j]? = some e := ⟨_, List.getElem?_eq_getElem hj'⟩
    obtain ⟨hp1, hp2⟩ := (hm.ex c.ex).pes p (List.mem_of_getElem? hp)
    have hw := hpe p (List.mem_of_getElem? hp)
    have o1 := hp1.one
    have o2 := hp2.one
    refine q_ixa j (hm.ex c.ex).pe rfl (by rw [List.getElem?_map, hp]; rfl) fun _ => ?_
    refine e_allocA fun b2 w2 e2 hb2 s2a s2b => ?_
    refine u_stA hb2 (Nat.le_of_ble_eq_true rfl) (by rfl) (by simp only [Pe.cells, List.all_cons, List.all_nil, o1, o2]; rfl) nmK15 fun w3 u3 hb3 z3 => ?_
    clear hb2
    have ew3 : Ex w' w3 := by exact ex_
    refine dr_rule (fun x => x = pm) [0] fun w4 e4 z4 => ?_
    have ew4 := ew3.trans e4
    have c4 := c.step ew4
    have hb4 := e4.at_ hb3
    have htb := c4.tb
    (repeat (first | (refine go ?_; intros) | (refine goK15 ?_; intros)))
    refine cl_fn (k79 (base := base) (p := p) (hp1.ex ew4) (hp2.ex ew4) hw.fl hw.st c4.b2 fun b5 w5 e5 s5 hq => ⟨.of_ex e5, ?_⟩)
    have c5 := c4.step e5
    refine u_put c5.pr.mp fun w6 u6 m6 z6 => ⟨(Up.of_ex e5).trans u6, ?_⟩
    (repeat (first | (refine go ?_; intros) | (refine goK15 ?_; intros)))
    rw [wrapS (by omega)]
    have hin : p.id ∈ ps.map (·.1) := by rw [hk, List.mem_append]; exact hw.mem
    exact hR (j + 1, putP ps p.id b5 _) _ _ ⟨rfl, by simp; omega, c5.put h1 h2 h3 u6 m6 (c4.pr.fresh s5) (hq.up u6 (.inl rfl) rfl), by simp only [putP_in hin]; exact hk⟩ (by simp; omega)
  · exact mt_2 (hm := hm) hvs hr c fun b ro w' e r => h b ro ps w' e hk r

def offs (m : Mac) : Nat → Nat
  | 0 => 0
  | 1 => m.vo.length
  | _ => m.vo.length + m.le.length

theorem mt_4 {m : Mac} {w0 : World} {base b1 lb : Nat} {L : Lg} {most : Int} {τ : List Value} (hm : IsMac w0 m) (hvs : m.vs = []) (hr : 0 ≤ m.role ∧ m.role ≤ 3) (hmem : MembersOk m.cf) (hpe : ∀ p ∈ m.pe, PeW m p) (hpl : m.pe.length ≤ 2147483647)
    (hτ : g τ 0 = .int .i64 most) (ex : Ex w0 w) (b0 : w0.heap.size ≤ base) (b2 : base ≤ w.heap.size) (bm : Bk w b1 (.cells m.cells 32 (0, 0))) (lg : LG base lb L w) (lok : L.Ok)
    (h : ∀ b vb lm pm vt ro ps w', Ex w0 w' → ps.map (·.1) = m.vo ++ m.le → RM base b (mkR m lb vb lm pm vt ro most) L ps m.vo m.le w' → K (.pointer (some ⟨b, 0, none⟩)) w') :
    t50_4 τ w (.pointer (some ⟨b1, 0, none⟩)) (.pointer (some ⟨lb, 0, none⟩)) K := by
  unfold t50_4
  rw [hτ]
  have hsb : w0.heap.size ≤ L.sb := by
    obtain ⟨_, _, _, _, _, _, _, _, _, _, _, _, h9, _⟩ := lg
    omega
  refine cl_fn (k74 fun vb0 pm vt w1 e1 s1 s2 s3 n1 n2 n3 mp1 mp2 mp3 => ?_)
  (repeat (first | (refine go ?_; intros) | (refine goK15 ?_; intros)))
  rename_i tb w2 e2 hb2 s4 s5 w3 u3 hb3 z3
  clear hb2
  have z1 := e1.size
  have e3 : Ex w w3 := by exact ex_
  refine dr_rule (fun x => x = tb) [143] fun w4 e4 z4 => ?_
  have hmw : IsMac w4 m := hm.ex (ex.trans (e3.trans e4))
  have bm4 : Bk w4 b1 (.cells m.cells 32 (0, 0)) := e4.at_ (e3.at_ bm)
  have hnd := List.nodup_append.1 hmem.nd
  have hv9 : m.vo.length ≤ 9 := hmem.v9
  have hl4 : m.le.length ≤ 4 := hmem.l4
  (repeat (first | (refine go ?_; intros) | (refine goK15 ?_; intros)))
  refine cl_fn (k75 hmw.vo (by omega) hnd.1 fun vb w5 e5 s6 mvo => ⟨.of_ex e5, ?_⟩)
  have bm5 : Bk w5 b1 (.cells m.cells 32 (0, 0)) := e5.at_ bm4
  clear bm4
  (repeat (first | (refine go ?_; intros) | (refine goK15 ?_; intros)))
  refine cl_fn (k76 (hmw.le.ex e5) (by omega) hnd.2.1 fun lm w6 e6 s7 mle => ⟨(Up.of_ex e5).ex e6, ?_⟩)
  have bm6 : Bk w6 b1 (.cells m.cells 32 (0, 0)) := e6.at_ bm5
  clear bm5
  have htb6 := e6.at_ (e5.at_ (e4.at_ hb3))
  clear hb3
  (repeat (first | (refine go ?_; intros) | (refine goK15 ?_; intros)))
  refine q_ia 0 rfl (by omega) ?_
  refine u_st htb6 (Nat.le_of_ble_eq_true rfl) (by rfl) nmK15 fun w7 u7 hb7 z7 => ⟨((Up.of_ex e5).ex e6).trans u7, ?_⟩
  have hb7' : Bk w7 tb (.cells #[.map (some vb), .map none, .bool false, .map none, .map none, .map (some pm), .map (some vt), .int .i64 most, .int .u64 0] 141 (0, 0)) := hb7
  clear hb7
  (repeat (first | (refine go ?_; intros) | (refine goK15 ?_; intros)))
  rename_i w8 u8 hb8 z8
  refine ⟨(((Up.of_ex e5).ex e6).trans u7).trans u8, ?_⟩
  have bm8 : Bk w8 b1 (.cells m.cells 32 (0, 0)) := u8.at_ (u7.at_ bm6 rfl) rfl
  clear bm6 htb6 hb7'
  have z2 := e2.size
  have z5 := e5.size
  have z6 := e6.size
  have e8 : Ex w w8 := (((e3.trans e4).trans e5).trans e6).new (u7.trans u8) (by intro x hx; subst hx; omega)
  have o1 := hm.one1
  (repeat (first | (refine go ?_; intros) | (refine goK15 ?_; intros)))
  refine e_bs2 (by exact o1.2.2.2.2.2.2.1) (by exact o1.2.2.2.2.2.2.2.1) fun w9 e9 ho9 z9 => ?_
  refine q_lenSl ho9.sl ?_
  have e49 : Ex w w9 := e8.trans e9
  have c : MTC m w0 base b1 lb tb vb lm pm vt L most [] w9 := by
    have hz := e49.size
    refine ⟨ex.trans e49, b0, by omega, e9.at_ bm8, lg.ex e49, lok, e9.at_ hb8, ⟨?_, List.nodup_nil, fun x hx => (by cases hx), by omega⟩, ?_, ?_, ?_⟩
    · exact ((((((((mp2.ex e2).up u3 (.inl rfl)).ex e4).ex e5).ex e6).up u7 (.inl rfl)).up u8 (.inl rfl)).ex e9)
    · exact (((mvo.ex e6).up u7 (.inl rfl)).up u8 (.inl rfl)).ex e9
    · exact ((mle.up u7 (.inl rfl)).up u8 (.inl rfl)).ex e9
    · exact ((((((((mp3.ex e2).up u3 (.inl rfl)).ex e4).ex e5).ex e6).up u7 (.inl rfl)).up u8 (.inl rfl)).ex e9)
  have hne1 : vb ≠ pm := by have := mp2.lt; omega
  have hne2 : ∀ x, lm = some x → x ≠ pm := fun x hx => by have := s7 x hx; have := mp2.lt; omega
  have hne3 : vt ≠ pm := fun e => n3 e.symm
  generalize hxs : [[m.voV], [m.leV]] = xs at ho9
  have hsl := ho9.sl
  generalize Value.slice (some ⟨w8.heap.size, 0, none⟩) 2 2 = sv at hsl ho9 ⊢
  have hlen : xs.length = 2 := by rw [← hxs]; rfl
  rw [hlen]
  have base9 := ho9.lt
  refine loop_n (α := Nat × Ps) (fun a τ w' => g τ 3 = .int .i64 (a.1 : Nat) ∧ a.1 ≤ 2 ∧ MTC m w0 base b1 lb tb vb lm pm vt L most a.2 w' ∧ a.2.map (·.1) = (m.vo ++ m.le).take (offs m a.1) ∧ Sl w' (some 23) 1 sv xs) (fun a => 2 - a.1) (0, []) ⟨rfl, Nat.zero_le _, c, rfl, hsl⟩ ?_
  clear c
  rintro ⟨i, ps⟩ τ w' R ⟨hi, hle, c, hk, hs⟩ hR
  simp only at hi hle c hk hs hR
  rw [hi]
  (repeat (first | (refine go ?_; intros) | (refine goK15 ?_; intros)))
  refine if_split (fun hb => ?_) (fun hb => ?_)
  · have hi2 : i < 2 := by
      have := of_decide_eq_true hb
      omega
    obtain ⟨lv, l, hx, hl, hat, hof, hl9⟩ : ∃ lv l, xs[i]? = some [lv] ∧ Nums w0 none lv l ∧ (∀ j, j < l.length → (m.vo ++ m.le)[offs m i + j]? = l[j]?) ∧ offs m (i + 1) = offs m i + l.length ∧ l.length ≤ 9 := by
      have : i = 0 ∨ i = 1 := by omega
      rcases this with rfl | rfl
      · refine ⟨m.voV, m.vo, by rw [← hxs]; rfl, hm.vo, fun j hj => ?_, by simp [offs], hv9⟩
        simp only [offs, Nat.zero_add]
        rw [List.getElem?_append_left hj]
      · refine ⟨m.leV, m.le, by rw [← hxs]; rfl, hm.le, fun j hj => ?_, by simp [offs], by omega⟩
        simp only [offs]
        rw [List.getElem?_append_right (by omega), Nat.add_sub_cancel_left]
    refine q_ixs (x := lv) i hs rfl hx fun _ => ?_
    refine q_lenSl (hl.ex c.ex) ?_
    rw [nums_len]
    refine loop_n (α := Nat × Ps) (fun a τ w' => g τ 1 = .int .i64 (a.1 : Nat) ∧ a.1 ≤ l.length ∧ MTC m w0 base b1 lb tb vb lm pm vt L most a.2 w' ∧ a.2.map (·.1) = (m.vo ++ m.le).take (offs m i + a.1) ∧ Sl w' (some 23) 1 sv xs) (fun a => l.length - a.1) (0, ps) ⟨rfl, Nat.zero_le _, c, hk, hs⟩ ?_
    clear c hk hs
    rintro ⟨j, ps⟩ τ2 w2 R2 ⟨hj, hle2, c, hk, hs⟩ hR2
    simp only at hj hle2 c hk hs hR2
    rw [hj]
    (repeat (first | (refine go ?_; intros) | (refine goK15 ?_; intros)))
    refine if_split (fun hb => ?_) (fun hb => ?_)
    · have hj' : j < l.length := by simpa using hb
      obtain ⟨x, hxx⟩ : ∃ x, l[j]? = some x := ⟨_, List.getElem?_eq_getElem hj'⟩
      refine q_ixs (x := .int .u64 x) j (hl.ex c.ex) rfl (by simp [nums, hxx]) fun _ => ?_
      refine dr_rule (fun x => x = L.sb ∨ x = pm) [227, 0] fun w3 e3 z3 => ?_
      have c3 := c.step e3
      have htb := c3.tb
      (repeat (first | (refine go ?_; intros) | (refine goK15 ?_; intros)))
      refine cl_fn (k77 c3.lg c3.lok fun w4 u4 z4 lg4 => ?_)
      have U4 : Up (fun x => x = L.sb ∨ x = pm) [227, 0] w3 w4 := u4.mono (fun _ _ h => .inl h) (fun k hk => by simp at hk; simp [hk])
      refine ⟨U4, ?_⟩
      have c4 := c3.sto hsb u4 lg4
      (repeat (first | (refine go ?_; intros) | (refine goK15 ?_; intros)))
      refine cl_fn (k78 fun ib w5 e5 s5 hinf => ⟨U4.ex e5, ?_⟩)
      have c5 := c4.step e5
      have hlast := c4.lok.last
      rw [wrapU (n := L.last + 1) (by omega) (by omega)]
      refine b152_1_8_7 rfl rfl rfl ?_
      refine e_boxA fun pb w6 e6 hb6 s6 s7' => ⟨(U4.ex e5).ex e6, ?_⟩
      have c6 := c5.step e6
      refine u_put c6.pr.mp fun w7 u7 m7 z7 => ⟨((U4.ex e5).ex e6).trans (u7.mono (fun _ _ h => .inr h) (fun k hk => by simp at hk; simp [hk])), ?_⟩
      (repeat (first | (refine go ?_; intros) | (refine goK15 ?_; intros)))
      rw [wrapS (by omega)]
      have hxa : (m.vo ++ m.le)[offs m i + j]? = some x := by rw [hat j hj', hxx]
      have hnew : x ∉ ps.map (·.1) := by rw [hk]; exact notin_take hmem.nd hxa
      have zz3 := e3.size
      have zz4 := u4.size
      have zz5 := e5.size
      have hb2 := c4.b2
      have c7 := c6.put (i := x) (q := ⟨0, L.last + 1, 0, 0, 0, false, false, ((i : Int) == 1), most, 0⟩) hne1 hne2 hne3 u7 m7 (c5.pr.fresh (by omega)) ⟨by omega, ib, by omega, u7.at_ hb6 rfl, u7.at_ (e6.at_ hinf) rfl⟩
      refine hR2 (j + 1, putP ps x pb _) _ _ ⟨rfl, by simp; omega, c7, ?_, ?_⟩ (by simp; omega)
      · simp only [putP_new hnew, hk]
        rw [← Nat.add_assoc, take_snoc hxa]
      · exact ((((hs.ex e3).typ u4 rfl).ex e5).ex e6).typ u7 rfl
    · have hjl : j = l.length := by
        have := of_decide_eq_false hb
        omega
      subst hjl
      (repeat (first | (refine go ?_; intros) | (refine goK15 ?_; intros)))
      rw [wrapS (by omega)]
      exact hR (i + 1, ps) _ _ ⟨rfl, by simp; omega, c, by simp only [hof]; exact hk, hs⟩ (by simp; omega)
  · have hi2 : i = 2 := by
      have := of_decide_eq_false hb
      omega
    subst hi2
    refine mt_3 hm hvs hr hpe hpl hne1 hne2 hne3 c ?_ fun b ro ps w' e hk r => h b vb lm pm vt ro ps w' e hk r
    rw [hk, List.take_of_length_le]
    simp [offs]

end Go.Proofs.YtmmpogfbhelioaaGreat
/-
  Contract: a machine is made out of plain data.
  Conditions: the data is whole.
-/
namespace Go.Proofs.YtmmpogfbhelioaaGreat
set_option maxRecDepth 10000
set_option linter.unusedVariables false
set_option linter.unusedSimpArgs false
theorem nmK16 {p : Prop} (h : p := by (try simp only [List.getElem?_toArray, List.getElem?_cons_zero, List.getElem?_cons_succ, List.setIfInBounds_toArray, List.set_cons_zero, List.set_cons_succ, List.toList_toArray, List.drop_zero, List.drop_succ_cons, List.take_zero, List.take_succ_cons, Nat.zero_add, Nat.add_zero, Nat.reduceAdd, putCells, Mac.cells]) <;> rfl) : p := h
theorem goK16 {G H : Prop} (h : H) (s : Stp G H := by (apply Stp.of; intro hS; (first | (refine q_ld bk_ nmK16 ?_) | (refine q_ldU bk_ rfl nmK16 ?_) | (refine q_ldW bk_ (by rfl) ?_) | (refine q_ldWU bk_ rfl (by rfl) ?_) | (refine q_ldP bk_ (Nat.le_of_ble_eq_true rfl) nmK16 ?_) | (refine q_ldPU bk_ rfl (Nat.le_of_ble_eq_true rfl) nmK16 ?_) | (refine q_ext nmK16 ?_) | (refine u_st bk_ (Nat.le_of_ble_eq_true rfl) (by first | rfl | assumption) nmK16 ?_) | (refine u_stA bk_ (Nat.le_of_ble_eq_true rfl) (by rfl) (by rfl) nmK16 ?_) | (refine q_field nmK16 ?_)); exact hS.out)) : G := s.f h
attribute [local irreducible] Instr.box Instr.alloc Instr.loadAt Instr.storeAt Instr.fieldAt Instr.indexAt Instr.build Instr.buildSlice Instr.makeSlice Instr.makeMap Instr.mapUpdate Instr.lookup Instr.range Instr.next Instr.entry Instr.extract Instr.makeInterface Instr.makeFunc Instr.sliceAt Instr.typeAssert Instr.field Instr.index Builtin.len_ Builtin.cap_ Builtin.max_ Builtin.min_ Builtin.append_ Builtin.copy_ Builtin.delete_ convert binS pickS nilS callV callM Op.unary Own Mp It Cu

variable {K : Value → World → Prop} {w : World} {te : Option Nat}

theorem MS.ex {base b : Nat} {s : Sn} {es : List En} {w' : World} (u : Ex w w') (h : MS base b s es w) : MS base b s es w' := by
  obtain ⟨vs, ve, ps, c1, c2, c3, c4, c5, c6, q1, q2, q3, q4, q5⟩ := h
  exact ⟨vs, ve, ps, c1, c2, c3, c4, c5, c6, u.at_ q1, q2.ex u, by have := u.size; omega, q4.ex u, q5.ex u⟩

theorem Whole.lok {m : Mac} (wh : Whole m) (sb : Nat) : (mkL m sb).Ok := by
  have hlen := wh.row.len
  rw [List.length_append] at hlen
  have hb := wh.bi
  refine ⟨⟨_, _, rfl, ?_, ?_⟩, ?_, ?_, ?_, fun s hs => by cases hs⟩
  · show 0 ≤ m.base.i; omega
  · show m.base.i ≤ _; omega
  · show (_ :: m.st).length ≤ _; rw [List.length_cons]; omega
  · show 0 ≤ m.base.i + m.st.length + 1 ∧ m.base.i + m.st.length + 1 ≤ _; omega
  · show m.fr.length ≤ _; omega

set_option maxHeartbeats 1000000 in
theorem k50 {m : Mac} (hm : IsMac w m) (wh : Whole m) (hpl : m.pe.length ≤ 2147483647)
    (h : ∀ base b lb vb lm pm vt ro most sb ps w', Ex w w' → w.heap.size ≤ base → ps.map (·.1) = m.vo ++ m.le → RM base b (mkR m lb vb lm pm vt ro most) (mkL m sb) ps m.vo m.le w' → K (.pointer (some ⟨b, 0, none⟩)) w') :
    CK Pr 50 #[.agg m.cells] w K := by
  refine c50 ?_
  unfold t50
  have hrow := wh.row
  have hlen := wh.row.len
  rw [List.length_append] at hlen
  have hbi := wh.bi
  have hst : ∀ e ∈ m.st, e.d.size ≤ 9223372036854775807 ∧ IntKind.i32.wrap e.k = e.k := fun e he => by
    obtain ⟨j, hj⟩ := List.getElem?_of_mem (List.mem_append_left m.fr he)
    obtain ⟨_, _, _, h4, h5⟩ := hrow.at_ j e hj
    rw [h4]
    exact ⟨by omega, rfl⟩
  have hfr : ∀ e ∈ m.fr, e.d.size ≤ 9223372036854775807 ∧ IntKind.i32.wrap e.k = e.k := fun e he => by
    obtain ⟨j, hj⟩ := List.getElem?_of_mem (List.mem_append_right m.st he)
    obtain ⟨_, _, _, h4, h5⟩ := hrow.at_ j e hj
    rw [h4]
    exact ⟨by omega, rfl⟩
  have hbc := wh.bc
  have hbd := wh.bd
  have hv9 := hbc.v9
  have hl4 := hbc.l4
  have ho0 := hbc.o
  have hn0 := hbc.n
  refine e_boxA fun b1 w1 e1 hb1 s1 s2 => ?_
  refine cl_fn (k68 fun sb w2 e2 s3 ms2 => ?_)
  have hb2 := e2.at_ hb1
  have hm2 := (hm.ex e1).ex e2
  (repeat (first | (refine go ?_; intros) | (refine goK16 ?_; intros)))
  refine cl_fn (k32 (s := m.base) (by omega) hm2.cf.v hm2.cf.l hm2.cf.o hm2.cf.n (by omega) (by omega) (by rw [ho0]; simp) (by rw [hn0]; simp) fun vs w3 e3 hs3 => ?_)
  have ms3 := ms2.ex e3
  refine cl_fn (k70 ms3 hs3 (by omega) ⟨by omega, by omega, by rw [ho0]; simp, by rw [hn0]; simp⟩ fun w4 u4 ms4 => ?_)
  refine cl_fn (k69 ?_)
  have hb4 := u4.at_ (e3.at_ hb2) rfl
  clear hb1 hb2
  have z1 := e1.size
  have z2 := e2.size
  have z3 := e3.size
  have z4 := u4.size
  have ew4 : Ex w w4 := ((e1.trans e2).trans e3).new u4 (by intro x hx; subst hx; omega)
  have hm4 := hm.ex ew4
  (repeat (first | (refine go ?_; intros) | (refine goK16 ?_; intros)))
  refine cl_fn (k65 hm4.st (by omega) hst fun v5 w5 qs e5 ho5 hq5 => ?_)
  have ms5 := ms4.ex e5
  refine cl_fn (k71 ms5 ho5.sl hq5 (by omega) ⟨by show 0 ≤ m.base.i; omega, by show m.base.i ≤ _; omega⟩ (fun e he => by
    have : (m.st ++ m.fr)[0]? = some e := by
      have h0 : 0 < m.st.length := (List.getElem?_eq_some_iff.1 he).1
      rw [List.getElem?_append_left h0]; exact he
    have := (hrow.at_ 0 e this).1
    simpa using this) fun w6 u6 ms6 => ?_)
  refine cl_fn (k69 ?_)
  have hb6 := u6.at_ (e5.at_ hb4) rfl
  clear hb4
  have z5 := e5.size
  have z6 := u6.size
  have ew6 : Ex w w6 := (ew4.trans e5).new u6 (by intro x hx; rcases hx with hx | hx <;> omega)
  (repeat (first | (refine go ?_; intros) | (refine goK16 ?_; intros)))
  refine q_mif (by intro ms h; cases h) ?_
  have hsb6 : sb < w6.heap.size := by
    obtain ⟨_, _, _, _, _, _, _, _, _, q1, _⟩ := ms6
    exact q1.lt
  refine cl_fn (k72 ms6 (by omega) ⟨by show 0 ≤ m.base.i; omega, by show m.base.i ≤ _; omega⟩ (by omega) hsb6 fun lb w7 u7 s7 lg7 => ?_)
  have z7 := u7.size
  have ew7 : Ex w w7 := ew6.new u7 (by intro x hx; subst hx; omega)
  have hb7 := u7.at_ hb6 rfl
  clear hb6
  refine dr_rule (fun x => x = lb) [198] fun w8 e8 z8 => ?_
  have hb8 := e8.at_ hb7
  clear hb7
  have hm8 := hm.ex (ew7.trans e8)
  (repeat (first | (refine go ?_; intros) | (refine goK16 ?_; intros)))
  refine cl_fn (k65 hm8.fr (by omega) hfr fun v9 w9 qs2 e9 ho9 hq9 => ⟨.of_ex e9, ?_⟩)
  have hb9 := e9.at_ hb8
  (repeat (first | (refine go ?_; intros) | (refine goK16 ?_; intros)))
  refine cl_fn (k73 (lg7.ex e8) e9 ho9 hq9 fun w10 u10 z10 lg10 => ⟨(Up.of_ex e9).trans u10, ?_⟩)
  have hb10 := u10.at_ hb9 rfl
  clear hb9 hb8
  have z9 := e9.size
  have ew10 : Ex w w10 := ((ew7.trans e8).trans e9).new u10 (by intro x hx; subst hx; omega)
  have hm10 := hm.ex ew10
  (repeat (first | (refine go ?_; intros) | (refine goK16 ?_; intros)))
  refine q_lenSl hm10.pe ?_
  rw [List.length_map]
  have base10 : w1.heap.size ≤ w10.heap.size := by omega
  refine loop_n (α := Nat × Int) (fun a τ w' => g τ 2 = .int .i64 (a.1 : Nat) ∧ a.1 ≤ m.pe.length ∧ g τ 0 = .int .i64 a.2 ∧ Ex w10 w') (fun a => m.pe.length - a.1) (0, 1) ⟨rfl, Nat.zero_le _, rfl, .refl _ _ _⟩ ?_
  rintro ⟨j, n⟩ τ w' R ⟨hj, hle, hn, ex⟩ hR
  simp only at hj hle hn ex hR
  rw [hj]
  (repeat (first | (refine go ?_; intros) | (refine goK16 ?_; intros)))
  refine if_split (fun hb => ?_) (fun hb => ?_)
  · have hj' : j < m.pe.length := by simpa using hb
    obtain ⟨p, hp⟩ : ∃ e, m.pe[j]? = some e := ⟨_, List.getElem?_eq_getElem hj'⟩
    obtain ⟨hp1, hp2⟩ := (hm10.ex ex).pes p (List.mem_of_getElem? hp)
    have o1 := hp1.one
    have o2 := hp2.one
    refine q_ixa j (hm10.ex ex).pe rfl (by rw [List.getElem?_map, hp]; rfl) fun _ => ?_
    refine e_allocA fun b2 w12 e12 hb12 s2a s2b => ?_
    refine u_stA hb12 (Nat.le_of_ble_eq_true rfl) (by rfl) (by simp only [Pe.cells, List.all_cons, List.all_nil, o1, o2]; rfl) (by (try simp only [Pe.cells, List.getElem?_toArray, List.toList_toArray, putCells, List.setIfInBounds_toArray, List.set_cons_zero, List.set_cons_succ]) <;> rfl) fun w13 u13 hb13 z13 => ?_
    clear hb12
    rw [hn]
    (repeat (first | (refine go ?_; intros) | (refine goK16 ?_; intros)))
    refine q_max ?_
    (repeat (first | (refine go ?_; intros) | (refine goK16 ?_; intros)))
    rw [wrapS (by omega)]
    refine hR (j + 1, _) _ _ ⟨rfl, by simp; omega, rfl, ?_⟩ (by simp; omega)
    exact (ex.trans e12).new u13 (by intro x hx; subst hx; have := ex.size; omega)
  · refine mt_4 hm wh.vs wh.role wh.mem wh.pe hpl hn (ew10.trans ex) (by omega : w.heap.size ≤ w1.heap.size) (by have := ex.size; omega) (ex.at_ hb10) (lg10.ex ex) (wh.lok sb) fun b vb lm pm vt ro ps w' e hk r => h w1.heap.size b lb vb lm pm vt ro n sb ps w' e (by omega) hk r

end Go.Proofs.YtmmpogfbhelioaaGreat
/-
  Contracts: sets as lists; the visit of all progress.
  Conditions: at most 13 members.
-/
namespace Go.Proofs.YtmmpogfbhelioaaGreat
set_option maxRecDepth 10000
set_option linter.unusedVariables false
set_option linter.unusedSimpArgs false
theorem nmK17 {p : Prop} (h : p := by (try simp only [List.getElem?_toArray, List.getElem?_cons_zero, List.getElem?_cons_succ, List.setIfInBounds_toArray, List.set_cons_zero, List.set_cons_succ, List.toList_toArray, List.drop_zero, List.drop_succ_cons, List.take_zero, List.take_succ_cons, Nat.zero_add, Nat.add_zero, Nat.reduceAdd, putCells, Rf.cells]) <;> rfl) : p := h
theorem goK17 {G H : Prop} (h : H) (s : Stp G H := by (apply Stp.of; intro hS; (first | (refine q_ld bk_ nmK17 ?_) | (refine q_ldU bk_ rfl nmK17 ?_) | (refine q_ldW bk_ (by rfl) ?_) | (refine q_ldWU bk_ rfl (by rfl) ?_) | (refine q_ldP bk_ (Nat.le_of_ble_eq_true rfl) nmK17 ?_) | (refine q_ldPU bk_ rfl (Nat.le_of_ble_eq_true rfl) nmK17 ?_) | (refine q_ext nmK17 ?_) | (refine u_st bk_ (Nat.le_of_ble_eq_true rfl) (by first | rfl | assumption) nmK17 ?_) | (refine u_stA bk_ (Nat.le_of_ble_eq_true rfl) (by rfl) (by rfl) nmK17 ?_) | (refine q_field nmK17 ?_)); exact hS.out)) : G := s.f h
attribute [local irreducible] Instr.box Instr.alloc Instr.loadAt Instr.storeAt Instr.fieldAt Instr.indexAt Instr.build Instr.buildSlice Instr.makeSlice Instr.makeMap Instr.mapUpdate Instr.lookup Instr.range Instr.next Instr.entry Instr.extract Instr.makeInterface Instr.makeFunc Instr.sliceAt Instr.typeAssert Instr.field Instr.index Builtin.len_ Builtin.cap_ Builtin.max_ Builtin.min_ Builtin.append_ Builtin.copy_ Builtin.delete_ convert binS pickS nilS callV callM Op.unary Own Mp It Cu

attribute [local irreducible] Nm

variable {K : Value → World → Prop} {w : World} {te : Option Nat}

theorem Own.sb {base e n : Nat} {v : Value} {xs : List (List Value)} (h : Own w base e n v xs) : ∀ b, sb v b → base ≤ b := by
  unfold Own at h
  obtain ⟨⟨hl, hx⟩, hn⟩ := h
  intro b hb
  rcases hx with ⟨rfl, h0⟩ | ⟨g, cap, cur, rfl, h1, _⟩
  · cases hb
  · cases hb; exact h1

theorem k87 {o : Option Nat} {l : KV} (hm : MpO w o l) (hl : l.length ≤ 13) (h : ∀ v w' xs, Ex w w' → xs.Perm (l.map (·.1)) → Sl w' (some 22) 1 v (nums xs) → K v w') : CK Pr 87 #[.map o] w K := by
  refine c87 ?_
  unfold t87
  cases o with
  | none =>
    cases (show l = [] from hm)
    refine e_range0 fun w1 e1 i1 s1 => ?_
    refine loop_n (α := Unit) (fun _ τ w' => g τ 0 = .slice none 0 0 ∧ w' = w1) (fun _ => 0) () ⟨rfl, rfl⟩ ?_
    rintro _ τ w' R ⟨hg, rfl⟩ hR
    refine e_next0 i1 ?_
    (repeat (first | (refine go ?_; intros) | (refine goK17 ?_; intros)))
    rw [hg]
    refine cl_fn (k131 (te := 22) (xs := []) (Own.nm (Own.nil w' 0 22 1)) (by simp) fun w2 xs s2 => ?_)
    have hp := s2.2.2.1
    have : xs = [] := List.perm_nil.1 hp
    subst this
    refine h _ _ [] (e1.new s2.1 (by intro b hb; cases hb)) (.refl _) (.nil _ _)
  | some b =>
    refine e_range hm fun w1 e1 i1 s1 => ?_
    refine loop_n (α := KV × List Int) (fun a τ w' => It w' w.heap.size b l a.1 ∧ Own w' (w.heap.size + 1) 22 1 (g τ 0) (nums a.2) ∧ (a.2 ++ a.1.map (·.1)).Perm (l.map (·.1)) ∧ Ex w w' ∧ w.heap.size + 1 ≤ w'.heap.size) (fun a => a.1.length) (l, []) ⟨i1, Own.nil _ _ _ _, .refl _, e1, by omega⟩ ?_
    rintro ⟨rem, acc⟩ τ w' R ⟨hi, ho, hp, ex, hz⟩ hR
    simp only at hi ho hp hR
    have hlen := hp.length_eq
    simp only [List.length_append, List.length_map] at hlen
    refine e_next hi (fun h0 => ?_) (fun p l1 l2 w2 hrem u2 hi2 hc hpl hz2 => ?_)
    · (repeat (first | (refine go ?_; intros) | (refine goK17 ?_; intros)))
      subst h0
      refine cl_fn (k131 (te := 22) (xs := acc) ho.nm (by omega) fun w3 xs s3 => ?_)
      have hp3 := s3.2.2.1
      refine h _ _ xs (ex.new s3.1 fun b hb => by have := ho.sb b hb; omega) (hp3.trans (by simpa using hp)) s3.nm.sl
    · (repeat (first | (refine go ?_; intros) | (refine goK17 ?_; intros)))
      refine q_entry hc ?_
      (repeat (first | (refine go ?_; intros) | (refine goK17 ?_; intros)))
      have ho2 : Own w2 (w.heap.size + 1) 22 1 (g τ 0) (nums acc) := ho.up u2 fun _ _ => .inl rfl
      refine e_push1 ho2 rfl (by simp [nums]; omega) (by simp [nums]; omega) (by omega) fun s3 v3 w3 u3 ho3 hb3 hz3 => ?_
      have hrl : rem.length = l1.length + l2.length + 1 := by rw [hrem]; simp; omega
      refine hR (l1 ++ l2, acc ++ [p.1]) _ _ ⟨?_, ?_, ?_, ?_, by omega⟩ (by simp; omega)
      · exact hi2.up u3 (.inl rfl) (.inl rfl)
      · show Own w3 _ 22 1 v3 _
        simpa [nums] using ho3
      · refine List.Perm.trans ?_ hp
        rw [hrem]
        simp only [List.map_append, List.map_cons, List.append_assoc, List.singleton_append]
        exact List.Perm.append_left _ List.perm_middle.symm
      · refine (ex.new u2 (by intro x hx; subst hx; exact Nat.le_refl _)).new u3 ?_
        intro x hx
        have := (ho2.lt x hx).1
        omega

theorem k88 {o : Option Nat} {l : KV} (hm : MpO w o l) (hl : l.length ≤ 13) (h : ∀ v w' xs, Ex w w' → xs.Perm (l.map (·.1)) → Sl w' (some 22) 1 v (nums xs) → K v w') : CK Pr 88 #[.map o] w K := by
  refine c88 ?_
  unfold t88
  exact cl_fn (k87 hm hl h)

theorem lk_mem {l : KV} {x : Int} (h : x ∈ l.map (·.1)) : ∃ v, lk l x = some v := by
  induction l with
  | nil => cases h
  | cons p r ih =>
    obtain ⟨k, v⟩ := p
    simp only [lk]
    by_cases hk : k = x
    · exact ⟨v, by simp [hk]⟩
    · rw [if_neg hk]
      refine ih ?_
      simp only [List.map_cons, List.mem_cons] at h
      exact h.resolve_left fun e => hk e.symm

theorem drop_set {xs : List Int} {k : Nat} {y : Int} (h : k < xs.length) : (xs.set k y).drop k = y :: xs.drop (k + 1) := by
  induction xs generalizing k with
  | nil => simp at h
  | cons x r ih =>
    cases k with
    | zero => rfl
    | succ k => simpa using ih (by simpa using h)

theorem k91 {b : Nat} {R : Rf} {l : KV} (hb : Bk w b (.cells R.cells 187 (0, 0))) (hm : Mp w R.pm l) (hnd : (l.map (·.1)).Nodup) (hl : l.length ≤ 13) {fn : Nat} [TFn Pr fn] {cap : Array Value} {C : Nat → Prop} {T : List Nat}
    (I : List Int → World → Prop) (h0 : ∀ w', Ex w w' → I [] w') (hI : ∀ done w', I done w' → Bk w' b (.cells R.cells 187 (0, 0)) ∧ Mp w' R.pm l) (hT1 : T.contains 24 = false) (hT2 : T.contains 240 = false)
    (hc : ∀ done x v w1 (K' : Value → World → Prop), I done w1 → lk l x = some v → x ∉ done → (∀ w2, I (done ++ [x]) w2 → Up C T w1 w2 → K' (.tuple #[]) w2) → CK Pr fn (#[.int .u64 x, v] ++ cap) w1 K')
    (h : ∀ done w', I done w' → done.Perm (l.map (·.1)) → K (.tuple #[]) w') : CK Pr 91 #[.pointer (some ⟨b, 7, none⟩), .func (.func fn) #[] cap] w K := by
  refine c91 ?_
  unfold t91
  (repeat (first | (refine go ?_; intros) | (refine goK17 ?_; intros)))
  refine q_lenM (b := R.pm) (l := l) (fun w' hw => by cases hw; exact hm) ?_
  refine e_allocA fun ab w1 e1 hb1 s1 s2 => ?_
  refine q_geq ?_
  have hb' : ∀ w', Ex w w' → Bk w' b (.cells R.cells 187 (0, 0)) := fun w' e => e.at_ hb
  refine jo_rule (fun J => ∀ te v (xs : List Int) w2, (te = 22 ∨ te = 238) → Ex w w2 → Nm te v xs w2 → xs.length = l.length → (∀ x, sb v x → w.heap.size ≤ x) → J v w2) ?_ ?_
  rotate_left
  · intro J hJ
    refine if_split (fun h7 => ?_) (fun h7 => ?_)
    · have h7 := of_decide_eq_true h7
      refine q_slArr l.length rfl (by omega) (by omega) ?_
      refine hJ 238 _ (List.replicate l.length 0) w1 (.inr rfl) e1 ?_ (by simp) (by intro x hx; cases hx; omega)
      unfold Nm
      refine ⟨_, 7, by simp, by simp [maxLen]; omega, by simp; omega, .inr ⟨ab, 0, _, rfl, hb1, by simp; omega, ?_⟩⟩
      have : l.length = 0 ∨ l.length = 1 ∨ l.length = 2 ∨ l.length = 3 ∨ l.length = 4 ∨ l.length = 5 ∨ l.length = 6 ∨ l.length = 7 := by omega
      rcases this with h | h | h | h | h | h | h | h <;> rw [h] <;> rfl
    · refine e_make (m := l.length) rfl rfl rfl (by omega) (by omega) fun w2 e2 ho z2 => ?_
      refine hJ 22 _ (List.replicate l.length 0) w2 (.inl rfl) (e1.trans e2) ?_ (by simp) (by intro x hx; have := ho.sb x hx; omega)
      refine Own.nm (base := w1.heap.size) ?_
      have : nums (List.replicate l.length 0) = List.replicate l.length [Value.int .u64 0] := by simp [nums]
      rw [this]; exact ho
  · intro te v xs w2 hte e2 hn hxl hsb
    have hb2 := hb' w2 e2
    (repeat (first | (refine go ?_; intros) | (refine goK17 ?_; intros)))
    refine e_range (hm.ex e2) fun w3 e3 i3 s3 => ?_
    refine loop_n (α := KV × List Int) (fun a τ w' => g τ 0 = .int .i64 (a.1.length : Nat) ∧ It w' w2.heap.size R.pm l a.1 ∧ Nm te v a.2 w' ∧ a.2.length = l.length ∧ (a.1.map (·.1) ++ a.2.drop a.1.length).Perm (l.map (·.1)) ∧ Ex w w') (fun a => a.1.length) (l, xs)
      ⟨rfl, i3, hn.ex e3, hxl, by rw [← hxl, List.drop_length, List.append_nil], e2.trans e3⟩ ?_
    rintro ⟨rem, ys⟩ τ w' R1 ⟨hτ, hi, hny, hyl, hp, ex⟩ hR
    simp only at hτ hi hny hyl hp hR
    have hlen := hp.length_eq
    simp only [List.length_append, List.length_map, List.length_drop] at hlen
    refine e_next hi (fun h0' => ?_) (fun p l1 l2 w4 hrem u4 hi4 hcu hpl hz4 => ?_)
    · (repeat (first | (refine go ?_; intros) | (refine goK17 ?_; intros)))
      subst h0'
      refine cl_fn (k131 (te := te) (xs := ys) hny (by omega) fun w5 zs s5 => ?_)
      have hpz : zs.Perm (l.map (·.1)) := s5.2.2.1.trans (by simpa using hp)
      have hzl : zs.length = l.length := by simpa using hpz.length_eq
      have hzn : zs.Nodup := hpz.nodup_iff.2 hnd
      have ex5 : Ex w w5 := ex.new s5.1 hsb
      have hn5 : Nm te v zs w5 := s5.nm
      refine q_lenSl hn5.sl ?_
      rw [nums_len, hzl]
      refine loop_n (α := Nat) (fun j τ w' => g τ 1 = .int .i64 j ∧ j ≤ l.length ∧ I (zs.take j) w' ∧ Nm te v zs w') (fun j => l.length - j) 0 ⟨rfl, Nat.zero_le _, h0 _ ex5, hn5⟩ ?_
      rintro j τ2 w6 R2 ⟨hj, hle, hi6, hn6⟩ hR2
      rw [hj]
      (repeat (first | (refine go ?_; intros) | (refine goK17 ?_; intros)))
      refine if_split (fun hbj => ?_) (fun hbj => ?_)
      · have hj' : j < zs.length := by
          have := of_decide_eq_true hbj
          omega
        obtain ⟨x, hx⟩ : ∃ x, zs[j]? = some x := ⟨_, List.getElem?_eq_getElem hj'⟩
        obtain ⟨hb6, hm6⟩ := hI _ _ hi6
        refine q_ixs (x := .int .u64 x) j hn6.sl rfl (by simp [nums, hx]) fun _ => ?_
        (repeat (first | (refine go ?_; intros) | (refine goK17 ?_; intros)))
        obtain ⟨y, hy⟩ := lk_mem (hpz.mem_iff.1 (List.mem_of_getElem? hx))
        refine q_look hm6 ?_
        rw [hy]
        refine cl_clo (hc _ x y w6 _ hi6 hy (notin_take hzn hx) fun w7 hi7 u7 => ?_)
        (repeat (first | (refine go ?_; intros) | (refine goK17 ?_; intros)))
        rw [wrapS (by omega)]
        refine hR2 (j + 1) _ _ ⟨rfl, by omega, by rw [take_snoc hx]; exact hi7, ?_⟩ (by omega)
        refine hn6.up u7 (.inl ?_)
        rcases hte with rfl | rfl
        · exact hT1
        · exact hT2
      · refine h zs w6 ?_ hpz
        have : j = zs.length := by
          have := of_decide_eq_false hbj
          omega
        rw [this, List.take_length] at hi6
        exact hi6
    · (repeat (first | (refine go ?_; intros) | (refine goK17 ?_; intros)))
      refine q_entry hcu ?_
      (repeat (first | (refine go ?_; intros) | (refine goK17 ?_; intros)))
      rw [hτ]
      have hrl : rem.length = l1.length + l2.length + 1 := by rw [hrem]; simp; omega
      (repeat (first | (refine go ?_; intros) | (refine goK17 ?_; intros)))
      have hw1 : IntKind.i64.wrap ((rem.length : Int) - 1) = ((rem.length - 1 : Nat) : Int) := by rw [wrap64 (by omega) (by omega)]; omega
      rw [hw1]
      have hn4 : Nm te v ys w4 := hny.up u4 (.inl (by rcases hte with rfl | rfl <;> rfl))
      refine q_ixN (rem.length - 1) hn4 rfl (by omega) ?_
      refine u_stN hn4 (by omega) fun w5 u5 n5 z5 => ?_
      refine hR (l1 ++ l2, _) _ _ ⟨?_, ?_, n5, by simp; omega, ?_, ?_⟩ (by simp; omega)
      · show Value.int .i64 ((rem.length - 1 : Nat) : Int) = _
        simp
        omega
      · refine hi4.up u5 (.inl ?_) (.inl ?_) <;> rcases hte with rfl | rfl <;> rfl
      · refine List.Perm.trans ?_ hp
        have h1 : (l1 ++ l2).length = rem.length - 1 := by simp; omega
        have h2 : rem.length - 1 + 1 = rem.length := by omega
        simp only [h1]
        rw [drop_set (by omega), h2, hrem]
        simp only [List.map_append, List.map_cons]
        rw [List.append_assoc, List.append_assoc]
        refine List.Perm.append_left _ ?_
        simp only [List.cons_append]
        exact List.perm_middle
      · have := e2.size
        exact (ex.new u4 (by intro x hx; subst hx; omega)).new u5 hsb

end Go.Proofs.YtmmpogfbhelioaaGreat
/-
  Contracts: the machine's parts as plain data.
  Conditions: each one's own.
-/
namespace Go.Proofs.YtmmpogfbhelioaaGreat
set_option maxRecDepth 10000
set_option linter.unusedVariables false
set_option linter.unusedSimpArgs false
theorem nmK18 {p : Prop} (h : p := by (try simp only [List.getElem?_toArray, List.getElem?_cons_zero, List.getElem?_cons_succ, List.setIfInBounds_toArray, List.set_cons_zero, List.set_cons_succ, List.toList_toArray, List.drop_zero, List.drop_succ_cons, List.take_zero, List.take_succ_cons, Nat.zero_add, Nat.add_zero, Nat.reduceAdd, putCells, Rf.cells, Pg.cells, Mac.cells, Pe.pcells]) <;> rfl) : p := h
theorem goK18 {G H : Prop} (h : H) (s : Stp G H := by (apply Stp.of; intro hS; (first | (refine q_ld bk_ nmK18 ?_) | (refine q_ldU bk_ rfl nmK18 ?_) | (refine q_ldW bk_ (by rfl) ?_) | (refine q_ldWU bk_ rfl (by rfl) ?_) | (refine q_ldP bk_ (Nat.le_of_ble_eq_true rfl) nmK18 ?_) | (refine q_ldPU bk_ rfl (Nat.le_of_ble_eq_true rfl) nmK18 ?_) | (refine q_ext nmK18 ?_) | (refine u_st bk_ (Nat.le_of_ble_eq_true rfl) (by first | rfl | assumption) nmK18 ?_) | (refine u_stA bk_ (Nat.le_of_ble_eq_true rfl) (by rfl) (by rfl) nmK18 ?_) | (refine q_field nmK18 ?_)); exact hS.out)) : G := s.f h
attribute [local irreducible] Instr.box Instr.alloc Instr.loadAt Instr.storeAt Instr.fieldAt Instr.indexAt Instr.build Instr.buildSlice Instr.makeSlice Instr.makeMap Instr.mapUpdate Instr.lookup Instr.range Instr.next Instr.entry Instr.extract Instr.makeInterface Instr.makeFunc Instr.sliceAt Instr.typeAssert Instr.field Instr.index Builtin.len_ Builtin.cap_ Builtin.max_ Builtin.min_ Builtin.append_ Builtin.copy_ Builtin.delete_ convert binS pickS nilS callV callM Op.unary Own Mp It Cu

variable {K : Value → World → Prop} {w : World} {te : Option Nat}

theorem RM.ex {base b : Nat} {R : Rf} {L : Lg} {ps : Ps} {vo le : List Int} {w' : World} (e : Ex w w') (r : RM base b R L ps vo le w) : RM base b R L ps vo le w' :=
  ⟨e.at_ r.bk, r.b0, r.lg.ex e, r.lok, r.pr.ex e, r.vo.ex e, r.le.ex e, r.vt.ex e, r.ro.ex e⟩
theorem k81 {b : Nat} {R : Rf} (hb : Bk w b (.cells R.cells 187 (0, 0)))
    (h : ∀ w', Ex w w' → K (.agg #[.int .u64 R.id, .int .u64 R.term, .int .u64 R.vote, .int .u64 R.lead, .int .u64 R.tr, .int .u64 R.st, .bool R.il, .bool R.pv, .bool R.cq, .int .i64 R.et, .int .i64 R.ht, .int .i64 R.rt, .int .i64 R.ee, .int .i64 R.he, .int .u64 R.mm, .int .u64 R.mu, .int .u64 R.us]) w') : CK Pr 81 #[.pointer (some ⟨b, 0, none⟩)] w K := by
  refine c81 ?_
  unfold t81
  refine e_allocA fun b1 w1 e1 hb1 s1 s2 => ?_
  refine dr_rule (fun x => x = b1) [163] fun w2 e2 z2 => ?_
  have hb2 : Bk w2 b _ := e2.at_ (e1.at_ hb)
  have hb12 := e2.at_ hb1
  (repeat (first | (refine go ?_; intros) | (refine goK18 ?_; intros) | refine b161_0_1_2_3_4_5_6_7_8_9_10_11_12_13_14_15_16 (by first | rfl | assumption) (by first | rfl | assumption) (by first | rfl | assumption) (by first | rfl | assumption) (by first | rfl | assumption) (by first | rfl | assumption) (by first | rfl | assumption) (by first | rfl | assumption) (by first | rfl | assumption) (by first | rfl | assumption) (by first | rfl | assumption) (by first | rfl | assumption) (by first | rfl | assumption) (by first | rfl | assumption) (by first | rfl | assumption) (by first | rfl | assumption) (by first | rfl | assumption) ?_))
  rename_i w3 u3 hb3 z3
  refine ⟨u3, ?_⟩
  (repeat (first | (refine go ?_; intros) | (refine goK18 ?_; intros)))
  exact h w3 ((e1.trans e2).new u3 (by intro x hx; subst hx; omega))

theorem k82 {b : Nat} {R : Rf} (hb : Bk w b (.cells R.cells 187 (0, 0))) (h : K (.pointer (some ⟨R.lb, 0, none⟩)) w) : CK Pr 82 #[.pointer (some ⟨b, 0, none⟩)] w K := by
  refine c82 ?_
  unfold t82
  (repeat (first | (refine go ?_; intros) | (refine goK18 ?_; intros)))
  exact h

theorem k83 {b : Nat} (h : K (.pointer (some ⟨b, 7, none⟩)) w) : CK Pr 83 #[.pointer (some ⟨b, 0, none⟩)] w K := by
  refine c83 ?_
  unfold t83
  (repeat (first | (refine go ?_; intros) | (refine goK18 ?_; intros)))
  exact h

theorem k134 {ib : Nat} {size mx : Int} (hi : Inf ib size mx w) (h : ∀ w', Ex w w' → w'.heap.size = w.heap.size → K (.tuple #[.int .i64 size, .int .u64 mx, .slice none 0 0, .slice none 0 0]) w') : CK Pr 134 #[.pointer (some ⟨ib, 0, none⟩)] w K := by
  refine c134 ?_
  unfold t134
  refine loop_n (α := Unit) (fun _ τ w' => g τ 0 = .slice none 0 0 ∧ g τ 1 = .slice none 0 0 ∧ g τ 2 = .int .i64 0 ∧ w' = w) (fun _ => 0) () ⟨rfl, rfl, rfl, rfl⟩ ?_
  rintro _ τ w' R ⟨h0, h1, h2, rfl⟩ hR
  unfold Inf at hi
  rw [h0, h1, h2]
  (repeat (first | (refine go ?_; intros) | (refine goK18 ?_; intros)))
  refine dr_rule No [] fun w1 e1 z1 => ?_
  have hi1 : Bk w1 ib _ := e1.at_ hi
  (repeat (first | (refine go ?_; intros) | (refine goK18 ?_; intros)))
  exact h w1 e1 z1

def peOf (id : Int) (q : Pg) : Pe := ⟨id, q.ma, q.ne, IntKind.i64.wrap q.st, q.pend, q.act, q.pau, q.le, q.size, q.mx, .slice none 0 0, .slice none 0 0, [], []⟩

theorem k93 {base pb : Nat} {q : Pg} (hp : PG base pb q w) (id : Int) (h : ∀ w', Ex w w' → K (.agg (peOf id q).pcells.toArray) w') : CK Pr 93 #[.pointer (some ⟨pb, 0, none⟩)] w K := by
  refine c93 ?_
  unfold t93
  obtain ⟨_, ib, _, hpb, hinf⟩ := hp
  refine e_allocA fun b1 w1 e1 hb1 s1 s2 => ?_
  refine dr_rule No [] fun w2 e2 z2 => ?_
  have hp2 : Bk w2 pb _ := e2.at_ (e1.at_ hpb)
  have hb12 := e2.at_ hb1
  (repeat (first | (refine go ?_; intros) | (refine goK18 ?_; intros) | refine b58_0_1_2_3_4_5_6 (by first | rfl | assumption) (by first | rfl | assumption) (by first | rfl | assumption) (by first | rfl | assumption) (by first | rfl | assumption) (by first | rfl | assumption) (by first | rfl | assumption) ?_))
  rename_i b3 w3 e3 hb3 s3 s4
  refine ⟨e3, ?_⟩
  have hp3 := e3.at_ hp2
  refine u_stA hb3 (Nat.le_of_ble_eq_true rfl) (by rfl) (by rfl) nmK18 fun w4 u4 hb4 z4 => ⟨e3.new u4 (by intro x hx; subst hx; omega), ?_⟩
  have hp4 := u4.at_ hp3 rfl
  have hb14 := u4.off (e3.at_ hb12) (by intro h; have := e3.size; omega)
  have hinf4 : Inf ib q.size q.mx w4 := u4.at_ (e3.at_ (e2.at_ (e1.at_ hinf))) rfl
  clear hb3 hp2 hp3 hb12
  have z13 := e3.size
  have z12 := e1.size
  have ew4 : Ex w w4 := ((e1.trans e2).trans e3).new u4 (by intro x hx; subst hx; omega)
  (repeat (first | (refine go ?_; intros) | (refine goK18 ?_; intros)))
  refine cl_fn (k134 hinf4 fun w5 e5 z5 => ?_)
  have hb5 := e5.at_ hb4
  have hb15 := e5.at_ hb14
  clear hb4 hb14 hp4
  (repeat (first | (refine go ?_; intros) | (refine goK18 ?_; intros)))
  rename_i wa ua ba za wb ub bb zb wc uc bc zc wd ud bd zd we ue be ze
  refine h we ?_
  have x5 := ew4.trans e5
  have x9 : Ex w wd := x5.new (((ua.trans ub).trans uc).trans ud) (by intro x hx; subst hx; omega)
  exact x9.new ue (by intro x hx; subst hx; omega)

theorem k92 {base pb ob bb : Nat} {q : Pg} {mo : Mac} {id : Int} {pl : List Pe} (hb : Bk w ob (.cells mo.cells 32 (0, 0))) (hp : PG base pb q w) (ho : Own w bb 60 12 mo.peV (pl.map Pe.cells)) (hl : pl.length ≤ 100) (hbb : bb ≤ w.heap.size)
    (h : ∀ v w', Up (fun x => x = ob ∨ bb ≤ x) [34, 62] w w' → Bk w' ob (.cells { mo with peV := v }.cells 32 (0, 0)) → Own w' bb 60 12 v ((pl ++ [peOf id q]).map Pe.cells) → K (.tuple #[]) w') : CK Pr 92 #[.int .u64 id, .pointer (some ⟨pb, 0, none⟩), .pointer (some ⟨ob, 0, none⟩)] w K := by
  refine c92 ?_
  unfold t92
  refine dr2_rule (fun x => bb ≤ x) [62] (fun x => x = ob ∨ bb ≤ x) [34, 62] fun w1 e1 z1 => ?_
  have hb1 := e1.at_ hb
  have ho1 := ho.ex e1
  (repeat (first | (refine go ?_; intros) | (refine goK18 ?_; intros)))
  have up : ∀ {w'}, Up (fun x => bb ≤ x) [62] w1 w' → Up (fun x => x = ob ∨ bb ≤ x) [34, 62] w1 w' := fun u => u.mono (fun _ _ h => .inr h) (fun k hk => by simp at hk; simp [hk])
  refine cl_fn (k93 (hp.ex e1) id fun w2 e2 => ⟨⟨.of_ex e2, .of_ex e2⟩, ?_⟩)
  refine b60_0_1 rfl ?_
  have z2 := e2.size
  refine e_bs1 (n := 12) (by rfl) (by omega) fun w3 e3 o3 z3 => ⟨⟨(Up.of_ex e2).ex e3, (Up.of_ex e2).ex e3⟩, ?_⟩
  have lt1 := ho1.lt
  refine e_app (base := bb) ((ho1.ex e2).ex e3) o3.sl (by
    intro y hy u hu
    rw [List.mem_singleton.1 hy] at hu
    have : (Value.agg #[.int .u64 id, .int .u64 q.ma, .int .u64 q.ne, .int .i64 (IntKind.i64.wrap q.st), .int .u64 q.pend, .bool q.act, .bool q.pau, .bool q.le, .int .i64 q.size, .int .u64 q.mx, .slice none 0 0, .slice none 0 0]).cells.toList.all one = true := by rfl
    exact List.all_eq_true.1 this u hu) (by simp; omega) (by simp; omega) (by omega) fun v4 w4 u4 o4 hbl z4 => ?_
  have U4 : Up (fun x => bb ≤ x) [62] w1 w4 := ((Up.of_ex e2).ex e3).step u4 (fun y _ hy => (lt1 y hy).1) (fun k hk => by simp at hk; simp [hk])
  refine ⟨⟨U4, up U4⟩, ?_⟩
  have hb4 : Bk w4 ob (.cells mo.cells 32 (0, 0)) := U4.at_ hb1 rfl
  have o44 := o4.sl.one
  (repeat (first | (refine go ?_; intros) | (refine goK18 ?_; intros)))
  rename_i w5 u5 hb5 z5
  have U5 : Up (fun x => x = ob ∨ bb ≤ x) [34, 62] w1 w5 := (up U4).step u5 (fun y _ hy => .inl hy) (fun k hk => by simp at hk; simp [hk])
  refine ⟨U5, ?_⟩
  refine h v4 w5 ((Up.of_ex e1).trans U5) hb5 ?_
  have o5 : Own w5 bb 60 12 v4 _ := o4.up u5 fun _ _ => .inl rfl
  rw [List.map_append]
  exact o5

end Go.Proofs.YtmmpogfbhelioaaGreat
