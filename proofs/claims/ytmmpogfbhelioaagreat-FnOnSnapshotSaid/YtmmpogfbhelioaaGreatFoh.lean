/-
  PARTS: K19 K20 K21 K22 K23 K31 K50 K49 K38 K39 K40 K41 K42 K43 K44 K45.
-/
import Derived.Test.YtmmpogfbhelioaaGreatFog
import Derived.Test.YtmmpogfbhelioaaGreatFoc
/-
  Contract: a machine as plain data again.
  Conditions: at most 13 members.
-/
namespace Go.Proofs.YtmmpogfbhelioaaGreat
set_option maxRecDepth 10000
set_option linter.unusedVariables false
set_option linter.unusedSimpArgs false
theorem nmK19 {p : Prop} (h : p := by (try simp only [List.getElem?_toArray, List.getElem?_cons_zero, List.getElem?_cons_succ, List.setIfInBounds_toArray, List.set_cons_zero, List.set_cons_succ, List.toList_toArray, List.drop_zero, List.drop_succ_cons, List.take_zero, List.take_succ_cons, Nat.zero_add, Nat.add_zero, Nat.reduceAdd, putCells, Mac.cells, Rf.cells, snCells, En.cells]) <;> rfl) : p := h
theorem goK19 {G H : Prop} (h : H) (s : Stp G H := by (apply Stp.of; intro hS; (first | (refine q_ld bk_ nmK19 ?_) | (refine q_ldU bk_ rfl nmK19 ?_) | (refine q_ldW bk_ (by rfl) ?_) | (refine q_ldWU bk_ rfl (by rfl) ?_) | (refine q_ldP bk_ (Nat.le_of_ble_eq_true rfl) nmK19 ?_) | (refine q_ldPU bk_ rfl (Nat.le_of_ble_eq_true rfl) nmK19 ?_) | (refine q_ext nmK19 ?_) | (refine u_st bk_ (Nat.le_of_ble_eq_true rfl) (by first | rfl | assumption) nmK19 ?_) | (refine u_stA bk_ (Nat.le_of_ble_eq_true rfl) (by rfl) (by rfl) nmK19 ?_) | (refine q_field nmK19 ?_)); exact hS.out)) : G := s.f h
attribute [local irreducible] Instr.box Instr.alloc Instr.loadAt Instr.storeAt Instr.fieldAt Instr.indexAt Instr.build Instr.buildSlice Instr.makeSlice Instr.makeMap Instr.mapUpdate Instr.lookup Instr.range Instr.next Instr.entry Instr.extract Instr.makeInterface Instr.makeFunc Instr.sliceAt Instr.typeAssert Instr.field Instr.index Builtin.len_ Builtin.cap_ Builtin.max_ Builtin.min_ Builtin.append_ Builtin.copy_ Builtin.delete_ convert binS pickS nilS callV callM Op.unary Own Mp It Cu

variable {K : Value → World → Prop} {w : World} {te : Option Nat}

theorem RM.mt {base b : Nat} {R : Rf} {L : Lg} {ps : Ps} {vo le : List Int} {w' : World} {C : Nat → Prop} {T : List Nat} (o : okT T = true) (hT : (T.contains 189 || T.contains 198 || T.contains 227 || T.contains 214 || T.contains 0 || T.contains 154 || T.contains 232 || T.contains 267) = false) (u : Up C T w w') (r : RM base b R L ps vo le w) : RM base b R L ps vo le w' := by
  simp only [Bool.or_eq_false_iff] at hT
  obtain ⟨⟨⟨⟨⟨⟨⟨h1, h2⟩, h3⟩, h4⟩, h5⟩, h6⟩, h7⟩, h8⟩ := hT
  exact ⟨u.at_ r.bk h1, r.b0, r.lg.mt o h2 h3 h4 u, r.lok, r.pr.up u (.inl h5) (.inl h6) h7, r.vo.up u (.inl h5), r.le.up u (.inl h5), r.vt.up u (.inl h5), r.ro.mt u h8⟩

theorem kvP_keys (ps : Ps) : (kvP ps).map (·.1) = ps.map (·.1) := by simp [kvP]
theorem lk_kvP {ps : Ps} {x : Int} {v : Value} (h : lk (kvP ps) x = some v) : ∃ y ∈ ps, y.1 = x ∧ v = .pointer (some ⟨y.2.1, 0, none⟩) := by
  induction ps with
  | nil => cases h
  | cons y l ih =>
    simp only [kvP, List.map_cons, lk] at h ih
    by_cases hy : y.1 = x
    · rw [if_pos hy] at h
      cases h
      exact ⟨y, List.mem_cons_self .., hy, rfl⟩
    · rw [if_neg hy] at h
      obtain ⟨z, hz, h1, h2⟩ := ih h
      exact ⟨z, List.mem_cons_of_mem _ hz, h1, h2⟩

theorem nodup_len : ∀ {l m : List Int}, l.Nodup → (∀ x ∈ l, x ∈ m) → l.length ≤ m.length
  | [], _, _, _ => Nat.zero_le _
  | x :: l, m, hn, hs => by
    have hn' := List.nodup_cons.1 hn
    have hx := hs x (List.mem_cons_self ..)
    have := nodup_len (l := l) (m := m.erase x) hn'.2 (fun y hy => by
      have hne : y ≠ x := fun e => hn'.1 (e ▸ hy)
      exact (List.mem_erase_of_ne hne).2 (hs y (List.mem_cons_of_mem _ hy)))
    rw [List.length_erase_of_mem hx] at this
    have hpos : 0 < m.length := List.length_pos_of_mem hx
    simp only [List.length_cons]
    omega

theorem putCells_tl : ∀ (l : List Value) (pre : List Value) (cs : Array Value), cs.size = pre.length + l.length → cs.toList.take pre.length = pre → (putCells cs pre.length l).toList = pre ++ l := by
  intro l
  induction l with
  | nil =>
    intro pre cs hs ht
    rw [putCells, List.append_nil, ← ht, List.take_of_length_le]
    simpa using hs ▸ Nat.le_refl _
  | cons x l ih =>
    intro pre cs hs ht
    simp only [List.length_cons] at hs
    have := ih (pre ++ [x]) (cs.setIfInBounds pre.length x) (by simp; omega) (by
      rw [Array.toList_setIfInBounds, List.length_append, List.length_singleton]
      have hl : pre.length < cs.toList.length := by simp; omega
      rw [List.take_add_one, List.take_set, List.getElem?_set_self hl, List.set_eq_of_length_le (by simp; omega), ht]
      rfl)
    simpa [putCells] using this
theorem putCells_all {zs : Array Value} {l : List Value} (h : zs.size = l.length) : putCells zs 0 l = l.toArray := by
  have := putCells_tl l [] zs (by simpa using h) rfl
  exact Array.toList_inj.1 (by simpa using this)

theorem mf_1 {base b : Nat} {R : Rf} {L : Lg} {ps : Ps} {vo le : List Int} {ob rb : Nat} {mo : Mac} {zs : Array Value} {w0 : World} (r : RM base b R L ps vo le w) (ex : Ex w0 w) (hob : w0.heap.size ≤ ob) (hrb : w0.heap.size ≤ rb) (hb : Bk w ob (.cells mo.cells 32 (0, 0))) (hr : Bk w rb (.cells zs 32 (0, 0))) (hzs : zs.size = 32) (hne : ob ≠ rb)
    (hps : ps.length ≤ 13) (hnd : (ps.map (·.1)).Nodup) (hpe : mo.peV = .slice none 0 0) (o1 : one mo.cvV = true ∧ one mo.clV = true ∧ one mo.coV = true ∧ one mo.cnV = true ∧ one mo.stV = true ∧ one mo.frV = true ∧ one mo.voV = true ∧ one mo.leV = true ∧ one mo.vsV = true)
    (h : ∀ (v : Value) (pl : List Pe) (w' : World), Up (fun x => w0.heap.size ≤ x) [34, 62] w w' → Ex w0 w' → Own w' w.heap.size 60 12 v (pl.map Pe.cells) → (pl.map (·.id)).Perm (ps.map (·.1)) → (∀ p ∈ pl, ∃ x ∈ ps, p = peOf x.1 x.2.2) → RM base b R L ps vo le w' → K (.agg { mo with peV := v }.cells) w') :
    t51_1 w (.pointer (some ⟨ob, 0, none⟩)) (.pointer (some ⟨b, 7, none⟩)) (.pointer (some ⟨rb, 0, none⟩)) K := by
  unfold t51_1
  (repeat (first | (refine go ?_; intros) | (refine goK19 ?_; intros)))
  have zw := ex.size
  refine cl_fn (k91 (R := R) (l := kvP ps) r.bk r.pr.mp (by rw [kvP_keys]; exact hnd) (by simpa [kvP] using hps) (C := fun x => x = ob ∨ w.heap.size ≤ x) (T := [34, 62])
    (fun done w' => ∃ (pl : List Pe) (v : Value), pl.map (·.id) = done ∧ pl.length ≤ ps.length ∧ Bk w' ob (.cells { mo with peV := v }.cells 32 (0, 0)) ∧ Bk w' rb (.cells zs 32 (0, 0)) ∧ Own w' w.heap.size 60 12 v (pl.map Pe.cells) ∧ (∀ p ∈ pl, ∃ x ∈ ps, p = peOf x.1 x.2.2) ∧ RM base b R L ps vo le w' ∧ Ex w0 w' ∧ Up (fun x => w0.heap.size ≤ x) [34, 62] w w' ∧ done.Nodup ∧ ∀ x ∈ done, x ∈ ps.map (·.1))
    ?_ ?_ rfl rfl ?_ ?_)
  · intro w' e
    refine ⟨[], .slice none 0 0, rfl, Nat.zero_le _, ?_, e.at_ hr, Own.nil _ _ _ _, (by intro p hp; cases hp), r.ex e, ex.trans e, .of_ex e, List.nodup_nil, (by intro x hx; cases hx)⟩
    have : { mo with peV := .slice none 0 0 } = mo := by rw [← hpe]
    rw [this]
    exact e.at_ hb
  · rintro done w' ⟨pl, v, _, _, _, _, _, _, r', _⟩
    exact ⟨r'.bk, r'.pr.mp⟩
  · rintro done x y w1 K' ⟨pl, v, hd, hl, hb1, hr1, ho1, hp1, r1, ex1, u1, hdn, hdk⟩ hy hx hk
    obtain ⟨z, hz, hzx, rfl⟩ := lk_kvP hy
    have zz := ex1.size
    have hrl := hr.lt
    refine k92 (base := base) (mo := { mo with peV := v }) (pl := pl) (q := z.2.2) (bb := w.heap.size) hb1 (r1.pr.pg z hz) ho1 (by omega) u1.size fun v' w2 u2 hb2 ho2 => ?_
    have u2' : Up (fun x => w0.heap.size ≤ x) [34, 62] w1 w2 := u2.mono (fun y _ hy => by rcases hy with rfl | hy <;> omega) (fun k hk => hk)
    have hdn' : (done ++ [x]).Nodup := by
      rw [List.nodup_append]
      refine ⟨hdn, by simp, ?_⟩
      intro a ha b hb
      rw [List.mem_singleton.1 hb]
      rintro rfl
      exact hx ha
    have hdk' : ∀ y ∈ done ++ [x], y ∈ ps.map (·.1) := by
      intro y hy
      rcases List.mem_append.1 hy with hy | hy
      · exact hdk y hy
      · rw [List.mem_singleton.1 hy, ← hzx]
        exact List.mem_map.2 ⟨z, hz, rfl⟩
    have hlen : (done ++ [x]).length ≤ (ps.map (·.1)).length := nodup_len hdn' hdk'
    refine hk w2 ⟨pl ++ [peOf x z.2.2], v', ?_, ?_, hb2, ?_, ho2, ?_, ?_, ?_, u1.trans u2', hdn', hdk'⟩ u2
    · rw [List.map_append, hd]; rfl
    · simp only [List.length_append, List.length_map, List.length_singleton] at hlen ⊢
      rw [← hd, List.length_map] at hlen
      exact hlen
    · exact u2.off hr1 (by rintro (h | h) <;> omega)
    · intro p hp
      rcases List.mem_append.1 hp with hp | hp
      · exact hp1 p hp
      · rw [List.mem_singleton.1 hp, ← hzx]
        exact ⟨z, hz, rfl⟩
    · exact r1.mt rfl rfl u2'
    · exact ex1.new u2' (fun _ h => h)
  · rintro done w1 ⟨pl, v, hd, hl, hb1, hr1, ho1, hp1, r1, ex1, u1, hdn, hdk⟩ hperm
    refine e_mkmap (by intro v hv; cases hv) fun w2 e2 m2 s2 => ?_
    have r2 := r1.ex e2
    have rb2 := r2.bk
    (repeat (first | (refine go ?_; intros) | (refine goK19 ?_; intros)))
    refine e_range r2.vt fun w3 e3 i3 s3 => ?_
    refine loop_n (α := Unit) (fun _ τ w' => w' = w3) (fun _ => 0) () rfl ?_
    rintro _ τ w' R' rfl hR
    refine e_next i3 (fun _ => ?_) (fun p l1 l2 w2 hrem _ _ _ _ _ => by cases l1 <;> cases hrem)
    (repeat (first | (refine go ?_; intros) | (refine goK19 ?_; intros)))
    refine cl_fn (k88 (o := some w1.heap.size) (l := []) (show Mp _ _ _ from m2.ex e3) (by simp) fun v4 w4 xs e4 hp hs => ?_)
    have hx : xs = [] := List.perm_nil.1 hp
    subst hx
    refine q_lenSl hs ?_
    refine loop_n (α := Unit) (fun _ τ w' => g τ 1 = .int .i64 0 ∧ w' = w4) (fun _ => 0) () ⟨rfl, rfl⟩ ?_
    rintro _ τ' w'' R'' ⟨hj, rfl⟩ hR'
    rw [hj]
    refine q_lss ?_
    refine if_f ?_
    have hb4 : Bk w'' ob _ := e4.at_ (e3.at_ (e2.at_ hb1))
    have hr4 : Bk w'' rb _ := e4.at_ (e3.at_ (e2.at_ hr1))
    refine q_ldW hb4 (by rfl) ?_
    have o4 := ho1.sl.one
    obtain ⟨p1, p2, p3, p4, p5, p6, p7, p8, p9⟩ := o1
    refine u_stA hr4 (by omega) (by rfl) (by simp only [Mac.cells, List.toList_toArray, List.all_cons, List.all_nil, p1, p2, p3, p4, p5, p6, p7, p8, p9, o4]; rfl) (putCells_all (by rw [hzs]; rfl)) fun w5 u5 hb5 z5 => ?_
    refine q_ldW hb5 (by simp; rfl) ?_
    have eW : Ex w1 w'' := (e2.trans e3).trans e4
    have u5' : Up (fun x => w0.heap.size ≤ x) [34, 62] w'' w5 := u5.mono (fun y _ hy => by subst hy; exact hrb) (fun k hk => by simp at hk; simp [hk])
    refine h v pl w5 ((u1.ex eW).trans u5') ((ex1.trans eW).new u5' (fun _ h => h)) ((ho1.ex eW).up u5 fun _ _ => .inl rfl) (hd ▸ (by rw [kvP_keys] at hperm; exact hperm)) hp1 ((r1.ex eW).mt rfl rfl u5')

/-- What a plain machine that was just told stands: what is older than a stays, and so does what is of other kinds than those that are stored to behind it; elder blocks of entries than z may turn. -/
structure Kp (a z : Nat) (w w' : World) : Prop where
  size : w.heap.size ≤ w'.heap.size
  os : w'.os = w.os
  tape : w'.tape = w.tape
  output : w'.output = w.output
  keep : ∀ b o, Bk w b o → b < a ∨ ([40, 6, 45].contains (kd o) = false ∧ (z ≤ b ∨ kd o ≠ 58)) → Bk w' b o

theorem Kp.old {a z : Nat} {w0 w' : World} (e : Ex w0 w) (k : Kp a z w w') (ha : w0.heap.size ≤ a) : Ex w0 w' :=
  ⟨Nat.le_trans e.size k.size, by rw [k.os, e.os], by rw [k.tape, e.tape], by rw [k.output, e.output], fun b o hb _ => k.keep b o (e.at_ hb) (.inl (Nat.lt_of_lt_of_le hb.lt ha))⟩
theorem Up.kp {a z : Nat} {w' : World} (u : Up (fun x => a ≤ x) [40, 6, 45] w w') : Kp a z w w' :=
  ⟨u.size, u.os, u.tape, u.output, fun b o hb h => u.keep b o hb (by
    rcases h with h | h
    · exact .inr (by omega)
    · exact .inl h.1)⟩
theorem Kp.trans {a z : Nat} {w' w'' : World} (k : Kp a z w w') (k' : Kp a z w' w'') : Kp a z w w'' :=
  ⟨Nat.le_trans k.size k'.size, by rw [k'.os, k.os], by rw [k'.tape, k.tape], by rw [k'.output, k.output], fun b o hb h => k'.keep b o (k.keep b o hb h) h⟩
theorem Kp.mono {a z z' : Nat} {w' : World} (k : Kp a z w w') (h : z ≤ z') : Kp a z' w w' :=
  ⟨k.size, k.os, k.tape, k.output, fun b o hb hh => k.keep b o hb (hh.imp id fun hh => ⟨hh.1, hh.2.imp (fun h' => by omega) id⟩)⟩
theorem Sl.kp {a z e n : Nat} {v : Value} {xs : List (List Value)} {w' : World} (k : Kp a z w w') (h : Sl w (some e) n v xs) (h1 : [40, 6, 45].contains (e + 2) = false) (h2 : e + 2 ≠ 58) : Sl w' (some e) n v xs := by
  cases h with
  | nil => exact .nil _ _
  | row b o c cs et fz _ hb hc hm hs hx hn ht =>
    have := ht e rfl
    subst this
    exact .row b o c cs et fz xs (k.keep b _ hb (.inr ⟨h1, .inr h2⟩)) hc hm hs hx hn ht
theorem Own.kp {a z z' n : Nat} {v : Value} {xs : List (List Value)} {w' : World} (k : Kp a z w w') (h : Own w z' 56 n v xs) (hz : z ≤ z') : Sl w' (some 56) n v xs := by
  unfold Own at h
  obtain ⟨⟨hl, hx⟩, hn⟩ := h
  rcases hx with ⟨rfl, h0⟩ | ⟨g, cap, cur, rfl, h1, hg, hnc, hmx, hcs, htake⟩
  · have : xs = [] := List.eq_nil_of_length_eq_zero h0
    subst this
    exact .nil _ _
  · exact .row g 0 cap cur 56 (0, 0) xs (k.keep g _ hg (.inr ⟨rfl, .inl (by omega)⟩)) hnc (Nat.le_trans hnc hmx) (by rw [hcs, Nat.zero_add]; exact Nat.mul_le_mul_right _ hnc) (by simpa using htake) hn (fun t h => Option.some.inj h)
theorem IsCf.kp {a z : Nat} {v1 v2 v3 v4 : Value} {c : Cf} {w' : World} (u : Kp a z w w') (h1 : Sl w (some 22) 1 v1 (nums c.v)) (h2 : Sl w (some 22) 1 v2 (nums c.l)) (h3 : Sl w (some 22) 1 v3 (nums c.o)) (h4 : Sl w (some 22) 1 v4 (nums c.n)) : IsCf w' v1 v2 v3 v4 c :=
  ⟨(h1.kp u rfl (by decide)).any, (h2.kp u rfl (by decide)).any, (h3.kp u rfl (by decide)).any, (h4.kp u rfl (by decide)).any⟩

/-- What the last parts of machineFrom give. -/
def MF1 (wm w0 w : World) (base b : Nat) (R : Rf) (L : Lg) (ps : Ps) (vo le : List Int) (mo : Mac) (K : Value → World → Prop) : Prop :=
  ∀ (v : Value) (pl : List Pe) (w' : World) (c1 c2 c3 c4 : Value), Up (fun x => w0.heap.size ≤ x) [34, 62] w w' → Ex w0 w' → Own w' w.heap.size 60 12 v (pl.map Pe.cells) → (pl.map (·.id)).Perm (ps.map (·.1)) → (∀ p ∈ pl, ∃ x ∈ ps, p = peOf x.1 x.2.2) → RM base b R L ps vo le w' →
    (∀ w'', Kp wm.heap.size w0.heap.size w' w'' → IsCf w'' c1 c2 c3 c4 (L.us.getD mo.base).c) → K (.agg { mo with base := L.us.getD mo.base, cvV := c1, clV := c2, coV := c3, cnV := c4, peV := v }.cells) w'

theorem mf_2 {base b : Nat} {R : Rf} {L : Lg} {ps : Ps} {vo le : List Int} {ob rb : Nat} {mo : Mac} {zs : Array Value} {w0 : World} {vu : Value} (hu : US vu L.us w) (hsm : ∀ s, L.us = some s → CfSm s.c) {wm : World} (em : Ex wm w0) (hcf : IsCf wm mo.cvV mo.clV mo.coV mo.cnV mo.base.c) (r : RM base b R L ps vo le w) (ex : Ex w0 w) (hob : w0.heap.size ≤ ob) (hrb : w0.heap.size ≤ rb) (hb : Bk w ob (.cells mo.cells 32 (0, 0))) (hr : Bk w rb (.cells zs 32 (0, 0))) (hzs : zs.size = 32) (hne : ob ≠ rb)
    (hps : ps.length ≤ 13) (hnd : (ps.map (·.1)).Nodup) (hpe : mo.peV = .slice none 0 0) (o1 : one mo.cvV = true ∧ one mo.clV = true ∧ one mo.coV = true ∧ one mo.cnV = true ∧ one mo.stV = true ∧ one mo.frV = true ∧ one mo.voV = true ∧ one mo.leV = true ∧ one mo.vsV = true)
    (h : MF1 wm w0 w base b R L ps vo le mo K) : t51_2 w vu (.pointer (some ⟨ob, 0, none⟩)) (.pointer (some ⟨b, 7, none⟩)) (.pointer (some ⟨rb, 0, none⟩)) K := by
  unfold t51_2
  cases hus : L.us with
  | none =>
    rw [hus] at hu
    cases (show vu = .pointer none from hu)
    unfold Jo
    (repeat (first | (refine go ?_; intros) | (refine goK19 ?_; intros)))
    refine mf_1 r ex hob hrb hb hr hzs hne hps hnd hpe o1 fun v pl w' u e o p1 p2 r' => ?_
    have := h v pl w' mo.cvV mo.clV mo.coV mo.cnV u e o p1 p2 r' (by rw [hus]; exact fun w'' u'' => hcf.ex (Kp.old (em.trans e) u'' (Nat.le_refl _)))
    rw [hus] at this
    exact this
  | some sn =>
    rw [hus] at hu
    have hu' : PS vu sn w := hu
    obtain ⟨a, hva, _⟩ := US.sh (o := some sn) hu
    have hu2 := hu'
    obtain ⟨ba, _, _, hva2, _⟩ := hu2
    subst hva2
    unfold Jo
    (repeat (first | (refine go ?_; intros) | (refine goK19 ?_; intros)))
    have sm := hsm sn hus
    refine cl_fn (k90 hu' sm.v sm.l sm.o sm.n fun v1 v2 v3 v4 w1 e1 q1 q2 q3 q4 => ?_)
    have hb1 := e1.at_ hb
    have hr1 := e1.at_ hr
    have n1 := q1.sl.one
    have n2 := q2.sl.one
    have n3 := q3.sl.one
    have n4 := q4.sl.one
    (repeat (first | (refine go ?_; intros) | (refine goK19 ?_; intros)))
    refine u_stA hb1 (Nat.le_of_ble_eq_true rfl) (by rfl) (by simp only [snCells, List.toList_toArray, List.all_cons, List.all_nil, n1, n2, n3, n4]; rfl) nmK19 fun w2 u2 hb2' z2 => ?_
    have hb2 : Bk w2 ob (.cells ({ mo with base := sn, cvV := v1, clV := v2, coV := v3, cnV := v4 } : Mac).cells 32 (0, 0)) := hb2'
    have hr2 := u2.off hr1 (fun h => hne h.symm)
    have u2' : Up (fun x => w0.heap.size ≤ x) [34, 62] w1 w2 := u2.mono (fun y _ hy => by subst hy; exact hob) (fun k hk => by simp at hk; simp [hk])
    have e2 : Ex w0 w2 := (ex.trans e1).new u2' (fun _ h => h)
    have z1 := e1.size
    refine mf_1 ((r.ex e1).mt rfl rfl u2') e2 hob hrb hb2 hr2 hzs hne hps hnd hpe ⟨n1, n2, n3, n4, o1.2.2.2.2⟩ fun v pl w' u e o p1 p2 r' => ?_
    have U : Up (fun x => w0.heap.size ≤ x) [34, 62] w w' := ((Up.of_ex e1).trans u2').trans u
    have := h v pl w' v1 v2 v3 v4 U e (o.mono (by omega)) p1 p2 r' (by
      rw [hus]
      have U2 := u2'.trans u
      exact fun w'' u'' => IsCf.kp u'' (q1.sl.typ U2 rfl) (q2.sl.typ U2 rfl) (q3.sl.typ U2 rfl) (q4.sl.typ U2 rfl))
    rw [hus] at this
    exact this

theorem mf_3 {base b : Nat} {R : Rf} {L : Lg} {ps : Ps} {vo le : List Int} {ob rb b2 : Nat} {m mo : Mac} {zs : Array Value} {w0 : World} {vu : Value}
    (hm : IsMac w0 m) (hml : m.st.length ≤ 1000) (hb2 : Bk w b2 (.cells m.cells 32 (0, 0))) (hne2 : b2 ≠ ob) (hoff : L.us = none → ∀ e ∈ m.st, e.i < L.off) (hob2 : ob < w.heap.size)
    (hu : US vu L.us w) (hsm : ∀ s, L.us = some s → CfSm s.c) {wm : World} (em : Ex wm w0) (hcf : IsCf wm mo.cvV mo.clV mo.coV mo.cnV mo.base.c) (r : RM base b R L ps vo le w) (ex : Ex w0 w) (hob : w0.heap.size ≤ ob) (hrb : w0.heap.size ≤ rb) (hb : Bk w ob (.cells mo.cells 32 (0, 0))) (hr : Bk w rb (.cells zs 32 (0, 0))) (hzs : zs.size = 32) (hne : ob ≠ rb)
    (hps : ps.length ≤ 13) (hnd : (ps.map (·.1)).Nodup) (hpe : mo.peV = .slice none 0 0) (hst : mo.stV = .slice none 0 0) (o1 : one mo.cvV = true ∧ one mo.clV = true ∧ one mo.coV = true ∧ one mo.cnV = true ∧ one mo.stV = true ∧ one mo.frV = true ∧ one mo.voV = true ∧ one mo.leV = true ∧ one mo.vsV = true)
    (h : ∀ (v : Value) w1, Up (fun x => w0.heap.size ≤ x) [34] w w1 → Own w1 w0.heap.size 56 4 v ((if L.us = none then m.st else []).map En.cells) → MF1 wm w0 w1 base b R L ps vo le { mo with commit := L.cm, applied := L.ap, stV := v } K) :
    t51_3 (.pointer (some ⟨R.lb, 0, none⟩)) w (.pointer (some ⟨ob, 0, none⟩)) (.pointer (some ⟨b2, 0, none⟩)) vu (.int .u64 L.off) (.pointer (some ⟨b, 7, none⟩)) (.pointer (some ⟨rb, 0, none⟩)) K := by
  unfold t51_3
  refine cl_fn (k89 r.lg fun w1 e1 z1 => ?_)
  have hb1 := e1.at_ hb
  (repeat (first | (refine go ?_; intros) | (refine goK19 ?_; intros)))
  rename_i wa ua hba za wb ub hbb zb
  have U : Up (fun x => x = ob) [34] w wb := ((Up.of_ex e1).trans ua).trans ub
  have hbm : Bk wb b2 (.cells m.cells 32 (0, 0)) := U.off hb2 hne2
  clear hb1 hba
  have up' : ∀ {a c : World}, Up (fun x => x = ob) [34] a c → Up (fun x => w0.heap.size ≤ x) [34] a c := fun u => u.mono (fun y _ hy => by subst hy; exact hob) (fun k hk => hk)
  have up2 : ∀ {a c : World}, Up (fun x => x = ob) [34] a c → Up (fun x => w0.heap.size ≤ x) [34, 62] a c := fun u => u.mono (fun y _ hy => by subst hy; exact hob) (fun k hk => by simp at hk; simp [hk])
  have exb : Ex w0 wb := ex.new (up' U) (fun _ h => h)
  have hmb := (hm.ex exb).st
  refine q_lenSl hmb ?_
  rw [List.length_map]
  refine loop_n (α := Nat × Value) (fun a τ w' => g τ 1 = .int .i64 (a.1 : Nat) ∧ a.1 ≤ m.st.length ∧ Up (fun x => x = ob) [34] wb w' ∧ Bk w' ob (.cells ({ mo with commit := L.cm, applied := L.ap, stV := a.2 } : Mac).cells 32 (0, 0)) ∧ Own w' wb.heap.size 56 4 a.2 ((if L.us = none then m.st.take a.1 else []).map En.cells)) (fun a => m.st.length - a.1) (0, .slice none 0 0)
    ⟨rfl, Nat.zero_le _, .refl _ _ _, ?_, ?_⟩ ?_
  · have : ({ mo with commit := L.cm, applied := L.ap, stV := .slice none 0 0 } : Mac) = { mo with commit := L.cm, applied := L.ap } := by rw [← hst]
    rw [this]
    exact hbb
  · have : (if L.us = none then m.st.take 0 else []) = [] := by split <;> rfl
    simp only [this]
    exact Own.nil _ _ _ _
  clear hbb
  rintro ⟨j, v⟩ τ w' R' ⟨hj, hle, u, hbo, ho⟩ hR
  simp only at hj hle hbo ho hR
  rw [hj]
  (repeat (first | (refine go ?_; intros) | (refine goK19 ?_; intros)))
  have zu := u.size
  have zU := U.size
  have exw : Ex w0 w' := exb.new (up' u) (fun _ h => h)
  refine if_split (fun hbj => ?_) (fun hbj => ?_)
  · have hj' : j < m.st.length := by simpa using hbj
    obtain ⟨e, he⟩ : ∃ e, m.st[j]? = some e := ⟨_, List.getElem?_eq_getElem hj'⟩
    refine q_ixa j (hm.ex exw).st rfl (by rw [List.getElem?_map, he]; rfl) fun _ => ?_
    refine e_allocA fun b3 w3 e3 hb3 s3a s3b => ?_
    refine u_stA hb3 (Nat.le_of_ble_eq_true rfl) (by rfl) (by rfl) nmK19 fun w4 u4 hb4 z4 => ?_
    clear hb3
    have ew4 : Ex w' w4 := by exact ex_
    have hbo4 := ew4.at_ hbo
    have ho4 := ho.ex ew4
    clear hbo ho
    have z3 := e3.size
    unfold Jo
    cases hus : L.us with
    | none =>
      rw [hus] at hu
      cases (show vu = .pointer none from hu)
      have hlt := hoff hus e (List.mem_of_getElem? he)
      (repeat (first | (refine go ?_; intros) | (refine goK19 ?_; intros)))
      rw [decide_eq_true hlt]
      (repeat (first | (refine go ?_; intros) | (refine goK19 ?_; intros)))
      simp only [hus, if_true] at ho4
      refine e_push (v := .agg #[.int .u64 e.t, .int .u64 e.i, .int .i64 e.k, .string e.d]) ho4 (by rfl) (by omega) (by
        intro x hx
        have : (Value.agg #[.int .u64 e.t, .int .u64 e.i, .int .i64 e.k, .string e.d]).cells.toList.all one = true := by rfl
        exact List.all_eq_true.1 this x hx) (by simp; omega) (by simp; omega) (by omega) fun s5 v5 w5 u5 ho5 hown5 z5 => ?_
      have lt4 := ho4.lt
      have e5 : Up (fun x => x = ob) [34] wb w5 := (u.ex ew4).new u5 (fun x hx => (lt4 x hx).1)
      have hbo5 : Bk w5 ob (.cells ({ mo with commit := L.cm, applied := L.ap, stV := v } : Mac).cells 32 (0, 0)) := u5.at_ hbo4 rfl
      clear hbo4
      have hv5 := ho5.sl.one
      (repeat (first | (refine go ?_; intros) | (refine goK19 ?_; intros)))
      rename_i w6 u6 hb6 z6
      rw [wrapS (by omega)]
      refine hR (j + 1, v5) _ _ ⟨rfl, by simp; omega, e5.trans u6, hb6, ?_⟩ (by simp; omega)
      have : (if L.us = none then m.st.take (j + 1) else []).map En.cells = (m.st.take j).map En.cells ++ [e.cells] := by
        rw [if_pos hus, take_snoc he, List.map_append]; rfl
      simp only [this]
      exact ho5.up u6 fun _ _ => .inl rfl
    | some sn =>
      have hu2 := hu
      rw [hus] at hu2
      obtain ⟨ba, _, _, hva2, _⟩ := (show PS vu sn w from hu2)
      subst hva2
      (repeat (first | (refine go ?_; intros) | (refine goK19 ?_; intros)))
      rw [wrapS (by omega)]
      have hne0 : ¬ L.us = none := by rw [hus]; intro h; cases h
      refine hR (j + 1, v) _ _ ⟨rfl, by simp; omega, u.ex ew4, hbo4, ?_⟩ (by simp; omega)
      simp only [if_neg hne0] at ho4 ⊢
      exact ho4
  · have hjl : j = m.st.length := by
      have := of_decide_eq_false hbj
      omega
    subst hjl
    have U2 := U.trans u
    have hrl := hr.lt
    have hr' : Bk w' rb (.cells zs 32 (0, 0)) := U2.off hr (fun h => hne h.symm)
    have ho' := ho.mono (base' := w0.heap.size) (by have := exb.size; omega)
    have hv5 := ho.sl.one
    refine mf_2 (mo := { mo with commit := L.cm, applied := L.ap, stV := v }) (hu.mt rfl U2) hsm em hcf (r.mt rfl rfl U2) exw hob hrb hbo hr' hzs hne hps hnd hpe ⟨o1.1, o1.2.1, o1.2.2.1, o1.2.2.2.1, hv5, o1.2.2.2.2.2⟩ ?_
    refine h v w' (up' U2) ?_
    have : (if L.us = none then m.st.take m.st.length else []) = (if L.us = none then m.st else []) := by rw [List.take_length]
    rw [this] at ho'
    exact ho'

end Go.Proofs.YtmmpogfbhelioaaGreat
/-
  Contract: a machine as plain data again.
  Conditions: at most 13 members.
-/
namespace Go.Proofs.YtmmpogfbhelioaaGreat
set_option maxRecDepth 10000
set_option linter.unusedVariables false
set_option linter.unusedSimpArgs false
theorem nmK20 {p : Prop} (h : p := by (try simp only [List.getElem?_toArray, List.getElem?_cons_zero, List.getElem?_cons_succ, List.setIfInBounds_toArray, List.set_cons_zero, List.set_cons_succ, List.toList_toArray, List.drop_zero, List.drop_succ_cons, List.take_zero, List.take_succ_cons, Nat.zero_add, Nat.add_zero, Nat.reduceAdd, putCells, Mac.cells, Rf.cells]) <;> rfl) : p := h
theorem goK20 {G H : Prop} (h : H) (s : Stp G H := by (apply Stp.of; intro hS; (first | (refine q_ld bk_ nmK20 ?_) | (refine q_ldU bk_ rfl nmK20 ?_) | (refine q_ldW bk_ (by rfl) ?_) | (refine q_ldWU bk_ rfl (by rfl) ?_) | (refine q_ldP bk_ (Nat.le_of_ble_eq_true rfl) nmK20 ?_) | (refine q_ldPU bk_ rfl (Nat.le_of_ble_eq_true rfl) nmK20 ?_) | (refine q_ext nmK20 ?_) | (refine u_st bk_ (Nat.le_of_ble_eq_true rfl) (by first | rfl | assumption) nmK20 ?_) | (refine u_stA bk_ (Nat.le_of_ble_eq_true rfl) (by rfl) (by rfl) nmK20 ?_) | (refine q_field nmK20 ?_)); exact hS.out)) : G := s.f h
attribute [local irreducible] Instr.box Instr.alloc Instr.loadAt Instr.storeAt Instr.fieldAt Instr.indexAt Instr.build Instr.buildSlice Instr.makeSlice Instr.makeMap Instr.mapUpdate Instr.lookup Instr.range Instr.next Instr.entry Instr.extract Instr.makeInterface Instr.makeFunc Instr.sliceAt Instr.typeAssert Instr.field Instr.index Builtin.len_ Builtin.cap_ Builtin.max_ Builtin.min_ Builtin.append_ Builtin.copy_ Builtin.delete_ convert binS pickS nilS callV callM Op.unary Own Mp It Cu

variable {K : Value → World → Prop} {w : World} {te : Option Nat}

/-- What the machine as plain data says of the one in memory; m is what it was made of. -/
structure MF (m : Mac) (R : Rf) (L : Lg) (ps : Ps) (vo le : List Int) (mo : Mac) : Prop where
  id : mo.id = R.id
  term : mo.term = R.term
  vote : mo.vote = R.vote
  lead : mo.lead = R.lead
  role : mo.role = R.st
  base : mo.base = L.us.getD m.base
  st : mo.st = if L.us = none then m.st else []
  fr : mo.fr = L.un
  commit : mo.commit = L.cm
  vo : mo.vo.Perm vo
  le : mo.le.Perm le
  ids : (mo.pe.map (·.id)).Perm (ps.map (·.1))
  pe : ∀ p ∈ mo.pe, ∃ x ∈ ps, p = peOf x.1 x.2.2
  vs : mo.vs = []

set_option maxHeartbeats 2000000 in
theorem k51 {m : Mac} {base b : Nat} {R : Rf} {L : Lg} {ps : Ps} {vo le : List Int} {wm : World} (hm0 : IsMac wm m) (em : Ex wm w) (r : RM base b R L ps vo le w) (hml : m.st.length ≤ 1000) (hoff : L.us = none → ∀ e ∈ m.st, e.i < L.off) (hst : 0 ≤ R.st ∧ R.st ≤ 3)
    (hkk : ∀ e ∈ L.un, i64 e.k) (hsm : ∀ s, L.us = some s → CfSm s.c) (hps : ps.length ≤ 13) (hnd : (ps.map (·.1)).Nodup) (hvo : vo.length ≤ 13) (hle : le.length ≤ 13)
    (h : ∀ mo w', Ex w w' → MF m R L ps vo le mo → (∀ w'', Kp wm.heap.size w.heap.size w' w'' → IsMac w'' mo) → K (.agg mo.cells) w') : CK Pr 51 #[.agg m.cells, .pointer (some ⟨b, 0, none⟩)] w K := by
  refine c51 ?_
  unfold t51
  have hm := hm0.ex em
  refine e_boxA fun b2 w1 e1 hb1 s1 s2 => ?_
  refine e_allocA fun rb w2 e2 hb2 s3 s4 => ?_
  refine cl_fn (k81 ((r.ex e1).ex e2).bk fun w3 e3 => ?_)
  refine e_allocA fun sb w4 e4 hb4 s5 s6 => ?_
  refine u_stA hb4 (Nat.le_of_ble_eq_true rfl) (by rfl) (by rfl) nmK20 fun w5 u5 hb5 z5 => ?_
  clear hb4
  have z1 := e1.size
  have z2 := e2.size
  have z3 := e3.size
  have z4 := e4.size
  have e5 : Ex w w5 := ((((e1.trans e2).trans e3).trans e4)).new u5 (by intro x hx; subst hx; omega)
  have r5 := r.ex e5
  refine cl_fn (k82 r5.bk ?_)
  refine cl_fn (k83 ?_)
  refine cl_fn (k85 ?_)
  refine cl_fn (k84 r5.lg fun vu ve qs w6 e6 z6 hu hve hqs => ?_)
  have r6 := r5.ex e6
  have hbm : Bk w6 b2 (.cells m.cells 32 (0, 0)) := e6.at_ (u5.at_ (e4.at_ (e3.at_ (e2.at_ hb1))) rfl)
  have hbr := e6.at_ (u5.at_ (e4.at_ (e3.at_ hb2)) rfl)
  have hbs := e6.at_ hb5
  have ew6 := e5.trans e6
  clear hb1 hb2 hb5 r5
  (repeat (first | (refine go ?_; intros) | (refine goK20 ?_; intros)))
  refine jo_rule (fun J => ∀ ob v1 v2 v3 xs ys w', Ex w6 w' → w6.heap.size ≤ ob → ob < w'.heap.size → Own w' w.heap.size 56 4 v1 (L.un.map En.cells) → Sl w' (some 22) 1 v2 (nums xs) → Sl w' (some 22) 1 v3 (nums ys) → xs.Perm vo → ys.Perm le →
      Bk w' ob (.cells (Mac.cells ⟨R.id, R.term, R.vote, R.lead, R.st, m.base, m.cvV, m.clV, m.coV, m.cnV, .slice none 0 0, v1, [], L.un, 0, 0, v2, v3, .slice none 0 0, .slice none 0 0, xs, ys, [], [], R.pv, R.cq, R.et, R.ht, R.rt, R.ee, R.he, R.mm, R.mu, R.us, R.tr⟩) 32 (0, 0)) → J (.pointer (some ⟨ob, 0, none⟩)) w') ?_ ?_
  · intro ob v1 v2 v3 xs ys w' ex hob hobl h1 h2 h3 px py hbo
    have o1 := hm.one1
    have n1 := h1.sl.one
    have n2 := h2.one
    have n3 := h3.one
    have zex := ex.size
    refine mf_3 (mo := ⟨R.id, R.term, R.vote, R.lead, R.st, m.base, m.cvV, m.clV, m.coV, m.cnV, .slice none 0 0, v1, [], L.un, 0, 0, v2, v3, .slice none 0 0, .slice none 0 0, xs, ys, [], [], R.pv, R.cq, R.et, R.ht, R.rt, R.ee, R.he, R.mm, R.mu, R.us, R.tr⟩)
      (w0 := w) (b2 := b2) hm hml (ex.at_ hbm) (by omega) hoff hobl (hu.ex ex) hsm em hm0.cf (r6.ex ex) (ew6.trans ex) (by omega) (by omega) hbo (ex.at_ hbr) (by rfl) (by omega) hps hnd rfl rfl ⟨o1.1, o1.2.1, o1.2.2.1, o1.2.2.2.1, rfl, n1, n2, n3, rfl⟩ ?_
    intro v w7 u7 hs7 pv pl w8 c1 c2 c3 c4 u8 e8 ho8 hpi hpp r8 hcf
    refine h ⟨R.id, R.term, R.vote, R.lead, R.st, L.us.getD m.base, c1, c2, c3, c4, v, v1, (if L.us = none then m.st else []), L.un, L.cm, L.ap, v2, v3, pv, .slice none 0 0, xs, ys, pl, [], R.pv, R.cq, R.et, R.ht, R.rt, R.ee, R.he, R.mm, R.mu, R.us, R.tr⟩ w8 e8
      ⟨rfl, rfl, rfl, rfl, rfl, rfl, rfl, rfl, rfl, px, py, hpi, hpp, rfl⟩ ?_
    intro w9 u9
    refine ⟨hcf w9 u9, ((hs7.up u8 fun _ _ => .inl rfl).kp u9 (Nat.le_refl _)).any, (((h1.up u7 fun _ _ => .inl rfl).up u8 fun _ _ => .inl rfl).kp u9 (Nat.le_refl _)).any, (((h2.typ u7 rfl).typ u8 rfl).kp u9 rfl (by decide)).any, (((h3.typ u7 rfl).typ u8 rfl).kp u9 rfl (by decide)).any, (ho8.sl.kp u9 rfl (by decide)).any, fun p hp => ?_, .nil _ _⟩
    obtain ⟨x, _, rfl⟩ := hpp p hp
    exact ⟨.nil _ _, .nil _ _⟩
  · intro J hJ
    refine dr_rule No [] fun wA eA zA => ?_
    have hbmA := eA.at_ hbm
    have hbsA := eA.at_ hbs
    have rA := r6.ex eA
    have rbA := rA.bk
    have hveA := hve.ex eA
    have hqsA := hqs.ex eA
    have o1 := hm.one1
    (repeat (first | (refine go ?_; intros) | (refine goK20 ?_; intros)))
    refine q_ia 0 rfl (by omega) ?_
    (repeat (first | (refine go ?_; intros) | (refine goK20 ?_; intros)))
    rw [wrap64 (n := R.st) (by omega) (by omega)]
    have hmvo := rA.vo
    have hmle := rA.le
    have hkv : (ms vo).length ≤ 13 := by simpa [ms] using hvo
    have hkl : (ms le).length ≤ 13 := by simpa [ms] using hle
    have keyv : (ms vo).map (·.1) = vo := by simp [ms, Function.comp_def]
    have keyl : (ms le).map (·.1) = le := by simp [ms, Function.comp_def]
    have hunl := r.lok.un
    have al : ∀ (w' : World) (v1 v2 v3 : Value) xs ys, Ex wA w' → Own w' w.heap.size 56 4 v1 (L.un.map En.cells) → Sl w' (some 22) 1 v2 (nums xs) → Sl w' (some 22) 1 v3 (nums ys) → xs.Perm vo → ys.Perm le → ∀ ob w2, Ex w' w2 → wA.heap.size ≤ ob → 
      Bk w2 ob (.cells (Mac.cells ⟨R.id, R.term, R.vote, R.lead, R.st, m.base, m.cvV, m.clV, m.coV, m.cnV, .slice none 0 0, v1, [], L.un, 0, 0, v2, v3, .slice none 0 0, .slice none 0 0, xs, ys, [], [], R.pv, R.cq, R.et, R.ht, R.rt, R.ee, R.he, R.mm, R.mu, R.us, R.tr⟩) 32 (0, 0)) → J (.pointer (some ⟨ob, 0, none⟩)) w2 := by
      intro w' v1 v2 v3 xs ys e q1 q2 q3 p1 p2 ob w2 e2 hob hbo
      exact hJ ob v1 v2 v3 xs ys w2 ((eA.trans e).trans e2) (by omega) hbo.lt (q1.ex e2) (q2.ex e2) (q3.ex e2) p1 p2 hbo
    refine ⟨cl_fn (k86 hveA hqsA (by omega) hkk fun v1 wB eB oB => ⟨eB, ⟨cl_fn (k87 (hmvo.ex eB) hkv fun v2 wC xs eC px q2 => ⟨eB.trans eC, ⟨?_, ?_⟩⟩), ?_⟩⟩), ?_⟩
    · have q1 := oB.mono (base' := w.heap.size) (by have := (ew6.trans eA).size; omega)
      have n1 := q1.sl.one
      rw [keyv] at px
      have n2 := q2.one
      have zB := eB.size
      have zC := eC.size
      refine cl_fn (k88 (hmle.ex (eB.trans eC)) hkl fun v3 wP1 ys eP1 py q3 => ⟨(eB.trans eC).trans eP1, ?_⟩)
      rw [keyl] at py
      have n3 := q3.one
      have zz1 := eP1.size
      refine b32_0_1_2_3_4_5_7_10_11_14_15_16_17_18_19_20_21_22_23_24 rfl rfl rfl rfl rfl (by exact n1) (by exact n2) (by exact n3) rfl rfl rfl rfl rfl rfl rfl rfl rfl rfl rfl ?_
      refine e_allocA fun ob wP3 eP3 hb3 sa sb' => ⟨((eB.trans eC).trans eP1).trans eP3, ?_⟩
      have zz3 := eP3.size
      refine u_stA hb3 (Nat.le_of_ble_eq_true rfl) (by rfl) (by simp only [List.all_cons, List.all_nil, o1.1, o1.2.1, o1.2.2.1, o1.2.2.2.1, n1, n2, n3]; rfl) nmK20 fun wF uF hbF zF => ⟨(((eB.trans eC).trans eP1).trans eP3).new uF (by intro x hx; subst hx; have := (((eB.trans eC).trans eP1).trans eP3).size; omega), ?_⟩
      exact al wF v1 v2 v3 xs ys ((((eB.trans eC).trans eP1).trans eP3).new uF (by intro x hx; subst hx; have := (((eB.trans eC).trans eP1).trans eP3).size; omega)) (((((q1.ex eC).ex eP1).ex eP3).up uF fun _ _ => .inl rfl)) (((q2.ex eP1).ex eP3).typ uF rfl) ((q3.ex eP3).typ uF rfl) px py ob wF (.refl _ _ _) (by omega) hbF
    · have q1 := oB.mono (base' := w.heap.size) (by have := (ew6.trans eA).size; omega)
      have n1 := q1.sl.one
      rw [keyv] at px
      have n2 := q2.one
      have zB := eB.size
      have zC := eC.size
      refine e_allocA fun ob wP1 eP1 hb1 sa sb' => ⟨(eB.trans eC).trans eP1, ?_⟩
      have zz1 := eP1.size
      refine cl_fn (k88 (hmle.ex ((eB.trans eC).trans eP1)) hkl fun v3 wP2 ys eP2 py q3 => ⟨((eB.trans eC).trans eP1).trans eP2, ?_⟩)
      rw [keyl] at py
      have n3 := q3.one
      have hb2 := eP2.at_ hb1
      have zz2 := eP2.size
      refine b32_0_1_2_3_4_5_7_10_11_14_15_16_17_18_19_20_21_22_23_24 rfl rfl rfl rfl rfl (by exact n1) (by exact n2) (by exact n3) rfl rfl rfl rfl rfl rfl rfl rfl rfl rfl rfl ?_
      refine u_stA hb2 (Nat.le_of_ble_eq_true rfl) (by rfl) (by simp only [List.all_cons, List.all_nil, o1.1, o1.2.1, o1.2.2.1, o1.2.2.2.1, n1, n2, n3]; rfl) nmK20 fun wF uF hbF zF => ⟨(((eB.trans eC).trans eP1).trans eP2).new uF (by intro x hx; subst hx; have := (((eB.trans eC).trans eP1).trans eP2).size; omega), ?_⟩
      exact al wF v1 v2 v3 xs ys ((((eB.trans eC).trans eP1).trans eP2).new uF (by intro x hx; subst hx; have := (((eB.trans eC).trans eP1).trans eP2).size; omega)) (((((q1.ex eC).ex eP1).ex eP2).up uF fun _ _ => .inl rfl)) (((q2.ex eP1).ex eP2).typ uF rfl) (q3.typ uF rfl) px py ob wF (.refl _ _ _) (by omega) hbF
    · have q1 := oB.mono (base' := w.heap.size) (by have := (ew6.trans eA).size; omega)
      have n1 := q1.sl.one
      have zB := eB.size
      refine e_allocA fun ob wP1 eP1 hb1 sa sb' => ⟨(eB).trans eP1, ?_⟩
      have zz1 := eP1.size
      refine cl_fn (k87 (hmvo.ex ((eB).trans eP1)) hkv fun v2 wP2 xs eP2 px q2 => ⟨((eB).trans eP1).trans eP2, ?_⟩)
      rw [keyv] at px
      have n2 := q2.one
      have hb2 := eP2.at_ hb1
      have zz2 := eP2.size
      refine cl_fn (k88 (hmle.ex (((eB).trans eP1).trans eP2)) hkl fun v3 wP3 ys eP3 py q3 => ⟨(((eB).trans eP1).trans eP2).trans eP3, ?_⟩)
      rw [keyl] at py
      have n3 := q3.one
      have hb3 := eP3.at_ hb2
      have zz3 := eP3.size
      refine b32_0_1_2_3_4_5_7_10_11_14_15_16_17_18_19_20_21_22_23_24 rfl rfl rfl rfl rfl (by exact n1) (by exact n2) (by exact n3) rfl rfl rfl rfl rfl rfl rfl rfl rfl rfl rfl ?_
      refine u_stA hb3 (Nat.le_of_ble_eq_true rfl) (by rfl) (by simp only [List.all_cons, List.all_nil, o1.1, o1.2.1, o1.2.2.1, o1.2.2.2.1, n1, n2, n3]; rfl) nmK20 fun wF uF hbF zF => ⟨((((eB).trans eP1).trans eP2).trans eP3).new uF (by intro x hx; subst hx; have := ((((eB).trans eP1).trans eP2).trans eP3).size; omega), ?_⟩
      exact al wF v1 v2 v3 xs ys (((((eB).trans eP1).trans eP2).trans eP3).new uF (by intro x hx; subst hx; have := ((((eB).trans eP1).trans eP2).trans eP3).size; omega)) (((((q1.ex eP1).ex eP2).ex eP3).up uF fun _ _ => .inl rfl)) ((q2.ex eP3).typ uF rfl) (q3.typ uF rfl) px py ob wF (.refl _ _ _) (by omega) hbF
    · refine e_allocA fun ob wP1 eP1 hb1 sa sb' => ⟨(Up.refl No [] wA).trans eP1, ?_⟩
      have zz1 := eP1.size
      refine cl_fn (k86 (hveA.ex ((Up.refl No [] wA).trans eP1)) (hqsA.ex ((Up.refl No [] wA).trans eP1)) (by omega) hkk fun v1 wP2 eP2 oP => ⟨((Up.refl No [] wA).trans eP1).trans eP2, ?_⟩)
      have q1 := oP.mono (base' := w.heap.size) (by have := (ew6.trans eA).size; have := eP1.size; omega)
      have n1 := q1.sl.one
      have hb2 := eP2.at_ hb1
      have zz2 := eP2.size
      refine cl_fn (k87 (hmvo.ex (((Up.refl No [] wA).trans eP1).trans eP2)) hkv fun v2 wP3 xs eP3 px q2 => ⟨(((Up.refl No [] wA).trans eP1).trans eP2).trans eP3, ?_⟩)
      rw [keyv] at px
      have n2 := q2.one
      have hb3 := eP3.at_ hb2
      have zz3 := eP3.size
      refine cl_fn (k88 (hmle.ex ((((Up.refl No [] wA).trans eP1).trans eP2).trans eP3)) hkl fun v3 wP4 ys eP4 py q3 => ⟨((((Up.refl No [] wA).trans eP1).trans eP2).trans eP3).trans eP4, ?_⟩)
      rw [keyl] at py
      have n3 := q3.one
      have hb4 := eP4.at_ hb3
      have zz4 := eP4.size
      refine b32_0_1_2_3_4_5_7_10_11_14_15_16_17_18_19_20_21_22_23_24 rfl rfl rfl rfl rfl (by exact n1) (by exact n2) (by exact n3) rfl rfl rfl rfl rfl rfl rfl rfl rfl rfl rfl ?_
      refine u_stA hb4 (Nat.le_of_ble_eq_true rfl) (by rfl) (by simp only [List.all_cons, List.all_nil, o1.1, o1.2.1, o1.2.2.1, o1.2.2.2.1, n1, n2, n3]; rfl) nmK20 fun wF uF hbF zF => ⟨(((((Up.refl No [] wA).trans eP1).trans eP2).trans eP3).trans eP4).new uF (by intro x hx; subst hx; have := (((((Up.refl No [] wA).trans eP1).trans eP2).trans eP3).trans eP4).size; omega), ?_⟩
      exact al wF v1 v2 v3 xs ys ((((((Up.refl No [] wA).trans eP1).trans eP2).trans eP3).trans eP4).new uF (by intro x hx; subst hx; have := (((((Up.refl No [] wA).trans eP1).trans eP2).trans eP3).trans eP4).size; omega)) (((q1.ex eP3).ex eP4).up uF fun _ _ => .inl rfl) ((q2.ex eP4).typ uF rfl) (q3.typ uF rfl) px py ob wF (.refl _ _ _) (by omega) hbF

end Go.Proofs.YtmmpogfbhelioaaGreat
/-
  Contracts: the machine is set back.
  Conditions: each one's own.
-/
namespace Go.Proofs.YtmmpogfbhelioaaGreat
set_option maxRecDepth 10000
set_option linter.unusedVariables false
set_option linter.unusedSimpArgs false
attribute [local irreducible] Instr.box Instr.alloc Instr.loadAt Instr.storeAt Instr.fieldAt Instr.indexAt Instr.build Instr.buildSlice Instr.makeSlice Instr.makeMap Instr.mapUpdate Instr.lookup Instr.range Instr.next Instr.entry Instr.extract Instr.makeInterface Instr.makeFunc Instr.sliceAt Instr.typeAssert Instr.field Instr.index Builtin.len_ Builtin.cap_ Builtin.max_ Builtin.min_ Builtin.append_ Builtin.copy_ Builtin.delete_ convert binS pickS nilS callV callM Op.unary Own Mp It Cu

variable {K : Value → World → Prop} {w : World} {te : Option Nat}

/-- A drawn region that keeps more than its world's blocks. -/
theorem dr_ruleG (C : Nat → Prop) (T : List Nat) (G : World → Prop) {F : (World → Prop) → World → Prop} (hG : ∀ w1, Ex w w1 → G w1) (h : ∀ w1, Ex w w1 → w1.heap.size = w.heap.size → F (fun x => Up C T w1 x ∧ G x) w1) : Dr w F :=
  .mk (fun x => Up C T w.drew x ∧ G x) ⟨Up.refl _ _ _, hG _ (Up.drew _ _ _)⟩ (h _ (Up.drew _ _ _) rfl)
theorem q_ldG {P : Program} {G : World → Prop} {K : Value → Prop} {C : Nat → Prop} {T : List Nat} {t b o : Nat} {cs : Array Value} {et : TypeId} {fz : Nat × Nat} {x : Value} [TCell P t] (hb : Bk w b (.cells cs et fz)) (hT : T.contains (et + 2) = false) (hx : cs[o]? = some x) (k : K x) :
    Qu P (fun x => Up C T w x ∧ G x) (Instr.loadAt t (.pointer (some ⟨b, o, none⟩))) K := q_ldS (fun w' s => s.1.at_ hb hT) hx k
theorem q_ldX {P : Program} {S : World → Prop} {K : Value → Prop} {t b o : Nat} {x : Value} [TCell P t] (hb : ∀ w, S w → ∃ cs et fz, Bk w b (.cells cs et fz) ∧ cs[o]? = some x) (k : K x) : Qu P S (Instr.loadAt t (.pointer (some ⟨b, o, none⟩))) K := by
  refine .mk x (fun w' hw => ?_) k
  obtain ⟨cs, et, fz, h1, h2⟩ := hb w' hw
  simp only [Instr.loadAt, Instr.sureAddr]
  refine run_loadVar_cell ?_
  rw [h1.cell]; exact h2

/-- A progress that is set back. -/
def nq (id : Int) (last mi mb : Int) (x : Int × Nat × Pg) : Int × Nat × Pg := (x.1, x.2.1, ⟨if x.1 = id then last else 0, last + 1, 0, 0, 0, false, false, x.2.2.le, mi, mb⟩)
def rs (id last mi mb : Int) (done : List Int) (ps : Ps) : Ps := ps.map fun x => if x.1 ∈ done then nq id last mi mb x else x
end Go.Proofs.YtmmpogfbhelioaaGreat
/-
  Contracts: the machine is set back; it becomes a follower, a candidate, a candidate ahead of the vote.
  Conditions: each one's own.
-/
namespace Go.Proofs.YtmmpogfbhelioaaGreat
set_option maxRecDepth 10000
set_option linter.unusedVariables false
set_option linter.unusedSimpArgs false
attribute [local irreducible] Instr.box Instr.alloc Instr.loadAt Instr.storeAt Instr.fieldAt Instr.indexAt Instr.build Instr.buildSlice Instr.makeSlice Instr.makeMap Instr.mapUpdate Instr.lookup Instr.range Instr.next Instr.entry Instr.extract Instr.makeInterface Instr.makeFunc Instr.sliceAt Instr.typeAssert Instr.field Instr.index Builtin.len_ Builtin.cap_ Builtin.max_ Builtin.min_ Builtin.append_ Builtin.copy_ Builtin.delete_ convert binS pickS nilS callV callM Op.unary Own Mp It Cu

variable {K : Value → World → Prop} {w : World} {te : Option Nat}

theorem LG.b1 {base lb : Nat} {L : Lg} (h : LG base lb L w) : base ≤ L.sb ∧ base ≤ lb := by
  obtain ⟨_, _, _, _, _, _, _, _, _, _, _, h8, h9, _⟩ := h
  exact ⟨h9, h8⟩

/-- A field of the machine that is no pointer turned. -/
theorem RM.put {base b : Nat} {R R' : Rf} {L : Lg} {ps : Ps} {vo le : List Int} {w' : World} (r : RM base b R L ps vo le w) (u : Up (fun x => x = b) [189] w w') (hb : Bk w' b (.cells R'.cells 187 (0, 0)))
    (h : R'.lb = R.lb ∧ R'.pm = R.pm ∧ R'.vb = R.vb ∧ R'.lm = R.lm ∧ R'.vt = R.vt ∧ R'.ro = R.ro) : RM base b R' L ps vo le w' := by
  obtain ⟨h1, h2, h3, h4, h5, h6⟩ := h
  refine ⟨hb, r.b0, ?_, r.lok, ?_, ?_, ?_, ?_, ?_⟩
  · rw [h1]; exact r.lg.mt rfl rfl rfl rfl u
  · rw [h2]; exact r.pr.up u (.inl rfl) (.inl rfl) rfl
  · rw [h3]; exact r.vo.up u (.inl rfl)
  · rw [h4]; exact r.le.up u (.inl rfl)
  · rw [h5]; exact r.vt.up u (.inl rfl)
  · rw [h6]; exact r.ro.mt u rfl

/-- What reset leaves. -/
def Rf.back (R : Rf) (t : Int) (vt ro : Nat) : Rf := { R with term := t, vote := if R.term = t then R.vote else 0, lead := 0, ee := 0, he := 0, rt := R.et, tr := 0, vt := vt, pc := 0, us := 0, ro := ro }

end Go.Proofs.YtmmpogfbhelioaaGreat
/-
  Contracts: the machine becomes a follower, a candidate, a candidate ahead of the vote.
  Conditions: each one's own.
-/
namespace Go.Proofs.YtmmpogfbhelioaaGreat
set_option maxRecDepth 10000
set_option linter.unusedVariables false
set_option linter.unusedSimpArgs false
attribute [local irreducible] Instr.box Instr.alloc Instr.loadAt Instr.storeAt Instr.fieldAt Instr.indexAt Instr.build Instr.buildSlice Instr.makeSlice Instr.makeMap Instr.mapUpdate Instr.lookup Instr.range Instr.next Instr.entry Instr.extract Instr.makeInterface Instr.makeFunc Instr.sliceAt Instr.typeAssert Instr.field Instr.index Builtin.len_ Builtin.cap_ Builtin.max_ Builtin.min_ Builtin.append_ Builtin.copy_ Builtin.delete_ convert binS pickS nilS callV callM Op.unary Own Mp It Cu

variable {K : Value → World → Prop} {w : World} {te : Option Nat}

/-- A machine that became a follower. -/
def Rf.follow (R : Rf) (b : Nat) (t l : Int) (vt ro : Nat) : Rf := { (({ R with step := fn 108 } : Rf).back t vt ro) with tick := .func (.func 110) #[.pointer (some ⟨b, 0, none⟩)] #[], lead := l, st := 0 }

/-- A machine that became a candidate. -/
def Rf.cand (R : Rf) (b : Nat) (t : Int) (vt ro : Nat) : Rf := { (({ R with step := fn 111 } : Rf).back t vt ro) with tick := .func (.func 110) #[.pointer (some ⟨b, 0, none⟩)] #[], vote := R.id, st := 1 }

/-- A machine that became a candidate ahead of the vote. -/
def Rf.pre (R : Rf) (b : Nat) (vt : Nat) : Rf := { R with step := fn 111, vt := vt, tick := .func (.func 110) #[.pointer (some ⟨b, 0, none⟩)] #[], lead := 0, st := 3 }

end Go.Proofs.YtmmpogfbhelioaaGreat
/-
  Contracts: a progress that becomes one of a member that keeps up; entries copied; the log grows by an entry.
  Conditions: each one's own.
-/
namespace Go.Proofs.YtmmpogfbhelioaaGreat
set_option maxRecDepth 10000
set_option linter.unusedVariables false
set_option linter.unusedSimpArgs false
theorem nmK31 {p : Prop} (h : p := by (try simp only [List.getElem?_toArray, List.getElem?_cons_zero, List.getElem?_cons_succ, List.setIfInBounds_toArray, List.set_cons_zero, List.set_cons_succ, List.toList_toArray, List.drop_zero, List.drop_succ_cons, List.take_zero, List.take_succ_cons, Nat.zero_add, Nat.add_zero, Nat.reduceAdd, putCells, Pg.cells, E0, Lg.cells, Rf.cells]) <;> rfl) : p := h
theorem goK31 {G H : Prop} (h : H) (s : Stp G H := by (apply Stp.of; intro hS; (first | (refine q_ld bk_ nmK31 ?_) | (refine q_ldU bk_ rfl nmK31 ?_) | (refine q_ldW bk_ (by rfl) ?_) | (refine q_ldWU bk_ rfl (by rfl) ?_) | (refine q_ldP bk_ (Nat.le_of_ble_eq_true rfl) nmK31 ?_) | (refine q_ldPU bk_ rfl (Nat.le_of_ble_eq_true rfl) nmK31 ?_) | (refine q_ext nmK31 ?_) | (refine u_st bk_ (Nat.le_of_ble_eq_true rfl) (by first | rfl | assumption) nmK31 ?_) | (refine u_stA bk_ (Nat.le_of_ble_eq_true rfl) (by rfl) (by rfl) nmK31 ?_) | (refine q_field nmK31 ?_)); exact hS.out)) : G := s.f h
attribute [local irreducible] Instr.box Instr.alloc Instr.loadAt Instr.storeAt Instr.fieldAt Instr.indexAt Instr.build Instr.buildSlice Instr.makeSlice Instr.makeMap Instr.mapUpdate Instr.lookup Instr.range Instr.next Instr.entry Instr.extract Instr.makeInterface Instr.makeFunc Instr.sliceAt Instr.typeAssert Instr.field Instr.index Builtin.len_ Builtin.cap_ Builtin.max_ Builtin.min_ Builtin.append_ Builtin.copy_ Builtin.delete_ convert binS pickS nilS callV callM Op.unary Own Mp It Cu

variable {K : Value → World → Prop} {w : World} {te : Option Nat}

/-- The empty entry's cells. -/
def E0 : Array Value := #[.pointer none, .pointer none, .pointer none, .slice none 0 0]

theorem k120 {n : Int} (h : ∀ b' w', Ex w w' → w.heap.size ≤ b' → Bk w' b' (.cells #[.int .i32 n] 113 (0, 0)) → K (.pointer (some ⟨b', 0, none⟩)) w') : CK Pr 120 #[.int .i32 n] w K := by
  refine c120 ?_
  unfold t120
  (repeat (first | (refine go ?_; intros) | (refine goK31 ?_; intros)))
  rename_i b1 w1 e1 hb1 s1 s2 w2 u2 hb2 z2
  exact h b1 w2 (e1.new u2 (by intro x hx; subst hx; omega)) (by omega) hb2

end Go.Proofs.YtmmpogfbhelioaaGreat
/-
  Contracts: configurations are compared: members in any order.
  Conditions: not joint, at most 12 members of a kind.
-/
namespace Go.Proofs.YtmmpogfbhelioaaGreat
set_option maxRecDepth 10000
set_option linter.unusedVariables false
set_option linter.unusedSimpArgs false
attribute [local irreducible] Instr.box Instr.alloc Instr.loadAt Instr.storeAt Instr.fieldAt Instr.indexAt Instr.build Instr.buildSlice Instr.makeSlice Instr.makeMap Instr.mapUpdate Instr.lookup Instr.range Instr.next Instr.entry Instr.extract Instr.makeInterface Instr.makeFunc Instr.sliceAt Instr.typeAssert Instr.field Instr.index Builtin.len_ Builtin.cap_ Builtin.max_ Builtin.min_ Builtin.append_ Builtin.copy_ Builtin.delete_ convert binS pickS nilS callV callM Op.unary Own Mp It Cu

attribute [local irreducible] Nm

variable {K : Value → World → Prop} {w : World} {te te2 : Option Nat}

theorem Nm.nil_any {t : Nat} {v : Value} {w' : World} (h : Nm t v [] w) : Nm t v [] w' := by
  unfold Nm at *
  obtain ⟨a, c, h1, h2, h3, _⟩ := h
  exact ⟨a, c, h1, h2, h3, .inl rfl⟩
theorem k287o {v : Value} {l : List Int} (hv : Nums w te v l) (hl : l.length ≤ 1000000) (h : ∀ v' w', Ex w w' → Nm 22 v' l w' → (∀ x, sb v' x → w.heap.size ≤ x ∧ x < w'.heap.size) → one v' = true → K v' w') : CK Pr 287 #[v] w K := by
  refine c287 ?_
  unfold t287
  have hz := nums_len l
  obtain ⟨a, c, hvv⟩ := hv.sh
  cases a with
  | none =>
    have h0 : nums l = [] := hv.none_ hvv
    subst hvv
    have hl0 : l = [] := by
      cases l with
      | nil => rfl
      | cons x r => cases h0
    subst hl0
    (repeat (first | (refine go ?_; intros) | (refine gon ?_; intros)))
    exact h _ _ (.refl _ _ _) (Own.nm (Own.nil w 0 22 1)) (by intro x hx; cases hx) rfl
  | some a =>
    rw [hvv]
    (repeat (first | (refine go ?_; intros) | (refine gon ?_; intros)))
    rw [← hvv]
    refine e_make (m := (nums l).length) (zv := .int .u64 0) rfl rfl rfl (by omega) (by omega) fun w1 e1 o1 z1 => ?_
    refine e_copy o1 (hv.ex e1) (by rw [List.length_replicate]) nums_one fun r w2 u2 o2 z2 => ?_
    refine h _ _ ?_ o2.nm ?_ rfl
    · refine e1.new u2 fun b hb => ?_
      cases hb
      exact Nat.le_refl _
    · intro x hx
      have hxx : w.heap.size = x := hx
      have := u2.size
      omega

/-- A copy of a configuration, of its own: its members may change places. -/
structure NC (b : Nat) (l1 l2 : List Int) (p : Bool) (m1 m2 m3 m4 m5 : Nat) (v1 v2 v3 v4 v5 : Value) (w : World) : Prop where
  bk : Bk w b (.cells #[v1, v2, v3, v4, v5] 200 (0, 0))
  n1 : Nm 22 v1 l1 w
  n2 : Nm 22 v2 l2 w
  n3 : Nm 22 v3 [] w
  n4 : Nm 22 v4 [] w
  n5 : PB1 v5 p w
  s1 : ∀ x, sb v1 x → m1 ≤ x ∧ x < m2
  s2 : ∀ x, sb v2 x → m2 ≤ x ∧ x < m3
  s3 : ∀ x, sb v3 x → m3 ≤ x ∧ x < m4
  s4 : ∀ x, sb v4 x → m4 ≤ x ∧ x < m5
  o1 : one v1 = true
  o2 : one v2 = true
  o3 : one v3 = true
  o4 : one v4 = true
  h1 : m1 ≤ m2
  h2 : m2 ≤ m3
  h3 : m3 ≤ m4
  h4 : m4 ≤ m5
theorem NC.up {b : Nat} {l1 l2 : List Int} {p : Bool} {m1 m2 m3 m4 m5 : Nat} {v1 v2 v3 v4 v5 : Value} {w' : World} {C : Nat → Prop} {T : List Nat} (u : Up C T w w') (h : NC b l1 l2 p m1 m2 m3 m4 m5 v1 v2 v3 v4 v5 w) (hb : T.contains 202 = false ∨ ¬ C b) (hC : T.contains 24 = false ∨ ∀ x, m1 ≤ x → x < m5 → ¬ C x) (h6 : T.contains 6 = false) : NC b l1 l2 p m1 m2 m3 m4 m5 v1 v2 v3 v4 v5 w' := by
  have g1 := h.h1
  have g2 := h.h2
  have g3 := h.h3
  have g4 := h.h4
  refine ⟨?_, h.n1.up u ?_, h.n2.up u ?_, h.n3.nil_any, h.n4.nil_any, ?_, h.s1, h.s2, h.s3, h.s4, h.o1, h.o2, h.o3, h.o4, h.h1, h.h2, h.h3, h.h4⟩
  · rcases hb with hb | hb
    · exact u.at_ h.bk hb
    · exact u.off h.bk hb
  · exact hC.imp id fun hC x hx => hC x (by have := h.s1 x hx; omega) (by have := h.s1 x hx; omega)
  · exact hC.imp id fun hC x hx => hC x (by have := h.s2 x hx; omega) (by have := h.s2 x hx; omega)
  · obtain ⟨b', q1, q2⟩ := h.n5
    exact ⟨b', q1, u.at_ q2 h6⟩
theorem NC.ex {b : Nat} {l1 l2 : List Int} {p : Bool} {m1 m2 m3 m4 m5 : Nat} {v1 v2 v3 v4 v5 : Value} {w' : World} (u : Ex w w') (h : NC b l1 l2 p m1 m2 m3 m4 m5 v1 v2 v3 v4 v5 w) : NC b l1 l2 p m1 m2 m3 m4 m5 v1 v2 v3 v4 v5 w' := h.up u (.inr id) (.inr fun _ _ _ => id) rfl
theorem NC.pc {b : Nat} {l1 l2 : List Int} {p : Bool} {m1 m2 m3 m4 m5 : Nat} {v1 v2 v3 v4 v5 : Value} (h : NC b l1 l2 p m1 m2 m3 m4 m5 v1 v2 v3 v4 v5 w) : PC (.pointer (some ⟨b, 0, none⟩)) ⟨l1, l2, [], [], p⟩ w :=
  ⟨b, v1, v2, v3, v4, v5, rfl, h.bk, h.n1.sl, h.n2.sl, h.n3.sl, h.n4.sl, h.n5⟩

theorem k226o {v : Value} {c : Cf} (hv : PC v c w) (sm : CfSm c) (ho : c.o = []) (hn : c.n = []) (h : ∀ b m2 m3 m4 m5 v1 v2 v3 v4 v5 w', Ex w w' → w.heap.size ≤ b → m5 ≤ w'.heap.size → NC b c.v c.l c.a w.heap.size m2 m3 m4 m5 v1 v2 v3 v4 v5 w' → K (.pointer (some ⟨b, 0, none⟩)) w') : CK Pr 226 #[v] w K := by
  obtain ⟨b, v1, v2, v3, v4, v5, rfl, hb, h1, h2, h3, h4, h5⟩ := hv
  refine c226 ?_
  unfold t226
  (repeat (first | (refine go ?_; intros) | (refine gon ?_; intros)))
  refine dr_rule No [] fun w1 e1 z1 => ?_
  have hb1 := e1.at_ hb
  (repeat (first | (refine go ?_; intros) | (refine gon ?_; intros)))
  refine cl_fn (k287o (h1.ex e1) sm.v fun u1 w2 e2 o1 q1 r1 => ⟨e2, ?_⟩)
  have hb2 := e2.at_ hb1
  (repeat (first | (refine go ?_; intros) | (refine gon ?_; intros)))
  refine cl_fn (k287o (h2.ex (e1.trans e2)) sm.l fun u2 w3 e3 o2 q2 r2 => ⟨e2.trans e3, ?_⟩)
  have hb3 := e3.at_ hb2
  (repeat (first | (refine go ?_; intros) | (refine gon ?_; intros)))
  refine cl_fn (k287o (h3.ex ((e1.trans e2).trans e3)) sm.o fun u3 w4 e4 o3 q3 r3 => ⟨(e2.trans e3).trans e4, ?_⟩)
  have hb4 := e4.at_ hb3
  (repeat (first | (refine go ?_; intros) | (refine gon ?_; intros)))
  refine cl_fn (k287o (h4.ex (((e1.trans e2).trans e3).trans e4)) sm.n fun u4 w5 e5 o4 q4 r4 => ⟨((e2.trans e3).trans e4).trans e5, ?_⟩)
  have hb5 := e5.at_ hb4
  (repeat (first | (refine go ?_; intros) | (refine gon ?_; intros)))
  refine cl_fn (k288 (h5.ex ((((e1.trans e2).trans e3).trans e4).trans e5)) fun u5 w6 e6 o5 => ⟨(((e2.trans e3).trans e4).trans e5).trans e6, ?_⟩)
  refine b200_0_1_2_3_4 r1 r2 r3 r4 o5.one ?_
  refine e_boxA fun b0 w7 e7 hb7 s1 s2 => ⟨((((e2.trans e3).trans e4).trans e5).trans e6).trans e7, ?_⟩
  have y2 := e2.size
  have y3 := e3.size
  have y4 := e4.size
  have y5 := e5.size
  have y6 := e6.size
  have y7 := e7.size
  have E7 : Ex w1 w7 := ((((e2.trans e3).trans e4).trans e5).trans e6).trans e7
  rw [ho] at o3
  rw [hn] at o4
  refine h b0 w2.heap.size w3.heap.size w4.heap.size w5.heap.size _ _ _ _ _ w7 (e1.trans E7) (by omega) (by omega) ⟨hb7, ((((o1.ex e3).ex e4).ex e5).ex e6).ex e7, (((o2.ex e4).ex e5).ex e6).ex e7, o3.nil_any, o4.nil_any, o5.ex e7, fun x hx => by have := q1 x hx; omega, q2, q3, q4, r1, r2, r3, r4, by omega, by omega, by omega, by omega⟩

theorem k227 {b o : Nat} {cs : Array Value} {v : Value} {l : List Int} (hb : Bk w b (.cells cs 200 (0, 0))) (hx : cs[o]? = some v) (hn : Nm 22 v l w) (hl : l.length ≤ 12) (h : ∀ w' l', So 22 v l w w' l' → OrdP l.length l' → K (.tuple #[]) w') : CK Pr 227 #[.pointer (some ⟨b, o, none⟩)] w K := by
  refine c227 ?_
  unfold t227
  refine q_nil ?_
  refine q_ld hb hx ?_
  exact cl_fn (k131o hn hl h)

theorem k289 {v1 v2 : Value} {l : List Int} (h1 : Nums w te v1 l) (h2 : Nums w te2 v2 l) (h : ∀ w', Ex w w' → K (.bool true) w') : CK Pr 289 #[v1, v2] w K := by
  refine c289 ?_
  unfold t289
  refine q_lenSl h1 ?_
  refine q_lenSl h2 ?_
  refine q_neq ?_
  rw [beq_self_eq_true]
  refine if_f ?_
  refine q_lenSl h1 ?_
  have hle := h1.le
  rw [nums_len] at hle ⊢
  refine loop_n (α := Nat) (fun j τ w' => g τ 2 = .int .i64 j ∧ j ≤ l.length ∧ Ex w w') (fun j => l.length - j) 0 ⟨rfl, Nat.zero_le _, .refl _ _ _⟩ ?_
  rintro j τ w' R ⟨hj, hjl, ex⟩ hR
  rw [hj]
  refine q_lss ?_
  refine if_split (fun hb => ?_) (fun _ => h _ ex)
  have hj' : j < l.length := by simpa using hb
  obtain ⟨x, hx⟩ : ∃ x, l[j]? = some x := ⟨_, List.getElem?_eq_getElem hj'⟩
  refine dr_q fun w1 e1 z1 => ?_
  refine q_ixs (x := .int .u64 x) j (h1.ex (ex.trans e1)) rfl (by simp [nums, hx]) fun _ => ?_
  refine q_ixs (x := .int .u64 x) j (h2.ex (ex.trans e1)) rfl (by simp [nums, hx]) fun _ => ?_
  refine q_neq ?_
  rw [beq_self_eq_true]
  refine if_f ?_
  refine q_add ?_
  rw [wrapS (by omega)]
  exact hR (j + 1) _ _ ⟨rfl, by omega, ex.trans e1⟩ (by omega)

theorem k228 {b b' : Nat} {l1 l2 : List Int} {p : Bool} {m1 m2 m3 m4 m5 n1 n2 n3 n4 n5 : Nat} {v1 v2 v3 v4 v5 u1 u2 u3 u4 u5 : Value} (h1 : NC b l1 l2 p m1 m2 m3 m4 m5 v1 v2 v3 v4 v5 w) (h2 : NC b' l1 l2 p n1 n2 n3 n4 n5 u1 u2 u3 u4 u5 w) (h : ∀ w', Ex w w' → K (.bool true) w') : CK Pr 228 #[.pointer (some ⟨b, 0, none⟩), .pointer (some ⟨b', 0, none⟩)] w K := by
  refine c228 ?_
  unfold t228
  refine dr_rule No [] fun w1 e1 z1 => ?_
  have g1 := h1.ex e1
  have g2 := h2.ex e1
  have hb := g1.bk
  have hb' := g2.bk
  obtain ⟨c5, rfl, hc5⟩ := g1.n5
  obtain ⟨d5, rfl, hd5⟩ := g2.n5
  (repeat (first | (refine go ?_; intros) | (refine gon ?_; intros)))
  refine cl_fn (k289 g1.n1.sl g2.n1.sl fun w2 e2 => ⟨e2, ?_⟩)
  (repeat (first | (refine go ?_; intros) | (refine gon ?_; intros)))
  refine cl_fn (k289 (g1.ex e2).n2.sl (g2.ex e2).n2.sl fun w3 e3 => ⟨e2.trans e3, ?_⟩)
  (repeat (first | (refine go ?_; intros) | (refine gon ?_; intros)))
  refine cl_fn (k289 (g1.ex (e2.trans e3)).n3.sl (g2.ex (e2.trans e3)).n3.sl fun w4 e4 => ⟨(e2.trans e3).trans e4, ?_⟩)
  (repeat (first | (refine go ?_; intros) | (refine gon ?_; intros)))
  refine cl_fn (k289 (g1.ex ((e2.trans e3).trans e4)).n4.sl (g2.ex ((e2.trans e3).trans e4)).n4.sl fun w5 e5 => ⟨((e2.trans e3).trans e4).trans e5, ?_⟩)
  have E5 : Ex w1 w5 := ((e2.trans e3).trans e4).trans e5
  (repeat (first | (refine go ?_; intros) | (refine gon ?_; intros)))
  refine cl_fn (k156 (g1.ex E5).pc ⟨E5, ?_⟩)
  (repeat (first | (refine go ?_; intros) | (refine gon ?_; intros)))
  refine cl_fn (k156 (g2.ex E5).pc ⟨E5, ?_⟩)
  (repeat (first | (refine go ?_; intros) | (refine gon ?_; intros)))
  rw [beq_self_eq_true]
  (repeat (first | (refine go ?_; intros) | (refine gon ?_; intros)))
  exact h w5 (e1.trans E5)

set_option maxHeartbeats 1000000 in
theorem k159 {a0 a1 : Value} {c d : Cf} (hc : PC a0 c w) (hd : PC a1 d w) (pv : d.v.Perm c.v) (pl : d.l.Perm c.l) (ho : c.o = []) (hn : c.n = []) (ho' : d.o = []) (hn' : d.n = []) (ha : d.a = c.a) (l9 : c.v.length ≤ 12) (l4 : c.l.length ≤ 12)
    (h : ∀ w', Ex w w' → K .nilIface w') : CK Pr 159 #[a0, a1] w K := by
  refine c159 ?_
  unfold t159
  have hc' := hc
  have hd' := hd
  obtain ⟨b0, _, _, _, _, _, rfl, _⟩ := hc'
  obtain ⟨b1, _, _, _, _, _, rfl, _⟩ := hd'
  (repeat (first | (refine go ?_; intros) | (refine gon ?_; intros)))
  unfold t159_1
  have sc : CfSm c := ⟨by omega, by omega, by rw [ho]; simp, by rw [hn]; simp⟩
  have sd : CfSm d := ⟨by rw [pv.length_eq]; omega, by rw [pl.length_eq]; omega, by rw [ho']; simp, by rw [hn']; simp⟩
  refine cl_fn (k226o hc sc ho hn fun bA m2 m3 m4 m5 v1 v2 v3 v4 v5 w1 e1 hbA hm5 A0 => ?_)
  refine cl_fn (k226o (hd.ex e1) sd ho' hn' fun bB n2 n3 n4 n5 u1 u2 u3 u4 u5 w2 e2 hbB hn5 B0 => ?_)
  have A2 := A0.ex e2
  rw [ha] at B0
  have hAl := A0.bk.lt
  have hBl := B0.bk.lt
  have q1 := B0.h1
  have q2 := B0.h2
  have q3 := B0.h3
  have q4 := B0.h4
  obtain ⟨m1, hm1⟩ : ∃ m, m = w.heap.size := ⟨_, rfl⟩
  obtain ⟨n1, hn1⟩ : ∃ m, m = w1.heap.size := ⟨_, rfl⟩
  rw [← hm1] at A2
  rw [← hn1] at B0
  generalize hp : c.a = p at A2 B0
  refine e_bs2 rfl rfl fun w3 e3 own3 z3 => ?_
  refine q_lenSl own3.sl ?_
  have zz1 := e1.size
  have zz2 := e2.size
  have A3 := A2.ex e3
  have B3 := B0.ex e3
  have E3 : Ex w w3 := (e1.trans e2).trans e3
  clear A2 A0 B0
  refine loop_n (α := Nat) (fun j τ w' => g τ 2 = .int .i64 j ∧ j ≤ 2 ∧ Ex w w' ∧ Sl w' (some 102) 1 (.slice (some ⟨w2.heap.size, 0, none⟩) 2 2) [[.pointer (some ⟨bA, 0, none⟩)], [.pointer (some ⟨bB, 0, none⟩)]] ∧ ∃ l1 l2 r1 r2 v5 u5, NC bA l1 l2 p m1 m2 m3 m4 m5 v1 v2 v3 v4 v5 w' ∧ NC bB r1 r2 p n1 n2 n3 n4 n5 u1 u2 u3 u4 u5 w' ∧ l1.Perm c.v ∧ l2.Perm c.l ∧ r1.Perm c.v ∧ r2.Perm c.l ∧ (1 ≤ j → OrdP l1.length l1 ∧ OrdP l2.length l2) ∧ (2 ≤ j → OrdP r1.length r1 ∧ OrdP r2.length r2)) (fun j => 2 - j) 0
    ⟨rfl, by omega, E3, own3.sl, _, _, _, _, _, _, A3, B3, .refl _, .refl _, pv, pl, fun h => by omega, fun h => by omega⟩ ?_
  clear A3 B3
  rintro j τ w3 R ⟨hj, hle, ex, hs, l1, l2, r1, r2, v5, u5, A, B, pA1, pA2, pB1, pB2, oA, oB⟩ hR
  rw [hj]
  have zx := ex.size
  have hj2 : j = 0 ∨ j = 1 ∨ j = 2 := by omega
  rcases hj2 with rfl | rfl | rfl
  · (repeat (first | (refine go ?_; intros) | (refine gon ?_; intros)))
    have l12 : l1.length ≤ 12 := by rw [pA1.length_eq]; exact l9
    have l22 : l2.length ≤ 12 := by rw [pA2.length_eq]; exact l4
    refine q_ixs (x := .pointer (some ⟨bA, 0, none⟩)) 0 hs rfl rfl fun _ => ?_
    have hb := A.bk
    (repeat (first | (refine go ?_; intros) | (refine gon ?_; intros)))
    refine cl_fn (k227 (o := 0) hb rfl A.n1 l12 fun wa la sa oa => ?_)
    have Ua : Up (sb v1) [24] w3 wa := sa.1
    replace hb := Ua.at_ hb rfl
    (repeat (first | (refine go ?_; intros) | (refine gon ?_; intros)))
    refine cl_fn (k227 (o := 1) hb rfl (A.n2.up Ua (.inr fun x hx hc => by have := A.s1 x hc; have := A.s2 x hx; omega)) l22 fun wb lb sb' ob => ?_)
    have Ub : Up (sb v2) [24] wa wb := sb'.1
    replace hb := Ub.at_ hb rfl
    (repeat (first | (refine go ?_; intros) | (refine gon ?_; intros)))
    refine cl_fn (k227 (o := 2) (l := []) hb rfl A.n3.nil_any (by simp) fun wc lc sc oc => ?_)
    have Uc : Up (sb v3) [24] wb wc := sc.1
    replace hb := Uc.at_ hb rfl
    (repeat (first | (refine go ?_; intros) | (refine gon ?_; intros)))
    refine cl_fn (k227 (o := 3) (l := []) hb rfl A.n4.nil_any (by simp) fun wd ld sd od => ?_)
    have Ud : Up (sb v4) [24] wc wd := sd.1
    replace hb := Ud.at_ hb rfl
    have g1 := A.h1
    have g2 := A.h2
    have g3 := A.h3
    have g4 := A.h4
    have U : Up (fun x => m1 ≤ x ∧ x < m5) [24] w3 wd := (((Ua.mono (fun x _ hx => by have := A.s1 x hx; omega) (fun _ h => h)).trans (Ub.mono (fun x _ hx => by have := A.s2 x hx; omega) (fun _ h => h))).trans (Uc.mono (fun x _ hx => by have := A.s3 x hx; omega) (fun _ h => h))).trans (Ud.mono (fun x _ hx => by have := A.s4 x hx; omega) (fun _ h => h))
    have Nd1 : Nm 22 v1 la wd := ((sa.nm.up Ub (.inr fun x hx hc => by have := A.s1 x hx; have := A.s2 x hc; omega)).up Uc (.inr fun x hx hc => by have := A.s1 x hx; have := A.s3 x hc; omega)).up Ud (.inr fun x hx hc => by have := A.s1 x hx; have := A.s4 x hc; omega)
    have Nd2 : Nm 22 v2 lb wd := (sb'.nm.up Uc (.inr fun x hx hc => by have := A.s2 x hx; have := A.s3 x hc; omega)).up Ud (.inr fun x hx hc => by have := A.s2 x hx; have := A.s4 x hc; omega)
    have Nd5 : PB1 v5 p wd := by
      obtain ⟨q, q1, q2⟩ := A.n5
      exact ⟨q, q1, U.at_ q2 rfl⟩
    have Cd : NC bA la lb p m1 m2 m3 m4 m5 v1 v2 v3 v4 v5 wd := ⟨hb, Nd1, Nd2, A.n3.nil_any, A.n4.nil_any, Nd5, A.s1, A.s2, A.s3, A.s4, A.o1, A.o2, A.o3, A.o4, g1, g2, g3, g4⟩
    refine cl_fn (k156 Cd.pc ?_)
    (repeat (first | (refine go ?_; intros) | (refine gon ?_; intros)))
    rename_i ab we ee hab se1 se2 wf uf hbf zf
    replace hb := uf.at_ (ee.at_ hb) rfl
    have Ef : Ex wd wf := ee.new uf (by intro x hx; omega)
    clear hab
    (repeat (first | (refine go ?_; intros) | (refine gon ?_; intros)))
    rename_i wg ug hbg zg
    have O1 := A.o1
    have O2 := A.o2
    have O3 := A.o3
    have O4 := A.o4
    have Cf := Cd.ex Ef
    have Nf1 := Cf.n1.up ug (.inl rfl)
    have Nf2 := Cf.n2.up ug (.inl rfl)
    have Cg : NC bA la lb p m1 m2 m3 m4 m5 v1 v2 v3 v4 (.pointer (some ⟨ab, 0, none⟩)) wg := ⟨hbg, Nf1, Nf2, A.n3.nil_any, A.n4.nil_any, ⟨ab, rfl, ug.at_ hbf rfl⟩, A.s1, A.s2, A.s3, A.s4, A.o1, A.o2, A.o3, A.o4, g1, g2, g3, g4⟩
    rw [wrapS (by omega)]
    have Uall : Up (fun x => m1 ≤ x ∧ x < m5 ∨ x = bA) [24, 202] w3 wg := ((U.mono (fun _ _ h => .inl h) (fun k hk => by simp at hk; simp [hk])).ex Ef).trans (ug.mono (fun _ _ h => .inr h) (fun k hk => by simp at hk; simp [hk]))
    refine hR 1 _ _ ⟨rfl, by omega, ex.new Uall (fun x hx => by rcases hx with hx | hx <;> omega), hs.typ Uall rfl, la, lb, r1, r2, _, u5, Cg, B.up Uall (.inr (by rintro (hh | hh) <;> omega)) (.inr fun x hx1 hx2 hh => by rcases hh with hh | hh <;> omega) rfl, sa.2.2.1.trans pA1, sb'.2.2.1.trans pA2, pB1, pB2, fun _ => ⟨by rw [sa.len]; exact oa, by rw [sb'.len]; exact ob⟩, fun h => by omega⟩ (by omega)
  · (repeat (first | (refine go ?_; intros) | (refine gon ?_; intros)))
    have l12 : r1.length ≤ 12 := by rw [pB1.length_eq]; exact l9
    have l22 : r2.length ≤ 12 := by rw [pB2.length_eq]; exact l4
    refine q_ixs (x := .pointer (some ⟨bB, 0, none⟩)) 1 hs rfl rfl fun _ => ?_
    have hb := B.bk
    (repeat (first | (refine go ?_; intros) | (refine gon ?_; intros)))
    refine cl_fn (k227 (o := 0) hb rfl B.n1 l12 fun wa la sa oa => ?_)
    have Ua : Up (sb u1) [24] w3 wa := sa.1
    replace hb := Ua.at_ hb rfl
    (repeat (first | (refine go ?_; intros) | (refine gon ?_; intros)))
    refine cl_fn (k227 (o := 1) hb rfl (B.n2.up Ua (.inr fun x hx hc => by have := B.s1 x hc; have := B.s2 x hx; omega)) l22 fun wb lb sb' ob => ?_)
    have Ub : Up (sb u2) [24] wa wb := sb'.1
    replace hb := Ub.at_ hb rfl
    (repeat (first | (refine go ?_; intros) | (refine gon ?_; intros)))
    refine cl_fn (k227 (o := 2) (l := []) hb rfl B.n3.nil_any (by simp) fun wc lc sc oc => ?_)
    have Uc : Up (sb u3) [24] wb wc := sc.1
    replace hb := Uc.at_ hb rfl
    (repeat (first | (refine go ?_; intros) | (refine gon ?_; intros)))
    refine cl_fn (k227 (o := 3) (l := []) hb rfl B.n4.nil_any (by simp) fun wd ld sd od => ?_)
    have Ud : Up (sb u4) [24] wc wd := sd.1
    replace hb := Ud.at_ hb rfl
    have g1 := B.h1
    have g2 := B.h2
    have g3 := B.h3
    have g4 := B.h4
    have U : Up (fun x => n1 ≤ x ∧ x < n5) [24] w3 wd := (((Ua.mono (fun x _ hx => by have := B.s1 x hx; omega) (fun _ h => h)).trans (Ub.mono (fun x _ hx => by have := B.s2 x hx; omega) (fun _ h => h))).trans (Uc.mono (fun x _ hx => by have := B.s3 x hx; omega) (fun _ h => h))).trans (Ud.mono (fun x _ hx => by have := B.s4 x hx; omega) (fun _ h => h))
    have Nd1 : Nm 22 u1 la wd := ((sa.nm.up Ub (.inr fun x hx hc => by have := B.s1 x hx; have := B.s2 x hc; omega)).up Uc (.inr fun x hx hc => by have := B.s1 x hx; have := B.s3 x hc; omega)).up Ud (.inr fun x hx hc => by have := B.s1 x hx; have := B.s4 x hc; omega)
    have Nd2 : Nm 22 u2 lb wd := (sb'.nm.up Uc (.inr fun x hx hc => by have := B.s2 x hx; have := B.s3 x hc; omega)).up Ud (.inr fun x hx hc => by have := B.s2 x hx; have := B.s4 x hc; omega)
    have Nd5 : PB1 u5 p wd := by
      obtain ⟨q, q1, q2⟩ := B.n5
      exact ⟨q, q1, U.at_ q2 rfl⟩
    have Cd : NC bB la lb p n1 n2 n3 n4 n5 u1 u2 u3 u4 u5 wd := ⟨hb, Nd1, Nd2, B.n3.nil_any, B.n4.nil_any, Nd5, B.s1, B.s2, B.s3, B.s4, B.o1, B.o2, B.o3, B.o4, g1, g2, g3, g4⟩
    refine cl_fn (k156 Cd.pc ?_)
    (repeat (first | (refine go ?_; intros) | (refine gon ?_; intros)))
    rename_i ab we ee hab se1 se2 wf uf hbf zf
    replace hb := uf.at_ (ee.at_ hb) rfl
    have Ef : Ex wd wf := ee.new uf (by intro x hx; omega)
    clear hab
    (repeat (first | (refine go ?_; intros) | (refine gon ?_; intros)))
    rename_i wg ug hbg zg
    have O1 := B.o1
    have O2 := B.o2
    have O3 := B.o3
    have O4 := B.o4
    have Cf := Cd.ex Ef
    have Nf1 := Cf.n1.up ug (.inl rfl)
    have Nf2 := Cf.n2.up ug (.inl rfl)
    have Cg : NC bB la lb p n1 n2 n3 n4 n5 u1 u2 u3 u4 (.pointer (some ⟨ab, 0, none⟩)) wg := ⟨hbg, Nf1, Nf2, B.n3.nil_any, B.n4.nil_any, ⟨ab, rfl, ug.at_ hbf rfl⟩, B.s1, B.s2, B.s3, B.s4, B.o1, B.o2, B.o3, B.o4, g1, g2, g3, g4⟩
    rw [wrapS (by omega)]
    have Uall : Up (fun x => n1 ≤ x ∧ x < n5 ∨ x = bB) [24, 202] w3 wg := ((U.mono (fun _ _ h => .inl h) (fun k hk => by simp at hk; simp [hk])).ex Ef).trans (ug.mono (fun _ _ h => .inr h) (fun k hk => by simp at hk; simp [hk]))
    refine hR 2 _ _ ⟨rfl, by omega, ex.new Uall (fun x hx => by rcases hx with hx | hx <;> omega), hs.typ Uall rfl, l1, l2, la, lb, v5, _, A.up Uall (.inr (by rintro (hh | hh) <;> omega)) (.inr fun x hx1 hx2 hh => by rcases hh with hh | hh <;> omega) rfl, Cg, pA1, pA2, sa.2.2.1.trans pB1, sb'.2.2.1.trans pB2, fun _ => oA (by omega), fun _ => ⟨by rw [sa.len]; exact oa, by rw [sb'.len]; exact ob⟩⟩ (by omega)
  · (repeat (first | (refine go ?_; intros) | (refine gon ?_; intros)))
    obtain ⟨o1, o2⟩ := oA (by omega)
    obtain ⟨o3, o4⟩ := oB (by omega)
    have e1 : r1 = l1 := ord_eq (pB1.trans pA1.symm) o3 o1
    have e2 : r2 = l2 := ord_eq (pB2.trans pA2.symm) o4 o2
    subst e1
    subst e2
    refine cl_fn (k228 A B fun w4 e4 => ?_)
    (repeat (first | (refine go ?_; intros) | (refine gon ?_; intros)))
    exact h w4 (ex.trans e4)

theorem k105 {a0 a1 : Value} {c d : Cf} (hc : PC a0 c w) (hd : PC a1 d w) (pv : d.v.Perm c.v) (pl : d.l.Perm c.l) (ho : c.o = []) (hn : c.n = []) (ho' : d.o = []) (hn' : d.n = []) (ha : d.a = c.a) (l9 : c.v.length ≤ 12) (l4 : c.l.length ≤ 12)
    (h : ∀ w', Ex w w' → K (.tuple #[]) w') : CK Pr 105 #[a0, a1] w K := by
  refine c105 ?_
  unfold t105
  refine cl_fn (k159 hc hd pv pl ho hn ho' hn' ha l9 l4 fun w1 e1 => ?_)
  (repeat (first | (refine go ?_; intros) | (refine gon ?_; intros)))
  exact h w1 e1

end Go.Proofs.YtmmpogfbhelioaaGreat
/-
  Contracts: the term of an entry of the log; the commit; the log out of a snapshot.
  Conditions: each one's own.
-/
namespace Go.Proofs.YtmmpogfbhelioaaGreat
set_option maxRecDepth 10000
set_option linter.unusedVariables false
set_option linter.unusedSimpArgs false
attribute [local irreducible] Instr.box Instr.alloc Instr.loadAt Instr.storeAt Instr.fieldAt Instr.indexAt Instr.build Instr.buildSlice Instr.makeSlice Instr.makeMap Instr.mapUpdate Instr.lookup Instr.range Instr.next Instr.entry Instr.extract Instr.makeInterface Instr.makeFunc Instr.sliceAt Instr.typeAssert Instr.field Instr.index Builtin.len_ Builtin.cap_ Builtin.max_ Builtin.min_ Builtin.append_ Builtin.copy_ Builtin.delete_ convert binS pickS nilS callV callM Op.unary Own Mp It Cu

variable {K : Value → World → Prop} {w : World} {te : Option Nat}

/-- A log without a snapshot that is not stable, whose entries stand one behind the other. -/
structure Lg.Pl (L : Lg) (e : En) (r : List En) : Prop where
  es : L.es = e :: r
  us : L.us = none
  off : L.off = e.i + r.length + 1

theorem Lg.Pl.last {L : Lg} {e : En} {r : List En} (p : L.Pl e r) : L.last = e.i + r.length + L.un.length := by
  unfold Lg.last
  rw [p.us, p.es, p.off]
  cases L.un with
  | nil => simp
  | cons x l => simp only [List.length_cons]; omega

/-- The term of the entry at an index, if there is one. -/
def Lg.at (L : Lg) (e : En) (r : List En) (i : Int) : Option Int := if i < e.i then none else (((e :: r) ++ L.un)[(i - e.i).toNat]?).map (·.t)

theorem k262 {base lb : Nat} {L : Lg} (hL : LG base lb L w) (hu : L.us = none) (h : K (.tuple #[.int .u64 0, .bool false]) w) : CK Pr 262 #[.pointer (some ⟨lb, 1, none⟩)] w K := by
  refine c262 ?_
  unfold t262
  obtain ⟨lim, vs, ve, ps, h1, h2, h3, h4, h5, h6, h7, h8, h9, h10⟩ := hL
  rw [hu] at h5
  cases (show vs = .pointer none from h5)
  (repeat (first | (refine go ?_; intros) | (refine goK11 ?_; intros)))
  exact h

theorem k192 {base lb : Nat} {L : Lg} {e : En} {r : List En} (hL : LG base lb L w) (hok : L.Ok) (p : L.Pl e r)
    (h : ∀ w', Up (fun x => x = L.sb) [227] w w' → w'.heap.size = w.heap.size → LG base lb L w' → K (.int .u64 (e.i + 1)) w') : CK Pr 192 #[.pointer (some ⟨lb, 0, none⟩)] w K := by
  refine c192 ?_
  unfold t192
  (repeat (first | (refine go ?_; intros) | (refine goK11 ?_; intros)))
  refine cl_fn (k262 hL p.us ?_)
  obtain ⟨⟨e', r', he, hi⟩, hlen, _, _, _⟩ := hok
  have hee := p.es
  rw [hee] at he
  cases he
  obtain ⟨lim, vs, ve, ps, h1, h2, h3, h4, h5, h6, h7, h8, h9, h10⟩ := hL
  (repeat (first | (refine go ?_; intros) | (refine goK11 ?_; intros)))
  refine cl_m (k351 (hee ▸ h2) hi fun w1 u1 z1 m1 => ?_)
  (repeat (first | (refine go ?_; intros) | (refine goK11 ?_; intros)))
  have hL1 : LG base lb L w1 := ⟨lim, vs, ve, ps, u1.at_ h1 rfl, by rw [hee]; exact m1, h3, by omega, h5.mt rfl u1, h6.up u1 fun _ _ => .inl rfl, h7.mt rfl u1, h8, h9, by omega⟩
  exact h w1 u1 z1 hL1

theorem k214 {base lb : Nat} {L : Lg} {i : Int} (hL : LG base lb L w) (hok : L.Ok) (hu : L.us = none) (hi : 0 ≤ i ∧ i ≤ 2000000000000000)
    (h : ∀ w', Ex w w' → w'.heap.size = w.heap.size → (i < L.off ∨ L.off + L.un.length ≤ i) → K (.tuple #[.int .u64 0, .bool false]) w')
    (h' : ∀ w' (j : Nat) e, Ex w w' → w'.heap.size = w.heap.size → i = L.off + j → L.un[j]? = some e → K (.tuple #[.int .u64 e.t, .bool true]) w') : CK Pr 214 #[.pointer (some ⟨lb, 1, none⟩), .int .u64 i] w K := by
  refine c214 ?_
  unfold t214
  have hL0 := hL
  have hoff := hok.off
  have hun := hok.un
  obtain ⟨lim, vs, ve, ps, h1, h2, h3, h4, h5, h6, h7, h8, h9, h10⟩ := hL
  rw [hu] at h5
  cases (show vs = .pointer none from h5)
  (repeat (first | (refine go ?_; intros) | (refine goK11 ?_; intros)))
  refine if_split (fun hb => ?_) (fun hb => ?_)
  · (repeat (first | (refine go ?_; intros) | (refine goK11 ?_; intros)))
    exact h _ (.refl _ _ _) rfl (.inl (of_decide_eq_true hb))
  · have hge : ¬ i < L.off := of_decide_eq_false hb
    refine cl_fn (k158 hL0 hok ?_)
    cases hun' : L.un with
    | nil =>
      rw [hu]
      (repeat (first | (refine go ?_; intros) | (refine goK11 ?_; intros)))
      exact h _ (.refl _ _ _) rfl (.inr (by rw [hun']; simp; omega))
    | cons x l =>
      have hlast : L.last = L.off + L.un.length - 1 := by unfold Lg.last; rw [hun']
      rw [hun'] at hun
      rw [hun'] at hlast
      (repeat (first | (refine go ?_; intros) | (refine goK11 ?_; intros)))
      refine if_split (fun hb => ?_) (fun hb => ?_)
      · have := of_decide_eq_true hb
        exact h _ (.refl _ _ _) rfl (.inr (by rw [hun']; omega))
      · have hle : ¬ L.last < i := of_decide_eq_false hb
        refine dr_rule No [] fun w1 e1 z1 => ?_
        have hb1 := e1.at_ h1
        have hlp := h7.len
        rw [hun'] at hlp
        (repeat (first | (refine go ?_; intros) | (refine goK11 ?_; intros)))
        have hw : IntKind.u64.wrap (i - L.off) = (((i - L.off).toNat : Nat) : Int) := by rw [wrapU (by omega) (by omega)]; omega
        rw [hw]
        have hjl : (i - L.off).toNat < ps.length := by omega
        obtain ⟨v, hv⟩ : ∃ v, ps[(i - L.off).toNat]? = some v := ⟨_, List.getElem?_eq_getElem hjl⟩
        obtain ⟨e, he, hpe⟩ := h7.get hv
        refine q_ixsU (x := v) (i - L.off).toNat (h6.sl.ex e1) rfl rfl (by simp [ones, hv]) fun _ => ?_
        refine cl_fn (k128 (hpe.ex e1) ⟨.refl _ _ _, ?_⟩)
        exact h' w1 _ e e1 z1 (by omega) he

theorem k148 {base lb : Nat} {L : Lg} {e : En} {r : List En} {i : Int} (hL : LG base lb L w) (hok : L.Ok) (p : L.Pl e r) (hi : 0 ≤ i ∧ i ≤ 2000000000000000)
    (h : ∀ w', Up (fun x => x = L.sb) [227] w w' → w'.heap.size = w.heap.size → LG base lb L w' → (∀ v, L.at e r i = none → K (.tuple #[.int .u64 0, .iface 226 v]) w') ∧ (∀ t, L.at e r i = some t → K (.tuple #[.int .u64 t, .nilIface]) w')) : CK Pr 148 #[.pointer (some ⟨lb, 0, none⟩), .int .u64 i] w K := by
  refine c148 ?_
  unfold t148
  have hoff := hok.off
  have hun := hok.un
  have hpo := p.off
  have hlen := hok.len
  obtain ⟨e', r', he', hei⟩ := hok.ne
  rw [p.es] at he'
  cases he'
  rw [p.es] at hlen
  simp only [List.length_cons] at hlen
  (repeat (first | (refine go ?_; intros) | (refine goK11 ?_; intros)))
  refine cl_fn (k214 hL hok p.us hi (fun w1 e1 z1 hr => ?_) (fun w1 j x e1 z1 hj hx => ?_))
  · (repeat (first | (refine go ?_; intros) | (refine goK11 ?_; intros)))
    have hL1 := hL.ex e1
    rw [wrapU (n := i + 1) (by omega) (by omega)]
    refine cl_fn (k192 hL1 hok p fun w2 u2 z2 hL2 => ?_)
    (repeat (first | (refine go ?_; intros) | (refine goK11 ?_; intros)))
    have U2 : Up (fun x => x = L.sb) [227] w w2 := (Up.of_ex e1).trans u2
    refine if_split (fun hb => ?_) (fun hb => ?_)
    · have hlt : i + 1 < e.i + 1 := of_decide_eq_true hb
      refine q_mif (by intro ms h; cases h) ?_
      refine (h w2 U2 (by omega) hL2).1 _ ?_
      unfold Lg.at
      rw [if_pos (by omega)]
    · have hlt : ¬ i + 1 < e.i + 1 := of_decide_eq_false hb
      refine cl_fn (k104 hL2 hok fun w3 u3 z3 hL3 => ?_)
      have U3 := U2.trans u3
      (repeat (first | (refine go ?_; intros) | (refine goK11 ?_; intros)))
      rw [p.last]
      refine if_split (fun hb => ?_) (fun hb => ?_)
      · have hgt : e.i + r.length + L.un.length < i := of_decide_eq_true hb
        refine q_mif (by intro ms h; cases h) ?_
        refine (h w3 U3 (by omega) hL3).1 _ ?_
        unfold Lg.at
        rw [if_neg (by omega), List.getElem?_eq_none (by simp; omega)]
        rfl
      · have hgt : ¬ e.i + r.length + L.un.length < i := of_decide_eq_false hb
        have hlo : i < L.off := by rcases hr with hr | hr <;> omega
        have hL3' := hL3
        obtain ⟨lim, vs, ve, ps, h1, h2, h3, h4, h5, h6, h7, h8, h9, h10⟩ := hL3'
        have hj : (i - e.i).toNat < (e :: r).length := by simp; omega
        obtain ⟨x, hx⟩ : ∃ x, (e :: r)[(i - e.i).toNat]? = some x := ⟨_, List.getElem?_eq_getElem hj⟩
        (repeat (first | (refine go ?_; intros) | (refine goK11 ?_; intros)))
        refine cl_m (k354 (x := x) (j := (i - e.i).toNat) (p.es ▸ h2) hei (by omega) (by omega) hx fun w4 u4 z4 m4 => ?_)
        (repeat (first | (refine go ?_; intros) | (refine goK11 ?_; intros)))
        have hL4 : LG base lb L w4 := ⟨lim, vs, ve, ps, u4.at_ h1 rfl, by rw [p.es]; exact m4, h3, by omega, h5.mt rfl u4, h6.up u4 fun _ _ => .inl rfl, h7.mt rfl u4, h8, h9, by omega⟩
        refine (h w4 (U3.trans u4) (by omega) hL4).2 _ ?_
        unfold Lg.at
        rw [if_neg (by omega), List.getElem?_append_left hj, hx]
        rfl
  · (repeat (first | (refine go ?_; intros) | (refine goK11 ?_; intros)))
    refine (h w1 (.of_ex e1) z1 (hL.ex e1)).2 _ ?_
    unfold Lg.at
    have hje : (i - e.i).toNat = (e :: r).length + j := by simp; omega
    rw [if_neg (by omega), hje, List.getElem?_append_right (by omega), Nat.add_sub_cancel_left, hx]
    rfl

theorem k100 {base lb : Nat} {L : Lg} {e : En} {r : List En} {i t : Int} (hL : LG base lb L w) (hok : L.Ok) (p : L.Pl e r) (hi : 0 ≤ i ∧ i ≤ 2000000000000000)
    (h : ∀ w', Up (fun x => x = L.sb) [227] w w' → LG base lb L w' → K (.bool (decide (L.at e r i = some t))) w') : CK Pr 100 #[.pointer (some ⟨lb, 0, none⟩), .agg #[.int .u64 t, .int .u64 i]] w K := by
  refine c100 ?_
  unfold t100
  refine e_boxA fun b1 w1 e1 hb1 s1 s2 => ?_
  (repeat (first | (refine go ?_; intros) | (refine goK11 ?_; intros)))
  refine cl_fn (k148 (hL.ex e1) hok p hi fun w2 u2 z2 hL2 => ⟨fun v hn => ?_, fun t' hs => ?_⟩)
  · have := h w2 ((Up.of_ex e1).trans u2) hL2
    rw [hn] at this
    (repeat (first | (refine go ?_; intros) | (refine goK11 ?_; intros)))
    exact this
  · have := h w2 ((Up.of_ex e1).trans u2) hL2
    rw [hs] at this
    have hb2 := u2.at_ hb1 rfl
    (repeat (first | (refine go ?_; intros) | (refine goK11 ?_; intros)))
    have e2 : (t' == t) = decide ((some t' : Option Int) = some t) := by
      by_cases hh : t' = t <;> simp [hh]
    rw [e2]
    exact this

theorem k101 {base lb : Nat} {L : Lg} {i : Int} (hL : LG base lb L w) (hok : L.Ok) (hi : i ≤ L.last)
    (h : ∀ w', Up (fun x => x = L.sb ∨ x = lb) [227, 198] w w' → LG base lb { L with cm := if L.cm < i then i else L.cm } w' → K (.tuple #[]) w') : CK Pr 101 #[.pointer (some ⟨lb, 0, none⟩), .int .u64 i] w K := by
  refine c101 ?_
  unfold t101
  unfold Jo
  have hL' := hL
  obtain ⟨lim, vs, ve, ps, h1, h2, h3, h4, h5, h6, h7, h8, h9, h10⟩ := hL'
  (repeat (first | (refine go ?_; intros) | (refine goK11 ?_; intros)))
  by_cases hc : L.cm < i
  · rw [decide_eq_true hc]
    (repeat (first | (refine go ?_; intros) | (refine goK11 ?_; intros)))
    refine cl_fn (k104 hL hok fun w1 u1 z1 hL1 => ?_)
    obtain ⟨lim, vs, ve, ps, h1, h2, h3, h4, h5, h6, h7, h8, h9, h10⟩ := hL1
    (repeat (first | (refine go ?_; intros) | (refine goK11 ?_; intros)))
    rw [decide_eq_false (show ¬ L.last < i by omega)]
    (repeat (first | (refine go ?_; intros) | (refine goK11 ?_; intros)))
    rename_i w2 u2 hb2 z2
    refine h w2 ((u1.mono (fun _ _ h => .inl h) (fun k hk => by simp at hk; simp [hk])).trans (u2.mono (fun _ _ h => .inr h) (fun k hk => by simp at hk; simp [hk]))) ?_
    rw [if_pos hc]
    exact ⟨lim, vs, ve, ps, hb2, h2.up rfl u2 (.inl rfl) (.inl rfl), h3, by omega, h5.mt rfl u2, h6.up u2 fun _ _ => .inl rfl, h7.mt rfl u2, h8, h9, by show L.sb < _; omega⟩
  · rw [decide_eq_false hc]
    (repeat (first | (refine go ?_; intros) | (refine goK11 ?_; intros)))
    have := h w (.refl _ _ _)
    rw [if_neg hc] at this
    exact this hL

theorem k149 {base lb : Nat} {L : Lg} {v : Value} {s : Sn} (hL : LG base lb L w) (hs : PS v s w) (hi : 0 ≤ s.i ∧ s.i ≤ 1000000000000000) (hd : s.d.size ≤ 1000000) (sm : CfSm s.c)
    (h : ∀ w', Up (fun x => x = lb) [198] w w' → LG base lb { L with us := some s, un := [], off := s.i + 1, sip := false, oip := s.i + 1 } w' → K (.tuple #[]) w') : CK Pr 149 #[.pointer (some ⟨lb, 1, none⟩), v] w K := by
  refine c149 ?_
  unfold t149
  obtain ⟨lim, vs, ve, ps, h1, h2, h3, h4, h5, h6, h7, h8, h9, h10⟩ := hL
  refine cl_fn (k95 hs fun vm hvm => ?_)
  refine cl_fn (k96 hvm ?_)
  (repeat (first | (refine go ?_; intros) | (refine goK11 ?_; intros)))
  rename_i w1 u1 hb1 z1 w2 u2 hb2 z2 w3 u3 hb3 z3
  have U3 : Up (fun x => x = lb) [198] w w3 := (u1.trans u2).trans u3
  rw [wrapU (n := s.i + 1) (by omega) (by omega)] at hb3
  clear hb1 hb2 h1
  refine cl_fn (k122 (hs.mt rfl U3) hd sm fun v4 w4 e4 hs4 => ?_)
  have hb4 := e4.at_ hb3
  have hv4 := hs4.one
  clear hb3
  (repeat (first | (refine go ?_; intros) | (refine goK11 ?_; intros)))
  rename_i w5 u5 hb5 z5 w6 u6 hb6 z6
  have U56 : Up (fun x => x = lb) [198] w4 w6 := u5.trans u6
  have U : Up (fun x => x = lb) [198] w w6 := (U3.ex e4).trans U56
  have zz4 := e4.size
  refine h w6 U ⟨lim, v4, .slice none 0 0, [], hb6, h2.up rfl U (.inl rfl) (.inl rfl), h3, by omega, hs4.mt rfl U56, Own.nil _ _ _ _, .nil _, h8, h9, by show L.sb < _; omega⟩

theorem k102 {base lb : Nat} {L : Lg} {v : Value} {s : Sn} (hL : LG base lb L w) (hs : PS v s w) (hi : 0 ≤ s.i ∧ s.i ≤ 1000000000000000) (hd : s.d.size ≤ 1000000) (sm : CfSm s.c)
    (h : ∀ w', Up (fun x => x = lb) [198] w w' → LG base lb { L with us := some s, un := [], off := s.i + 1, sip := false, oip := s.i + 1, cm := s.i } w' → K (.tuple #[]) w') : CK Pr 102 #[.pointer (some ⟨lb, 0, none⟩), v] w K := by
  refine c102 ?_
  unfold t102
  obtain ⟨lim, vs, ve, ps, h1, h2, h3, h4, h5, h6, h7, h8, h9, h10⟩ := hL
  refine cl_fn (k95 hs fun vm hvm => ?_)
  refine cl_fn (k96 hvm ?_)
  (repeat (first | (refine go ?_; intros) | (refine goK11 ?_; intros)))
  rename_i w1 u1 hb1 z1
  have hL1 : LG base lb { L with cm := s.i } w1 := ⟨lim, vs, ve, ps, hb1, h2.up rfl u1 (.inl rfl) (.inl rfl), h3, by omega, h5.mt rfl u1, h6.up u1 fun _ _ => .inl rfl, h7.mt rfl u1, h8, h9, by show L.sb < _; omega⟩
  refine cl_fn (k149 hL1 (hs.mt rfl u1) hi hd sm fun w2 u2 hL2 => ?_)
  exact h w2 (u1.trans u2) hL2

end Go.Proofs.YtmmpogfbhelioaaGreat
/-
  A rule for the keys of a map in any order; contracts: configurations copied, and their parts.
  Conditions: each one's own.
-/
namespace Go.Proofs.YtmmpogfbhelioaaGreat
set_option maxRecDepth 10000
set_option linter.unusedVariables false
set_option linter.unusedSimpArgs false
attribute [local irreducible] Instr.box Instr.alloc Instr.loadAt Instr.storeAt Instr.fieldAt Instr.indexAt Instr.build Instr.buildSlice Instr.makeSlice Instr.makeMap Instr.mapUpdate Instr.lookup Instr.range Instr.next Instr.entry Instr.extract Instr.makeInterface Instr.makeFunc Instr.sliceAt Instr.typeAssert Instr.field Instr.index Builtin.len_ Builtin.cap_ Builtin.max_ Builtin.min_ Builtin.append_ Builtin.copy_ Builtin.delete_ convert binS pickS nilS callV callM Op.unary Own Mp It Cu

section
variable {P : Program} {w : World}

/-- A loop over a map's keys: I is kept; done: what was visited. -/
theorem e_for {t kt et : TypeId} [hm : TUn P t (.map kt et)] {o : Option Nat} {l : KV} {init : List Value} {F : Value → (List Value → World → Prop) → List Value → World → Prop} (hmp : MpO w o l)
    (I : KV → List Value → World → Prop) (h0 : ∀ w', Ex w w' → w'.heap.size = w.heap.size + 1 → I [] init w')
    (hF : ∀ (v : Value) R τ w1 done, w.heap.size < w1.heap.size → I done τ w1 →
      (∀ {ty : TypeId} {KW : Value → World → Prop}, (done.Perm l → KW (.tuple #[.bool false]) w1) →
        (∀ p rest w2, (done ++ p :: rest).Perm l → p ∈ l → Up (fun x => x = w.heap.size) [1] w1 w2 → w2.heap.size = w1.heap.size →
          (∀ {K : Value → Prop}, K (.tuple #[.int .u64 p.1, p.2]) → Qu P (Is w2) (Instr.entry v) K) →
          (∀ τ' w3 C T, Up C T w2 w3 → (T.contains 1 = false ∨ ¬ C w.heap.size) → (T.contains 0 = false ∨ ∀ b, o = some b → ¬ C b) → I (done ++ [p]) τ' w3 → R τ' w3) →
          KW (.tuple #[.bool true, .int .u64 p.1, p.2]) w2) → Ef P (Instr.next v false ty) w1 KW) → F v R τ w1) :
    Ef P (Instr.range t (.map o)) w fun v w1 => LoopW init (F v) w1 := by
  cases o with
  | none =>
    cases (show l = [] from hmp)
    refine e_range0 fun w1 e1 i1 s1 => ?_
    refine loop_n (α := Unit) (fun _ τ w' => w' = w1 ∧ τ = init) (fun _ => 0) () ⟨rfl, rfl⟩ ?_
    rintro _ τ w' R ⟨rfl, rfl⟩ hR
    exact hF _ _ _ _ [] (by omega) (h0 _ e1 s1) fun hend _ => e_next0 i1 (hend (.refl _))
  | some b =>
    refine e_range hmp fun w1 e1 i1 s1 => ?_
    refine loop_n (α := KV × KV) (fun a τ w' => It w' w.heap.size b l a.1 ∧ (a.2 ++ a.1).Perm l ∧ w.heap.size < w'.heap.size ∧ I a.2 τ w') (fun a => a.1.length) (l, []) ⟨i1, .refl _, by omega, h0 _ e1 s1⟩ ?_
    rintro ⟨rem, done⟩ τ w' R ⟨hi, hp, hz, hI⟩ hR
    simp only at hi hp hz hI hR
    refine hF _ _ _ _ done hz hI fun hend hgo => ?_
    refine e_next hi (fun h0' => ?_) (fun p l1 l2 w2 hrem u2 hi2 hc hpl hz2 => ?_)
    · subst h0'
      exact hend (by simpa using hp)
    · have hrl : rem.length = l1.length + l2.length + 1 := by rw [hrem]; simp; omega
      have hp2 : (done ++ p :: (l1 ++ l2)).Perm l := by
        refine List.Perm.trans ?_ hp
        simp only [hrem]
        exact List.Perm.append_left _ List.perm_middle.symm
      refine hgo p (l1 ++ l2) w2 hp2 hpl u2 hz2 (fun k => q_entry hc k) fun τ' w3 C T u3 h1 h2 hI3 => ?_
      refine hR (l1 ++ l2, done ++ [p]) τ' w3 ⟨hi2.up u3 h1 (h2.imp id fun h => h b rfl), by simpa using hp2, by have := u3.size; show w.heap.size < _; omega, hI3⟩ (by simp; omega)

theorem q_idx {t k e n : Nat} [TArr P t k e n] [TCell P e] {S : World → Prop} {K : Value → Prop} {cs : Array Value} {i : Int} {q : IntKind} (j : Nat) {x : Value} (hi : i = j) (hj : j < k) (hx : cs[j]? = some x) (kk : K x) : Qu P S (Instr.index t (.agg cs) (.int q i)) K := by
  obtain ⟨inf, hu, hinf, hn, hn0⟩ := TArr.facts (P := P) t k e n
  obtain ⟨d, i', hd, hag, hinf', hs⟩ := TCell.facts (P := P) e
  rw [hinf] at hinf'
  cases hinf'
  subst hi
  have h1 : (0 : Int) ≤ j ∧ (j : Int) < k := by omega
  refine .mk x (fun w' _ => ?_) kk
  simp only [Instr.index, asIntOf, Sem.run_bind, Sem.run_pure, Result.andThen_ok, run_und hu, asAgg]
  rw [if_pos h1]
  simp [run_size hinf, part, run_isAgg hd, hag, hs, hx, Sem.run_bind]
end

end Go.Proofs.YtmmpogfbhelioaaGreat
/-
  Contracts: configurations copied, and their parts.
  Conditions: each one's own.
-/
namespace Go.Proofs.YtmmpogfbhelioaaGreat
set_option maxRecDepth 10000
set_option linter.unusedVariables false
set_option linter.unusedSimpArgs false
theorem nmK39 {p : Prop} (h : p := by (try simp only [List.getElem?_toArray, List.getElem?_cons_zero, List.getElem?_cons_succ, List.setIfInBounds_toArray, List.set_cons_zero, List.set_cons_succ, List.toList_toArray, List.drop_zero, List.drop_succ_cons, List.take_zero, List.take_succ_cons, Nat.zero_add, Nat.add_zero, Nat.reduceAdd, putCells, Chg, Cfg]) <;> rfl) : p := h
theorem goK39 {G H : Prop} (h : H) (s : Stp G H := by (apply Stp.of; intro hS; (first | (refine q_ld bk_ nmK39 ?_) | (refine q_ldU bk_ rfl nmK39 ?_) | (refine q_ldW bk_ (by rfl) ?_) | (refine q_ldWU bk_ rfl (by rfl) ?_) | (refine q_ldP bk_ (Nat.le_of_ble_eq_true rfl) nmK39 ?_) | (refine q_ldPU bk_ rfl (Nat.le_of_ble_eq_true rfl) nmK39 ?_) | (refine q_ext nmK39 ?_) | (refine u_st bk_ (Nat.le_of_ble_eq_true rfl) (by first | rfl | assumption) nmK39 ?_) | (refine u_stA bk_ (Nat.le_of_ble_eq_true rfl) (by rfl) (by rfl) nmK39 ?_) | (refine q_field nmK39 ?_)); exact hS.out)) : G := s.f h
attribute [local irreducible] Instr.box Instr.alloc Instr.loadAt Instr.storeAt Instr.fieldAt Instr.indexAt Instr.build Instr.buildSlice Instr.makeSlice Instr.makeMap Instr.mapUpdate Instr.lookup Instr.range Instr.next Instr.entry Instr.extract Instr.makeInterface Instr.makeFunc Instr.sliceAt Instr.typeAssert Instr.field Instr.index Builtin.len_ Builtin.cap_ Builtin.max_ Builtin.min_ Builtin.append_ Builtin.copy_ Builtin.delete_ convert binS pickS nilS callV callM Op.unary Own Mp It Cu

section
variable {P : Program} {w : World} {KW : Value → World → Prop}
/-- A slice of three elements. -/
theorem e_bs3 {t e by' : Nat} [TSli P t e 1] [TElm P e 1 by'] {x y u : Value} (hx : one x = true) (hy : one y = true) (hu : one u = true)
    (k : ∀ w', Ex w w' → Own w' w.heap.size e 1 (.slice (some ⟨w.heap.size, 0, none⟩) 3 3) [[x], [y], [u]] → w'.heap.size = w.heap.size + 1 → KW (.slice (some ⟨w.heap.size, 0, none⟩) 3 3) w') :
    Ef P (Instr.buildSlice t 3 #[(0, x), (1, y), (2, u)]) w KW := by
  obtain ⟨i, z', hi, hz, his, hib, hzs, h0⟩ := TElm.facts (P := P) e 1 by'
  haveI : TZero P e z' := ⟨by rw [hi]; exact hz⟩
  have hcx := one_cells' hx
  have hcy := one_cells' hy
  have hcu := one_cells' hu
  have hf : Instr.fill (fun i => some (i * 1, 1)) ((Array.range (3 * 1)).map (z'.cells[· % z'.cells.size]!)) #[(0, x), (1, y), (2, u)].toList = some #[x, y, u] := by
    rw [show #[(0, x), (1, y), (2, u)].toList = [(0, x), (1, y), (2, u)] from rfl, fill_cons rfl (by rw [hcx]; rfl) (by simp), fill_cons rfl (by rw [hcy]; rfl) (by simp [hcx, putCells]), fill_cons rfl (by rw [hcu]; rfl) (by simp [hcx, hcy, putCells]), Instr.fill, hcx, hcy, hcu]
    simp [putCells]
    apply Array.ext
    · simp
    · intro j h1 h2
      simp at h2
      have : j = 0 ∨ j = 1 ∨ j = 2 := by omega
      rcases this with rfl | rfl | rfl <;> simp
  refine .mk _ _ (run_bs (P := P) (t := t) (e := e) (n := 1) (m := 3) (cs := #[x, y, u]) (by omega) (by omega) hf) (k _ (Up.alloc _ _) (by
    unfold Own
    refine ⟨⟨?_, .inr ⟨_, 3, #[x, y, u], rfl, Nat.le_refl _, Bk.alloc_new _ _, Nat.le_refl _, by simp [maxLen], by simp, ?_⟩⟩, ?_⟩
    · simp
    · simp
    · intro a ha
      simp at ha
      rcases ha with rfl | rfl | rfl <;> rfl) (by simp))
end

variable {K : Value → World → Prop} {w : World} {te : Option Nat}

theorem k222 {a b : Value} (h : ∀ w', Ex w w' → K a w') : CK Pr 222 #[.agg #[a, b]] w K := by
  refine c222 ?_
  unfold t222
  refine e_boxA fun b1 w1 e1 hb1 s1 s2 => ?_
  refine q_ia 0 rfl (by omega) ?_
  refine q_ld hb1 (by rfl) ?_
  exact h w1 e1
theorem k225 {a b : Value} (h : ∀ w', Ex w w' → K b w') : CK Pr 225 #[.agg #[a, b]] w K := by
  refine c225 ?_
  unfold t225
  refine e_boxA fun b1 w1 e1 hb1 s1 s2 => ?_
  refine q_ia 1 rfl (by omega) ?_
  refine q_ld hb1 (by rfl) ?_
  exact h w1 e1

theorem ms_keys (l : List Int) : (ms l).map (·.1) = l := by simp [ms, Function.comp_def]
theorem fkeys {l done rest : KV} {p : Int × Value} (hp : (done ++ p :: rest).Perm l) (hn : (l.map (·.1)).Nodup) : p.1 ∉ done.map (·.1) := by
  have h1 := (hp.map (·.1)).nodup_iff.2 hn
  rw [List.map_append, List.map_cons] at h1
  have h2 := (List.nodup_append.1 h1).2.2
  intro hx
  exact h2 _ hx _ (List.mem_cons_self ..) rfl
theorem ms_mem {l : List Int} {p : Int × Value} (h : p ∈ ms l) : p.1 ∈ l ∧ p.2 = .agg #[] := by
  obtain ⟨x, hx, rfl⟩ := List.mem_map.1 h
  exact ⟨hx, rfl⟩

theorem k316 {o : Option Nat} {l : List Int} (hm : MpO w o (ms l)) (hn : l.Nodup) (hl : l.length ≤ 1000) (h : ∀ o' l' w', Ex w w' → o'.isNone = o.isNone → (∀ b, o' = some b → w.heap.size ≤ b) → l'.Perm l → MpO w' o' (ms l') → K (.map o') w') : CK Pr 316 #[.map o] w K := by
  refine c316 ?_
  unfold t316
  cases o with
  | none =>
    (repeat (first | (refine go ?_; intros) | (refine goK39 ?_; intros)))
    exact h none l _ (.refl _ _ _) rfl (by intro b hb; cases hb) (.refl _) hm
  | some b =>
    (repeat (first | (refine go ?_; intros) | (refine goK39 ?_; intros)))
    refine q_lenM (b := b) (l := ms l) (fun w' hw => by cases hw; exact hm) ?_
    refine e_mkmap (by intro v hv; cases hv; exact ⟨_, _, rfl⟩) fun w1 e1 m1 s1 => ?_
    have hm' : MpO w1 (some b) (ms l) := MpO.ex e1 hm
    have hbl : b < w.heap.size := Mp.lt (show Mp w b (ms l) from hm)
    refine e_for hm' (fun done τ w' => Ex w w' ∧ Mp w' w.heap.size (ms (done.map (·.1)))) (fun w2 e2 z2 => ⟨e1.trans e2, m1.ex e2⟩) ?_
    rintro v R τ w2 done hz ⟨ex, hmp⟩ nx
    refine nx (fun hperm => ?_) fun p rest w3 hp hpl u3 z3 en fwd => ?_
    · (refine q_ext (x := .bool false) rfl ?_; refine if_f ?_)
      have hpk : (done.map (fun x : Int × Value => x.1)).Perm l := by
        have := hperm.map (fun x : Int × Value => x.1)
        rw [ms_keys] at this
        exact this
      exact h (some w.heap.size) _ w2 ex rfl (by intro b hb; cases hb; exact Nat.le_refl _) hpk hmp
    · (refine q_ext (x := .bool true) rfl ?_; refine if_t ?_)
      refine en ?_
      (repeat (first | (refine go ?_; intros) | (refine goK39 ?_; intros) | refine b156_  ?_))
      have hmp3 : Mp w3 w.heap.size (ms (done.map (·.1))) := hmp.up u3 (.inl rfl)
      refine u_put hmp3 fun w4 u4 m4 z4 => ?_
      have hnx := fkeys hp (by rw [ms_keys]; exact hn)
      rw [put_ms hnx] at m4
      refine fwd _ w4 (fun x => x = w.heap.size) [0] u4 (.inl rfl) (.inr fun b' hb' => by cases hb'; omega) ⟨(ex.new u3 (by intro x hx; omega)).new u4 (by intro x hx; omega), ?_⟩
      rw [List.map_append]
      exact m4

/-- A configuration that is not joint, as a value. -/
def Cfg (vb : Nat) (lm : Option Nat) : Array Value := #[.map (some vb), .map none, .bool false, .map lm, .map none]
/-- A changer. -/
def Chg (vb : Nat) (lm : Option Nat) (pm vt : Nat) (mi mb li : Int) : Array Value := #[.map (some vb), .map none, .bool false, .map lm, .map none, .map (some pm), .map (some vt), .int .i64 mi, .int .u64 mb, .int .u64 li]

/-- Members and their progress, in maps. -/
structure CG (base vb : Nat) (lm : Option Nat) (pm : Nat) (xs ys : List Int) (ps : Ps) (w : World) : Prop where
  vo : Mp w vb (ms xs)
  le : MpO w lm (ms ys)
  pr : Prs base pm ps w
  keys : (ps.map (·.1)).Perm (xs ++ ys)
  nd : (xs ++ ys).Nodup
  lea : ∀ x ∈ ps, x.2.2.le = decide (x.1 ∈ ys)
  lx : xs.length ≤ 9
  ly : ys.length ≤ 4
theorem CG.ex {base vb : Nat} {lm : Option Nat} {pm : Nat} {xs ys : List Int} {ps : Ps} {w' : World} (e : Ex w w') (h : CG base vb lm pm xs ys ps w) : CG base vb lm pm xs ys ps w' :=
  ⟨h.vo.ex e, h.le.ex e, h.pr.ex e, h.keys, h.nd, h.lea, h.lx, h.ly⟩
theorem CG.ndx {base vb : Nat} {lm : Option Nat} {pm : Nat} {xs ys : List Int} {ps : Ps} (h : CG base vb lm pm xs ys ps w) : xs.Nodup := (List.nodup_append.1 h.nd).1
theorem CG.ndy {base vb : Nat} {lm : Option Nat} {pm : Nat} {xs ys : List Int} {ps : Ps} (h : CG base vb lm pm xs ys ps w) : ys.Nodup := (List.nodup_append.1 h.nd).2.1

theorem k280 {base vb : Nat} {lm : Option Nat} {pm : Nat} {xs ys : List Int} {ps : Ps} {cb vt : Nat} {mi mb li : Int} (hc : CG base vb lm pm xs ys ps w) (hb : Bk w cb (.cells (Chg vb lm pm vt mi mb li) 209 (0, 0)))
    (h : ∀ vb' lm' xs' ys' w', Ex w w' → w.heap.size ≤ vb' → (∀ b, lm' = some b → vb' < b) → xs'.Perm xs → ys'.Perm ys → Mp w' vb' (ms xs') → MpO w' lm' (ms ys') → K (.agg (Cfg vb' lm')) w') : CK Pr 280 #[.pointer (some ⟨cb, 0, none⟩)] w K := by
  refine c280 ?_
  unfold t280
  refine e_allocA fun nb w1 e1 hnb s1 s2 => ?_
  refine dr_rule (fun x => x = nb) [138] fun w2 e2 z2 => ?_
  have hb2 := e2.at_ (e1.at_ hb)
  have c2 := (hc.ex e1).ex e2
  (repeat (first | (refine go ?_; intros) | (refine goK39 ?_; intros)))
  refine q_ia 0 rfl (by omega) ?_
  (repeat (first | (refine go ?_; intros) | (refine goK39 ?_; intros)))
  refine cl_fn (k316 (o := some vb) c2.vo c2.ndx (by have := c2.lx; omega) fun o3 xs3 w3 e3 i3 b3 p3 m3 => ⟨.of_ex e3, ?_⟩)
  have hb3 := e3.at_ hb2
  (repeat (first | (refine go ?_; intros) | (refine goK39 ?_; intros)))
  refine q_ia 1 rfl (by omega) ?_
  (repeat (first | (refine go ?_; intros) | (refine goK39 ?_; intros)))
  refine cl_fn (k316 (o := none) (l := []) rfl .nil (by simp) fun o4 l4 w4 e4 i4 b4 p4 m4 => ⟨(Up.of_ex e3).ex e4, ?_⟩)
  have hb4 := e4.at_ hb3
  cases o4 with
  | some x => cases i4
  | none =>
  refine b134_0_1 rfl rfl ?_
  (repeat (first | (refine go ?_; intros) | (refine goK39 ?_; intros)))
  refine cl_fn (k316 (((c2.le.ex e3).ex e4)) c2.ndy (by have := c2.ly; omega) fun o5 ys5 w5 e5 i5 b5 p5 m5 => ⟨((Up.of_ex e3).ex e4).ex e5, ?_⟩)
  have hb5 := e5.at_ hb4
  (repeat (first | (refine go ?_; intros) | (refine goK39 ?_; intros)))
  refine cl_fn (k316 (o := none) (l := []) rfl .nil (by simp) fun o6 l6 w6 e6 i6 b6 p6 m6 => ⟨(((Up.of_ex e3).ex e4).ex e5).ex e6, ?_⟩)
  cases o6 with
  | some x => cases i6
  | none =>
  cases o3 with
  | none => cases i3
  | some vb3 =>
  refine b136_0_2_3 rfl rfl ?_
  have E : Ex w2 w6 := ((e3.trans e4).trans e5).trans e6
  have hnb6 := E.at_ (e2.at_ hnb)
  refine u_stA hnb6 (Nat.le_of_ble_eq_true rfl) (by rfl) (by rfl) nmK39 fun w7 u7 hb7 z7 => ⟨(Up.of_ex E).trans u7, ?_⟩
  refine q_ldW hb7 (by rfl) ?_
  have zz1 := e1.size
  have zz2 := e2.size
  have zz3 := e3.size
  have zz4 := e4.size
  refine h vb3 o5 xs3 ys5 w7 (((e1.trans e2).trans E).new u7 (by intro x hx; omega)) (by have := b3 vb3 rfl; omega) (fun b hb => by have := b5 b hb; have := Mp.lt (show Mp w3 vb3 _ from m3); omega) p3 p5 (((((show Mp w3 vb3 _ from m3).ex e4).ex e5).ex e6).up u7 (.inl rfl)) ((m5.ex e6).up u7 (.inl rfl))

theorem k218 {vb : Nat} {lm : Option Nat} (h : ∀ w', Ex w w' → K (.bool false) w') : CK Pr 218 #[.agg (Cfg vb lm)] w K := by
  refine c218 ?_
  unfold t218
  unfold Cfg
  refine e_boxA fun b1 w1 e1 hb1 s1 s2 => ?_
  (repeat (first | (refine go ?_; intros) | (refine goK39 ?_; intros)))
  refine cl_fn (k225 fun w2 e2 => ?_)
  refine q_lenM0 ?_
  (repeat (first | (refine go ?_; intros) | (refine goK39 ?_; intros)))
  exact h w2 (e1.trans e2)

theorem k165 {vb : Nat} {xs : List Int} (hm : Mp w vb (ms xs)) (hn : xs.Nodup) (h : ∀ nb zs w', Ex w w' → w.heap.size ≤ nb → zs.Perm xs → Mp w' nb (ms zs) → K (.map (some nb)) w') : CK Pr 165 #[.agg #[.map (some vb), .map none]] w K := by
  refine c165 ?_
  unfold t165
  refine e_boxA fun b1 w1 e1 hb1 s1 s2 => ?_
  refine e_mkmap (by intro v hv; cases hv) fun w2 e2 m2 s3 => ?_
  have hb2 := e2.at_ hb1
  have hbl := hm.lt
  refine q_ldW hb2 (by rfl) ?_
  have zz1 := e1.size
  refine loop_n (α := Nat × List Int) (fun a τ w' => g τ 2 = .int .i64 (a.1 : Nat) ∧ a.1 ≤ 2 ∧ Ex w w' ∧ Mp w' w1.heap.size (ms a.2) ∧ (if a.1 = 0 then a.2 = [] else a.2.Perm xs)) (fun a => 2 - a.1) (0, []) ⟨rfl, by omega, e1.trans e2, m2, rfl⟩ ?_
  rintro ⟨j, zs⟩ τ w' R ⟨hj, hle, ex, hmp, hz⟩ hR
  simp only at hj hle hmp hz hR
  rw [hj]
  (repeat (first | (refine go ?_; intros) | (refine goK39 ?_; intros)))
  have hj2 : j = 0 ∨ j = 1 ∨ j = 2 := by omega
  have zx := ex.size
  rcases hj2 with rfl | rfl | rfl
  · (repeat (first | (refine go ?_; intros) | (refine goK39 ?_; intros)))
    refine q_idx 0 rfl (by omega) rfl ?_
    have hmv : MpO w' (some vb) (ms xs) := hm.ex ex
    have hz : zs = [] := hz
    subst hz
    refine e_for hmv (fun done τ w3 => Ex w w3 ∧ Mp w3 w1.heap.size (ms (done.map (fun x : Int × Value => x.1)))) (fun w3 e3 z3 => ⟨ex.trans e3, hmp.ex e3⟩) ?_
    rintro v Rr τ' w3 done hz3 ⟨ex3, hm3⟩ nx
    refine nx (fun hperm => ?_) fun p rest w4 hp hpl u4 z4 en fwd => ?_
    · (refine q_ext (x := .bool false) rfl ?_; refine if_f ?_)
      (repeat (first | (refine go ?_; intros) | (refine goK39 ?_; intros)))
      have hpk : (done.map (fun x : Int × Value => x.1)).Perm xs := by
        have := hperm.map (fun x : Int × Value => x.1)
        rw [ms_keys] at this
        exact this
      exact hR (1, done.map (fun x : Int × Value => x.1)) _ _ ⟨rfl, by simp, ex3, hm3, by rw [if_neg (by simp)]; exact hpk⟩ (by simp)
    · (refine q_ext (x := .bool true) rfl ?_; refine if_t ?_)
      refine en ?_
      (repeat (first | (refine go ?_; intros) | (refine goK39 ?_; intros) | refine b156_  ?_))
      refine u_put (hm3.up u4 (.inl rfl)) fun w5 u5 m5 z5 => ?_
      rw [put_ms (fkeys hp (by rw [ms_keys]; exact hn))] at m5
      refine fwd _ w5 (fun x => x = w1.heap.size) [0] u5 (.inl rfl) (.inr fun b' hb' => by cases hb'; omega) ⟨(ex3.new u4 (by intro x hx; omega)).new u5 (by intro x hx; omega), ?_⟩
      rw [List.map_append]
      exact m5
  · (repeat (first | (refine go ?_; intros) | (refine goK39 ?_; intros)))
    refine q_idx 1 rfl (by omega) rfl ?_
    refine e_for (o := none) (l := []) rfl (fun done τ w3 => Ex w w3 ∧ Mp w3 w1.heap.size (ms zs)) (fun w3 e3 z3 => ⟨ex.trans e3, hmp.ex e3⟩) ?_
    rintro v Rr τ' w3 done hz3 ⟨ex3, hm3⟩ nx
    refine nx (fun hperm => ?_) fun p rest w4 hp hpl u4 z4 en fwd => (by cases hpl)
    (refine q_ext (x := .bool false) rfl ?_; refine if_f ?_)
    (repeat (first | (refine go ?_; intros) | (refine goK39 ?_; intros)))
    have hz1 : zs.Perm xs := hz
    exact hR (2, zs) _ _ ⟨rfl, by simp, ex3, hm3, by rw [if_neg (by simp)]; exact hz1⟩ (by simp)
  · (repeat (first | (refine go ?_; intros) | (refine goK39 ?_; intros)))
    have hz1 : zs.Perm xs := hz
    exact h _ zs w' ex (by omega) hz1 hmp

end Go.Proofs.YtmmpogfbhelioaaGreat
/-
  Contracts: a configuration and its progress are checked, and copied.
  Conditions: they are in order.
-/
namespace Go.Proofs.YtmmpogfbhelioaaGreat
set_option maxRecDepth 10000
set_option linter.unusedVariables false
set_option linter.unusedSimpArgs false
theorem nmK40 {p : Prop} (h : p := by (try simp only [List.getElem?_toArray, List.getElem?_cons_zero, List.getElem?_cons_succ, List.setIfInBounds_toArray, List.set_cons_zero, List.set_cons_succ, List.toList_toArray, List.drop_zero, List.drop_succ_cons, List.take_zero, List.take_succ_cons, Nat.zero_add, Nat.add_zero, Nat.reduceAdd, putCells, Cfg, Chg, Pg.cells]) <;> rfl) : p := h
theorem goK40 {G H : Prop} (h : H) (s : Stp G H := by (apply Stp.of; intro hS; (first | (refine q_ld bk_ nmK40 ?_) | (refine q_ldU bk_ rfl nmK40 ?_) | (refine q_ldW bk_ (by rfl) ?_) | (refine q_ldWU bk_ rfl (by rfl) ?_) | (refine q_ldP bk_ (Nat.le_of_ble_eq_true rfl) nmK40 ?_) | (refine q_ldPU bk_ rfl (Nat.le_of_ble_eq_true rfl) nmK40 ?_) | (refine q_ext nmK40 ?_) | (refine u_st bk_ (Nat.le_of_ble_eq_true rfl) (by first | rfl | assumption) nmK40 ?_) | (refine u_stA bk_ (Nat.le_of_ble_eq_true rfl) (by rfl) (by rfl) nmK40 ?_) | (refine q_field nmK40 ?_)); exact hS.out)) : G := s.f h
attribute [local irreducible] Instr.box Instr.alloc Instr.loadAt Instr.storeAt Instr.fieldAt Instr.indexAt Instr.build Instr.buildSlice Instr.makeSlice Instr.makeMap Instr.mapUpdate Instr.lookup Instr.range Instr.next Instr.entry Instr.extract Instr.makeInterface Instr.makeFunc Instr.sliceAt Instr.typeAssert Instr.field Instr.index Builtin.len_ Builtin.cap_ Builtin.max_ Builtin.min_ Builtin.append_ Builtin.copy_ Builtin.delete_ convert binS pickS nilS callV callM Op.unary Own Mp It Cu

variable {K : Value → World → Prop} {w : World} {te : Option Nat}

theorem k286 {base vb : Nat} {lm : Option Nat} {pm : Nat} {xs ys : List Int} {ps : Ps} (c : CG base vb lm pm xs ys ps w) (h : ∀ w', Ex w w' → K .nilIface w') : CK Pr 286 #[.agg (Cfg vb lm), .map (some pm)] w K := by
  refine c286 ?_
  unfold t286
  unfold Cfg
  refine e_boxA fun b1 w1 e1 hb1 s1 s2 => ?_
  refine dr_rule No [] fun w2 e2 z2 => ?_
  have hb2 := e2.at_ hb1
  have c2 := (c.ex e1).ex e2
  (repeat (first | (refine go ?_; intros) | (refine goK40 ?_; intros)))
  refine cl_fn (k165 c2.vo c2.ndx fun nb zs w3 e3 hnb hzs m3 => ⟨e3, ?_⟩)
  have hb3 := e3.at_ hb2
  (repeat (first | (refine go ?_; intros) | (refine goK40 ?_; intros)))
  refine e_bs3 rfl rfl rfl fun w4 e4 o4 z4 => ⟨e3.trans e4, ?_⟩
  refine q_lenSl o4.sl ?_
  have c4 := (c2.ex e3).ex e4
  have hb4 := e4.at_ hb3
  have m4 := m3.ex e4
  have E4 : Ex w w4 := ((e1.trans e2).trans e3).trans e4
  clear hb1 hb2 hb3
  refine loop_n (α := Nat) (fun j τ w' => g τ 5 = .int .i64 j ∧ j ≤ 3 ∧ Ex w4 w') (fun j => 3 - j) 0 ⟨rfl, by omega, .refl _ _ _⟩ ?_
  rintro j τ w' R ⟨hj, hle, ex⟩ hR
  rw [hj]
  (repeat (first | (refine go ?_; intros) | (refine goK40 ?_; intros)))
  refine if_split (fun hb => ?_) (fun hb => ?_)
  · have hj3 : j < 3 := by
      have := of_decide_eq_true hb
      simp at this
      omega
    obtain ⟨o, l, hx, hmo, hin⟩ : ∃ o l, [[Value.map (some nb)], [.map lm], [.map none]][j]? = some [.map o] ∧ MpO w' o (ms l) ∧ ∀ x ∈ l, x ∈ ps.map (·.1) := by
      have hj2 : j = 0 ∨ j = 1 ∨ j = 2 := by omega
      rcases hj2 with rfl | rfl | rfl
      · exact ⟨some nb, zs, rfl, m4.ex ex, fun x hx => c.keys.mem_iff.2 (List.mem_append_left _ (hzs.mem_iff.1 hx))⟩
      · exact ⟨lm, ys, rfl, c4.le.ex ex, fun x hx => c.keys.mem_iff.2 (List.mem_append_right _ hx)⟩
      · exact ⟨none, [], rfl, rfl, fun x hx => (by cases hx)⟩
    refine q_ixs (x := .map o) j (o4.sl.ex ex) rfl hx fun _ => ?_
    refine e_for hmo (fun done τ w3 => Ex w4 w3) (fun w3 e3 z3 => ex.trans e3) ?_
    rintro v Rr τ' w5 done hz ex5 nx
    have zx := ex.size
    refine nx (fun hperm => ?_) fun p rest w6 hp hpl u6 z6 en fwd => ?_
    · (refine q_ext (x := .bool false) rfl ?_; refine if_f ?_)
      (repeat (first | (refine go ?_; intros) | (refine goK40 ?_; intros)))
      rw [wrapS (by omega)]
      exact hR (j + 1) _ _ ⟨rfl, by omega, ex5⟩ (by omega)
    · (refine q_ext (x := .bool true) rfl ?_; refine if_t ?_)
      refine en ?_
      (repeat (first | (refine go ?_; intros) | (refine goK40 ?_; intros)))
      have ex6 : Ex w4 w6 := ex5.new u6 (by intro x hx; omega)
      refine q_look (l := kvP ps) (c4.ex ex6).pr.mp ?_
      obtain ⟨y, hy⟩ := lk_mem (l := kvP ps) (x := p.1) (by rw [kvP_keys]; exact hin _ (ms_mem hpl).1)
      rw [hy]
      simp only [↓reduceIte, Option.getD_some, Option.isSome_some]
      (repeat (first | (refine go ?_; intros) | (refine goK40 ?_; intros)))
      exact fwd _ w6 No [] (.refl _ _ _) (.inl rfl) (.inl rfl) ex6
  · unfold t286_2
    have hbw := ex.at_ hb4
    (repeat (first | (refine go ?_; intros) | (refine goK40 ?_; intros)))
    refine e_for (o := none) (l := []) rfl (fun done τ w3 => Ex w4 w3) (fun w3 e3 z3 => ex.trans e3) ?_
    rintro v Rr τ' w5 done hz ex5 nx
    refine nx (fun hperm => ?_) fun p rest w6 hp hpl u6 z6 en fwd => (by cases hpl)
    (refine q_ext (x := .bool false) rfl ?_; refine if_f ?_)
    unfold t286_1
    have hb5 := ex5.at_ hb4
    (repeat (first | (refine go ?_; intros) | (refine goK40 ?_; intros)))
    have zx := ex5.size
    refine e_for (c4.ex ex5).le (fun done τ w3 => Ex w4 w3) (fun w3 e3 z3 => ex5.trans e3) ?_
    rintro v2 Rr2 τ2 w6 done2 hz2 ex6 nx2
    refine nx2 (fun hperm => ?_) fun p rest w7 hp hpl u7 z7 en fwd => ?_
    · (refine q_ext (x := .bool false) rfl ?_; refine if_f ?_)
      have hb6 := ex6.at_ hb4
      (repeat (first | (refine go ?_; intros) | (refine goK40 ?_; intros)))
      refine cl_fn (k218 (vb := vb) (lm := lm) fun w8 e8 => ?_)
      have hb8 := e8.at_ hb6
      unfold Jo
      (repeat (first | (refine go ?_; intros) | (refine goK40 ?_; intros)))
      refine cl_fn (k225 fun w9 e9 => ?_)
      have hb9 := e9.at_ hb8
      (repeat (first | (refine go ?_; intros) | (refine goK40 ?_; intros)))
      exact h w9 (((E4.trans ex6).trans e8).trans e9)
    · (refine q_ext (x := .bool true) rfl ?_; refine if_t ?_)
      refine en ?_
      have ex7 : Ex w4 w7 := ex6.new u7 (by intro x hx; omega)
      have hb7 := ex7.at_ hb4
      have hpy := (ms_mem hpl).1
      have hpx : p.1 ∉ xs := fun hx => (List.nodup_append.1 c.nd).2.2 _ hx _ hpy rfl
      (repeat (first | (refine go ?_; intros) | (refine goK40 ?_; intros)))
      refine cl_fn (k225 fun w8 e8 => ?_)
      refine q_look0 ?_
      (repeat (first | (refine go ?_; intros) | (refine goK40 ?_; intros)))
      rename_i ba w9 e9 hba sa sb w10 u10 hba2 z10
      have zz7 := ex7.size
      have zz8 := e8.size
      have ex10 : Ex w7 w10 := (e8.trans e9).new u10 (by intro x hx; omega)
      have hb10 := ex10.at_ hb7
      clear hba hba2
      (repeat (first | (refine go ?_; intros) | (refine goK40 ?_; intros)))
      refine cl_fn (k222 fun w11 e11 => ?_)
      have c11 := (c4.ex ex7).ex (ex10.trans e11)
      refine q_look (l := ms xs) c11.vo ?_
      rw [lk_ms, if_neg hpx]
      (repeat (first | (refine go ?_; intros) | (refine goK40 ?_; intros)))
      rename_i bb w12 e12 hbb sc sd w13 u13 hbb2 z13
      have zz11 := e11.size
      have zz10 := ex10.size
      have ex13 : Ex w7 w13 := ((ex10.trans e11).trans e12).new u13 (by intro x hx; omega)
      have c13 := (c4.ex ex7).ex ex13
      refine q_look (l := kvP ps) c13.pr.mp ?_
      obtain ⟨y, hy⟩ := lk_mem (l := kvP ps) (x := p.1) (by rw [kvP_keys]; exact c.keys.mem_iff.2 (List.mem_append_right _ hpy))
      rw [hy]
      obtain ⟨z, hz, hz1, rfl⟩ := lk_kvP hy
      obtain ⟨p0, ib, hib, hpb, hinf⟩ := c13.pr.pg z hz
      (repeat (first | (refine go ?_; intros) | (refine goK40 ?_; intros)))
      rw [c.lea z hz, hz1, decide_eq_true hpy]
      (repeat (first | (refine go ?_; intros) | (refine goK40 ?_; intros)))
      exact fwd _ w13 (fun x => x = bb) [158] (((Up.of_ex ex10).trans (Up.of_ex e11)).trans (Up.of_ex e12) |>.trans (u13.mono (fun _ _ h => h) (fun k hk => by simp at hk; simp [hk]))) (.inl rfl) (.inl rfl) (ex7.trans ex13)

theorem k223 {base vb : Nat} {lm : Option Nat} {pm : Nat} {xs ys : List Int} {ps : Ps} (c : CG base vb lm pm xs ys ps w) (h : ∀ w', Ex w w' → K (.tuple #[.agg (Cfg vb lm), .map (some pm), .nilIface]) w') : CK Pr 223 #[.agg (Cfg vb lm), .map (some pm)] w K := by
  refine c223 ?_
  unfold t223
  refine e_boxA fun b1 w1 e1 hb1 s1 s2 => ?_
  refine e_allocA fun b2 w2 e2 hb2 s3 s4 => ?_
  have hb12 := e2.at_ hb1
  refine q_ldW hb12 (by rfl) ?_
  refine cl_fn (k286 ((c.ex e1).ex e2) fun w3 e3 => ?_)
  have hb13 := e3.at_ hb12
  have hb23 := e3.at_ hb2
  (repeat (first | (refine go ?_; intros) | (refine goK40 ?_; intros)))
  rename_i w4 u4 hb4 z4
  have zz1 := e1.size
  exact h w4 (((e1.trans e2).trans e3).new u4 (by intro x hx; omega))

end Go.Proofs.YtmmpogfbhelioaaGreat
/-
  Contracts: a member is added to a configuration.
  Conditions: it is none yet.
-/
namespace Go.Proofs.YtmmpogfbhelioaaGreat
set_option maxRecDepth 10000
set_option linter.unusedVariables false
set_option linter.unusedSimpArgs false
theorem nmK41 {p : Prop} (h : p := by (try simp only [List.getElem?_toArray, List.getElem?_cons_zero, List.getElem?_cons_succ, List.setIfInBounds_toArray, List.set_cons_zero, List.set_cons_succ, List.toList_toArray, List.drop_zero, List.drop_succ_cons, List.take_zero, List.take_succ_cons, Nat.zero_add, Nat.add_zero, Nat.reduceAdd, putCells, Cfg, Chg]) <;> rfl) : p := h
theorem goK41 {G H : Prop} (h : H) (s : Stp G H := by (apply Stp.of; intro hS; (first | (refine q_ld bk_ nmK41 ?_) | (refine q_ldU bk_ rfl nmK41 ?_) | (refine q_ldW bk_ (by rfl) ?_) | (refine q_ldWU bk_ rfl (by rfl) ?_) | (refine q_ldP bk_ (Nat.le_of_ble_eq_true rfl) nmK41 ?_) | (refine q_ldPU bk_ rfl (Nat.le_of_ble_eq_true rfl) nmK41 ?_) | (refine q_ext nmK41 ?_) | (refine u_st bk_ (Nat.le_of_ble_eq_true rfl) (by first | rfl | assumption) nmK41 ?_) | (refine u_stA bk_ (Nat.le_of_ble_eq_true rfl) (by rfl) (by rfl) nmK41 ?_) | (refine q_field nmK41 ?_)); exact hS.out)) : G := s.f h
attribute [local irreducible] Instr.box Instr.alloc Instr.loadAt Instr.storeAt Instr.fieldAt Instr.indexAt Instr.build Instr.buildSlice Instr.makeSlice Instr.makeMap Instr.mapUpdate Instr.lookup Instr.range Instr.next Instr.entry Instr.extract Instr.makeInterface Instr.makeFunc Instr.sliceAt Instr.typeAssert Instr.field Instr.index Builtin.len_ Builtin.cap_ Builtin.max_ Builtin.min_ Builtin.append_ Builtin.copy_ Builtin.delete_ convert binS pickS nilS callV callM Op.unary Own Mp It Cu

variable {K : Value → World → Prop} {w : World} {te : Option Nat}

/-- A single change in memory: its kind and its node. -/
def PCh (v : Value) (kd x : Int) (w : World) : Prop := ∃ b v1 v2, v = .pointer (some ⟨b, 0, none⟩) ∧ Bk w b (.cells #[v1, v2] 309 (0, 0)) ∧ PN1 306 .i32 v1 kd w ∧ PN1 22 .u64 v2 x w
theorem PCh.ex {v : Value} {kd x : Int} {w' : World} (e : Ex w w') (h : PCh v kd x w) : PCh v kd x w' := by
  obtain ⟨b, v1, v2, h1, h2, h3, h4⟩ := h
  exact ⟨b, v1, v2, h1, e.at_ h2, h3.ex e, h4.ex e⟩
theorem PCh.mt {v : Value} {kd x : Int} {w' : World} {C : Nat → Prop} {T : List Nat} (u : Up C T w w') (hT : (T.contains 311 || T.contains 308 || T.contains 24) = false) (h : PCh v kd x w) : PCh v kd x w' := by
  simp only [Bool.or_eq_false_iff] at hT
  obtain ⟨b, v1, v2, h1, h2, h3, h4⟩ := h
  exact ⟨b, v1, v2, h1, u.at_ h2 hT.1.1, h3.mt hT.1.2 u, h4.mt hT.2 u⟩
theorem PCh.one {v : Value} {kd x : Int} (h : PCh v kd x w) : one v = true := by
  obtain ⟨b, _, _, rfl, _⟩ := h
  rfl

theorem k281 {v : Value} {kd x : Int} (hp : PCh v kd x w) (h : K (.int .u64 x) w) : CK Pr 281 #[v] w K := by
  obtain ⟨b, v1, v2, rfl, hb, ⟨b1, rfl, h1⟩, ⟨b2, rfl, h2⟩⟩ := hp
  refine c281 ?_
  unfold t281
  (repeat (first | (refine go ?_; intros) | (refine goK41 ?_; intros)))
  exact h
theorem k282 {v : Value} {kd x : Int} (hp : PCh v kd x w) (h : K (.int .i32 kd) w) : CK Pr 282 #[v] w K := by
  obtain ⟨b, v1, v2, rfl, hb, ⟨b1, rfl, h1⟩, ⟨b2, rfl, h2⟩⟩ := hp
  refine c282 ?_
  unfold t282
  (repeat (first | (refine go ?_; intros) | (refine goK41 ?_; intros)))
  exact h

theorem k319 {cb vb : Nat} {lm : Option Nat} {ys : List Int} {x : Int} (hb : Bk w cb (.cells (Cfg vb lm) 136 (0, 0))) (hm : MpO w lm (ms ys)) (hx : x ∉ ys)
    (h : ∀ b w', Up (fun z => z = cb ∨ lm = some z ∨ w.heap.size ≤ z) [0, 138] w w' → (lm = some b ∨ (lm = none ∧ w.heap.size ≤ b)) → Bk w' cb (.cells (Cfg vb (some b)) 136 (0, 0)) → Mp w' b (ms (ys ++ [x])) → K (.tuple #[]) w') :
    CK Pr 319 #[.pointer (some ⟨cb, 3, none⟩), .int .u64 x] w K := by
  refine c319 ?_
  unfold t319
  unfold Jo
  unfold Cfg at hb
  cases lm with
  | none =>
    have hy : ys = [] := by
      have : ms ys = [] := hm
      cases ys with
      | nil => rfl
      | cons y l => cases this
    subst hy
    (repeat (first | (refine go ?_; intros) | (refine goK41 ?_; intros)))
    refine e_mkmap (by intro v hv; cases hv) fun w1 e1 m1 s1 => ?_
    have hb1 := e1.at_ hb
    clear hb
    (repeat (first | (refine go ?_; intros) | (refine goK41 ?_; intros) | refine b156_  ?_))
    rename_i w2 u2 hb2 z2
    refine u_put (m1.up u2 (.inl rfl)) fun w3 u3 m3 z3 => ?_
    refine h w.heap.size w3 (((Up.of_ex e1).trans (u2.mono (fun y _ hy => .inl hy) (fun k hk => by simp at hk; simp [hk]))).trans (u3.mono (fun y _ hy => .inr (.inr (by omega))) (fun k hk => by simp at hk; simp [hk]))) (.inr ⟨rfl, Nat.le_refl _⟩) (u3.at_ hb2 rfl) m3
  | some b =>
    (repeat (first | (refine go ?_; intros) | (refine goK41 ?_; intros) | refine b156_  ?_))
    refine u_put (show Mp w b (ms ys) from hm) fun w3 u3 m3 z3 => ?_
    rw [put_ms hx] at m3
    exact h b w3 (u3.mono (fun y _ hy => .inr (.inl (by rw [hy]))) (fun k hk => by simp at hk; simp [hk])) (.inl rfl) (u3.at_ hb rfl) m3

theorem CG.add {base vb pm b' : Nat} {lm lm' : Option Nat} {xs ys : List Int} {ps : Ps} {x : Int} {f : Bool} {q : Pg} {w' : World} (c : CG base vb lm pm xs ys ps w) (hx : x ∉ xs ++ ys) (hl : if f then ys.length + 1 ≤ 4 else xs.length + 1 ≤ 9) (hq : q.le = f)
    (vo : Mp w' vb (ms (if f then xs else xs ++ [x]))) (le : MpO w' lm' (ms (if f then ys ++ [x] else ys))) (pr : Prs base pm (putP ps x b' q) w') : CG base vb lm' pm (if f then xs else xs ++ [x]) (if f then ys ++ [x] else ys) (putP ps x b' q) w' := by
  have hxp : x ∉ ps.map (·.1) := fun h => hx (c.keys.mem_iff.1 h)
  have hk := putP_new (b := b') (q := q) hxp
  have hnd := List.nodup_append.1 c.nd
  rw [List.mem_append, not_or] at hx
  have hmem : ∀ y ∈ putP ps x b' q, y = (x, b', q) ∨ y ∈ ps := fun y hy => putP_mem hy
  have hkeys : ∀ y ∈ ps, y.1 ≠ x := fun y hy e => hxp (List.mem_map.2 ⟨y, hy, e⟩)
  cases f with
  | false =>
    refine ⟨vo, le, pr, ?_, ?_, ?_, by simpa using hl, c.ly⟩
    · rw [hk]
      simp only [Bool.false_eq_true, if_false]
      rw [List.append_assoc]
      refine (c.keys.append_right [x]).trans ?_
      rw [List.append_assoc]
      exact List.Perm.append_left _ List.perm_append_comm
    · simp only [Bool.false_eq_true, if_false]
      rw [List.append_assoc, List.nodup_append]
      refine ⟨hnd.1, ?_, ?_⟩
      · exact List.nodup_cons.2 ⟨hx.2, hnd.2.1⟩
      · intro a ha b hb
        rcases List.mem_cons.1 hb with rfl | hb
        · exact fun e => hx.1 (e ▸ ha)
        · exact hnd.2.2 a ha b hb
    · intro y hy
      simp only [Bool.false_eq_true, if_false]
      rcases hmem y hy with rfl | hy
      · rw [hq]
        exact (decide_eq_false hx.2).symm
      · exact c.lea y hy
  | true =>
    refine ⟨vo, le, pr, ?_, ?_, ?_, c.lx, by simpa using hl⟩
    · rw [hk]
      simp only [if_true]
      rw [← List.append_assoc]
      exact c.keys.append_right [x]
    · simp only [if_true]
      rw [← List.append_assoc, List.nodup_append]
      refine ⟨c.nd, by simp, ?_⟩
      intro a ha b hb
      rw [List.mem_singleton.1 hb]
      rintro rfl
      rcases List.mem_append.1 ha with ha | ha
      · exact hx.1 ha
      · exact hx.2 ha
    · intro y hy
      simp only [if_true]
      rcases hmem y hy with rfl | hy
      · rw [hq]
        exact (decide_eq_true (List.mem_append_right _ (List.mem_singleton.2 rfl))).symm
      · rw [c.lea y hy]
        have := hkeys y hy
        simp [this]

theorem k317 {base n0 vb cb pm vb0 pm0 vt : Nat} {lm lm0 : Option Nat} {mi mb li : Int} {xs ys : List Int} {ps : Ps} {x : Int} {f : Bool} (c : CG base vb lm pm xs ys ps w) (hb : Bk w cb (.cells (Cfg vb lm) 136 (0, 0))) (hx : x ∉ xs ++ ys) (hl : if f then ys.length + 1 ≤ 4 else xs.length + 1 ≤ 9)
    (d1 : vb ≠ pm) (d2 : ∀ b, lm = some b → b ≠ pm ∧ b ≠ vb) (n1 : n0 ≤ vb) (n2 : n0 ≤ pm) (n3 : n0 ≤ cb) (n4 : ∀ b, lm = some b → n0 ≤ b) (n5 : n0 ≤ w.heap.size)
    (h : ∀ lm' ps' w', Up (fun z => n0 ≤ z) [0, 138] w w' → Bk w' cb (.cells (Cfg vb lm') 136 (0, 0)) → CG base vb lm' pm (if f then xs else xs ++ [x]) (if f then ys ++ [x] else ys) ps' w' → (∀ b, lm' = some b → n0 ≤ b) → K (.tuple #[]) w') :
    CK Pr 317 #[.agg (Chg vb0 lm0 pm0 vt mi mb li), .pointer (some ⟨cb, 0, none⟩), .map (some pm), .int .u64 x, .bool f] w K := by
  refine c317 ?_
  unfold t317
  unfold Chg
  refine e_boxA fun b2 w1 e1 hb2 s1 s2 => ?_
  have c1 := c.ex e1
  have hb1 := e1.at_ hb
  have hvl := c.vo.lt
  have hpl := c.pr.mp.lt
  have zz1 := e1.size
  refine q_not ?_
  refine jo_rule (fun J => ∀ lm' w', Up (fun z => n0 ≤ z) [0, 138] w1 w' → Bk w' cb (.cells (Cfg vb lm') 136 (0, 0)) → Mp w' vb (ms (if f then xs else xs ++ [x])) → MpO w' lm' (ms (if f then ys ++ [x] else ys)) → Prs base pm ps w' → (∀ b, lm' = some b → n0 ≤ b ∧ b ≠ pm) → J w') ?_ ?_
  · intro lm' w' u hbc vo le pr hn
    have hb2' : Bk w' b2 _ := u.at_ hb2 rfl
    refine dr_rule (fun z => z = pm) [0] fun w3 e3 z3 => ?_
    have hb3 := e3.at_ hb2'
    have pr3 := pr.ex e3
    clear hb2' hb2
    (repeat (first | (refine go ?_; intros) | (refine goK41 ?_; intros)))
    refine q_max ?_
    (repeat (first | (refine go ?_; intros) | (refine goK41 ?_; intros)))
    refine cl_fn (k78 fun ib w4 e4 s4 hinf => ⟨.of_ex e4, ?_⟩)
    refine b152_0_1_7_8_5 rfl rfl rfl rfl rfl ?_
    refine e_boxA fun pb w5 e5 hb5 s5 s6 => ⟨(Up.of_ex e4).ex e5, ?_⟩
    have pr5 := (pr3.ex e4).ex e5
    refine u_put pr5.mp fun w6 u6 m6 z6 => ⟨((Up.of_ex e4).ex e5).trans u6, ?_⟩
    have zz3 := e3.size
    have zz4 := e4.size
    have zu := u.size
    have hbase : base ≤ w.heap.size := by have := c.pr.b0; omega
    have hq : PG base pb ⟨0, if 1 > li then 1 else li, 0, 0, 0, true, false, f, mi, mb⟩ w6 := ⟨by omega, ib, by omega, u6.at_ hb5 rfl, u6.at_ (e5.at_ hinf) rfl⟩
    have prf := pr5.put (b := pb) u6 m6 ((pr3.ex e4).fresh (by omega)) hq
    have E : Ex w' w5 := (e3.trans e4).trans e5
    refine h lm' _ w6 (((Up.of_ex e1).trans u).ex E |>.trans (u6.mono (fun y _ hy => by subst hy; exact n2) (fun k hk => by simp at hk; simp [hk]))) (u6.at_ (E.at_ hbc) rfl) (CG.add c hx hl rfl ((vo.ex E).up u6 (.inr d1)) ((le.ex E).up u6 (.inr fun b hb => (hn b hb).2)) prf) (fun b hb => (hn b hb).1)
  · intro J hJ
    cases f with
    | false =>
      unfold Cfg at hb1
      (repeat (first | (refine go ?_; intros) | (refine goK41 ?_; intros)))
      refine cl_fn (k222 fun w2 e2 => ?_)
      (repeat (first | (refine go ?_; intros) | (refine goK41 ?_; intros) | refine b156_  ?_))
      refine u_put (c1.vo.ex e2) fun w3 u3 m3 z3 => ?_
      rw [put_ms (fun hh => hx (List.mem_append_left _ hh))] at m3
      refine hJ lm w3 ((Up.of_ex e2).trans (u3.mono (fun y _ hy => by subst hy; exact n1) (fun k hk => by simp at hk; simp [hk]))) (u3.at_ (e2.at_ hb1) rfl) m3 ((c1.le.ex e2).up u3 (.inr fun b hb => (d2 b hb).2)) ((c1.pr.ex e2).up u3 (.inr fun e => d1 e.symm) (.inl rfl) rfl) (fun b hb => ⟨n4 b hb, (d2 b hb).1⟩)
    | true =>
      (repeat (first | (refine go ?_; intros) | (refine goK41 ?_; intros)))
      refine cl_fn (k319 hb1 c1.le (fun hh => hx (List.mem_append_right _ hh)) fun b w3 u3 hb3 hbc m3 => ?_)
      have hb4 : n0 ≤ b ∧ b ≠ pm ∧ b ≠ vb := by
        rcases hb3 with hb3 | ⟨_, hb3⟩
        · exact ⟨n4 b hb3, (d2 b hb3).1, (d2 b hb3).2⟩
        · exact ⟨by omega, by omega, by omega⟩
      have hvb : ¬ (vb = cb ∨ lm = some vb ∨ w1.heap.size ≤ vb) := by
        rintro (hh | hh | hh)
        · subst hh
          have := c1.vo
          unfold Mp at this
          obtain ⟨es, ck, hmb, _⟩ := this
          exact absurd (hmb.one hb1) (by simp)
        · exact (d2 vb hh).2 rfl
        · omega
      have hpb : ¬ (pm = cb ∨ lm = some pm ∨ w1.heap.size ≤ pm) := by
        rintro (hh | hh | hh)
        · subst hh
          have := c1.pr.mp
          unfold Mp at this
          obtain ⟨es, ck, hmb, _⟩ := this
          exact absurd (hmb.one hb1) (by simp)
        · exact (d2 pm hh).1 rfl
        · omega
      refine hJ (some b) w3 (u3.mono (fun y _ hy => by
        rcases hy with rfl | hy | hy
        · exact n3
        · exact n4 y hy
        · omega) (fun _ h => h)) hbc (c1.vo.up u3 (.inr hvb)) m3 (c1.pr.up u3 (.inr hpb) (.inl rfl) rfl) (fun b' hb' => by cases hb'; exact ⟨hb4.1, hb4.2.1⟩)

end Go.Proofs.YtmmpogfbhelioaaGreat
/-
  Contracts: a change is applied to a copy of a configuration.
  Conditions: it adds a member that is none yet.
-/
namespace Go.Proofs.YtmmpogfbhelioaaGreat
set_option maxRecDepth 10000
set_option linter.unusedVariables false
set_option linter.unusedSimpArgs false
attribute [local irreducible] Instr.box Instr.alloc Instr.loadAt Instr.storeAt Instr.fieldAt Instr.indexAt Instr.build Instr.buildSlice Instr.makeSlice Instr.makeMap Instr.mapUpdate Instr.lookup Instr.range Instr.next Instr.entry Instr.extract Instr.makeInterface Instr.makeFunc Instr.sliceAt Instr.typeAssert Instr.field Instr.index Builtin.len_ Builtin.cap_ Builtin.max_ Builtin.min_ Builtin.append_ Builtin.copy_ Builtin.delete_ convert binS pickS nilS callV callM Op.unary Own Mp It Cu

variable {K : Value → World → Prop} {w : World} {te : Option Nat}

theorem lk_none {l : KV} {x : Int} (h : x ∉ l.map (·.1)) : lk l x = none := by
  induction l with
  | nil => rfl
  | cons p r ih =>
    obtain ⟨k, v⟩ := p
    simp only [List.map_cons, List.mem_cons, not_or] at h
    simp only [lk]
    rw [if_neg (fun e => h.1 e.symm)]
    exact ih h.2

theorem k283 {base n0 vb cb pm vb0 pm0 vt : Nat} {lm lm0 : Option Nat} {mi mb li : Int} {xs ys : List Int} {ps : Ps} {x : Int} (c : CG base vb lm pm xs ys ps w) (hb : Bk w cb (.cells (Cfg vb lm) 136 (0, 0))) (hx : x ∉ xs ++ ys) (hl : xs.length + 1 ≤ 9)
    (d1 : vb ≠ pm) (d2 : ∀ b, lm = some b → b ≠ pm ∧ b ≠ vb) (n1 : n0 ≤ vb) (n2 : n0 ≤ pm) (n3 : n0 ≤ cb) (n4 : ∀ b, lm = some b → n0 ≤ b) (n5 : n0 ≤ w.heap.size)
    (h : ∀ lm' ps' w', Up (fun z => n0 ≤ z) [0, 138] w w' → Bk w' cb (.cells (Cfg vb lm') 136 (0, 0)) → CG base vb lm' pm (xs ++ [x]) ys ps' w' → (∀ b, lm' = some b → n0 ≤ b) → K (.tuple #[]) w') :
    CK Pr 283 #[.agg (Chg vb0 lm0 pm0 vt mi mb li), .pointer (some ⟨cb, 0, none⟩), .map (some pm), .int .u64 x] w K := by
  refine c283 ?_
  unfold t283
  unfold Chg
  refine e_boxA fun b2 w1 e1 hb2 s1 s2 => ?_
  have c1 := c.ex e1
  refine q_look (l := kvP ps) c1.pr.mp ?_
  rw [lk_none (by rw [kvP_keys]; exact fun hh => hx (c.keys.mem_iff.1 hh))]
  (repeat (first | (refine go ?_; intros) | (refine goK41 ?_; intros)))
  refine cl_fn (k317 (n0 := n0) (f := false) c1 (e1.at_ hb) hx (by simpa using hl) d1 d2 n1 n2 n3 n4 (by have := e1.size; omega) fun lm' ps' w' u hb' c' hn => ?_)
  exact h lm' ps' w' ((Up.of_ex e1).trans u) hb' (by simpa using c') hn

theorem k284 {base n0 vb cb pm vb0 pm0 vt : Nat} {lm lm0 : Option Nat} {mi mb li : Int} {xs ys : List Int} {ps : Ps} {x : Int} (c : CG base vb lm pm xs ys ps w) (hb : Bk w cb (.cells (Cfg vb lm) 136 (0, 0))) (hx : x ∉ xs ++ ys) (hl : ys.length + 1 ≤ 4)
    (d1 : vb ≠ pm) (d2 : ∀ b, lm = some b → b ≠ pm ∧ b ≠ vb) (n1 : n0 ≤ vb) (n2 : n0 ≤ pm) (n3 : n0 ≤ cb) (n4 : ∀ b, lm = some b → n0 ≤ b) (n5 : n0 ≤ w.heap.size)
    (h : ∀ lm' ps' w', Up (fun z => n0 ≤ z) [0, 138] w w' → Bk w' cb (.cells (Cfg vb lm') 136 (0, 0)) → CG base vb lm' pm xs (ys ++ [x]) ps' w' → (∀ b, lm' = some b → n0 ≤ b) → K (.tuple #[]) w') :
    CK Pr 284 #[.agg (Chg vb0 lm0 pm0 vt mi mb li), .pointer (some ⟨cb, 0, none⟩), .map (some pm), .int .u64 x] w K := by
  refine c284 ?_
  unfold t284
  unfold Chg
  refine e_boxA fun b2 w1 e1 hb2 s1 s2 => ?_
  have c1 := c.ex e1
  refine q_look (l := kvP ps) c1.pr.mp ?_
  rw [lk_none (by rw [kvP_keys]; exact fun hh => hx (c.keys.mem_iff.1 hh))]
  (repeat (first | (refine go ?_; intros) | (refine goK41 ?_; intros)))
  refine cl_fn (k317 (n0 := n0) (f := true) c1 (e1.at_ hb) hx (by simpa using hl) d1 d2 n1 n2 n3 n4 (by have := e1.size; omega) fun lm' ps' w' u hb' c' hn => ?_)
  exact h lm' ps' w' ((Up.of_ex e1).trans u) hb' (by simpa using c') hn

/-- The members behind a change. -/
def chX (kd x : Int) (xs : List Int) : List Int := if kd = 0 then xs ++ [x] else xs
def chY (kd x : Int) (ys : List Int) : List Int := if kd = 0 then ys else ys ++ [x]

theorem k220 {base n0 vb cb pm vb0 pm0 vt : Nat} {lm lm0 : Option Nat} {mi mb li kd : Int} {xs ys : List Int} {ps : Ps} {x : Int} {v p : Value} (c : CG base vb lm pm xs ys ps w) (hb : Bk w cb (.cells (Cfg vb lm) 136 (0, 0))) (hs : Sl w te 1 v [[p]]) (hp : PCh p kd x w) (hkd : kd = 0 ∨ kd = 3 ∧ xs ≠ []) (hx : x ∉ xs ++ ys) (hx0 : x ≠ 0) (hl : xs.length + 1 ≤ 9 ∨ kd = 3) (hl2 : ys.length + 1 ≤ 4 ∨ kd = 0)
    (d1 : vb ≠ pm) (d2 : ∀ b, lm = some b → b ≠ pm ∧ b ≠ vb) (n1 : n0 ≤ vb) (n2 : n0 ≤ pm) (n3 : n0 ≤ cb) (n4 : ∀ b, lm = some b → n0 ≤ b) (n5 : n0 ≤ w.heap.size)
    (h : ∀ lm' ps' w', Up (fun z => n0 ≤ z) [0, 138] w w' → Bk w' cb (.cells (Cfg vb lm') 136 (0, 0)) → CG base vb lm' pm (chX kd x xs) (chY kd x ys) ps' w' → (∀ b, lm' = some b → n0 ≤ b) → K .nilIface w') :
    CK Pr 220 #[.agg (Chg vb0 lm0 pm0 vt mi mb li), .pointer (some ⟨cb, 0, none⟩), .map (some pm), v] w K := by
  refine c220 ?_
  unfold t220
  unfold Chg
  refine e_boxA fun b2 w1 e1 hb2 s1 s2 => ?_
  have c1 := c.ex e1
  have hb1 := e1.at_ hb
  have hp1 := hp.ex e1
  refine q_lenSl (hs.ex e1) ?_
  refine loop_n (α := Bool) (fun a τ w' => if a then g τ 2 = .int .i64 1 ∧ ∃ lm' ps', Up (fun z => n0 ≤ z) [0, 138] w1 w' ∧ Bk w' cb (.cells (Cfg vb lm') 136 (0, 0)) ∧ CG base vb lm' pm (chX kd x xs) (chY kd x ys) ps' w' ∧ (∀ b, lm' = some b → n0 ≤ b) else g τ 2 = .int .i64 0 ∧ w' = w1) (fun a => if a then 0 else 1) false ⟨rfl, rfl⟩ ?_
  intro a τ w' R ha hR
  cases a with
  | false =>
    obtain ⟨hj, rfl⟩ := ha
    rw [hj]
    (repeat (first | (refine go ?_; intros) | (refine goK41 ?_; intros)))
    unfold t220_1
    unfold Jo
    rw [hj]
    refine q_ixs (x := p) 0 (hs.ex e1) rfl rfl fun _ => ?_
    refine cl_fn (k281 hp1 ?_)
    have h0 : (x == 0) = false := by simpa using hx0
    (repeat (first | (refine go ?_; intros) | (refine goK41 ?_; intros)))
    rw [h0]
    (repeat (first | (refine go ?_; intros) | (refine goK41 ?_; intros)))
    refine cl_fn (k282 hp1 ?_)
    rcases hkd with rfl | ⟨rfl, hne⟩
    · (repeat (first | (refine go ?_; intros) | (refine goK41 ?_; intros)))
      refine dr_rule (fun z => n0 ≤ z) [0, 138] fun w3 e3 z3 => ?_
      have hb3 := e3.at_ hb2
      refine q_ldWU hb3 rfl (by rfl) ?_
      refine cl_fn (k281 (hp1.ex e3) ⟨.refl _ _ _, ?_⟩)
      refine cl_fn (k283 (n0 := n0) (c1.ex e3) (e3.at_ hb1) hx (by rcases hl with hl | hl <;> omega) d1 d2 n1 n2 n3 n4 (by have := e1.size; omega) fun lm' ps' w4 u hb' c' hn => ⟨u, ?_⟩)
      (repeat (first | (refine go ?_; intros) | (refine goK41 ?_; intros)))
      refine hR true _ _ ⟨rfl, lm', ps', (Up.of_ex e3).trans u, hb', by simpa [chX, chY] using c', hn⟩ (by simp)
    · (repeat (first | (refine go ?_; intros) | (refine goK41 ?_; intros)))
      refine dr_rule (fun z => n0 ≤ z) [0, 138] fun w3 e3 z3 => ?_
      have hb3 := e3.at_ hb2
      refine q_ldWU hb3 rfl (by rfl) ?_
      refine cl_fn (k281 (hp1.ex e3) ⟨.refl _ _ _, ?_⟩)
      refine cl_fn (k284 (n0 := n0) (c1.ex e3) (e3.at_ hb1) hx (by rcases hl2 with hl | hl <;> omega) d1 d2 n1 n2 n3 n4 (by have := e1.size; omega) fun lm' ps' w4 u hb' c' hn => ⟨u, ?_⟩)
      (repeat (first | (refine go ?_; intros) | (refine goK41 ?_; intros)))
      refine hR true _ _ ⟨rfl, lm', ps', (Up.of_ex e3).trans u, hb', by simpa [chX, chY] using c', hn⟩ (by simp)
  | true =>
    obtain ⟨hj, lm', ps', u, hb', c', hn⟩ := ha
    rw [hj]
    unfold Cfg at hb'
    (repeat (first | (refine go ?_; intros) | (refine goK41 ?_; intros)))
    refine cl_fn (k222 fun w2 e2 => ?_)
    have c2 := c'.ex e2
    refine q_lenM (b := vb) (l := ms (chX kd x xs)) (fun w3 hw => by cases hw; exact c2.vo) ?_
    have hne : (((ms (chX kd x xs)).length : Nat) : Int) ≠ 0 := by
      have : chX kd x xs ≠ [] := by
        unfold chX
        rcases hkd with rfl | ⟨rfl, hne⟩
        · simp
        · simpa using hne
      have h2 : (chX kd x xs).length ≠ 0 := fun e => this (List.eq_nil_of_length_eq_zero e)
      simp only [ms, List.length_map]
      omega
    have h0 : ((((ms (chX kd x xs)).length : Nat) : Int) == 0) = false := by simpa using hne
    (repeat (first | (refine go ?_; intros) | (refine goK41 ?_; intros)))
    rw [h0]
    (repeat (first | (refine go ?_; intros) | (refine goK41 ?_; intros)))
    exact h lm' ps' w2 (((Up.of_ex e1).trans u).ex e2) (e2.at_ hb') c2 hn

end Go.Proofs.YtmmpogfbhelioaaGreat
/-
  Contracts: a configuration and its progress copied and checked; what two sets differ by; a simple change.
  Conditions: it adds a member that is none yet.
-/
namespace Go.Proofs.YtmmpogfbhelioaaGreat
set_option maxRecDepth 10000
set_option linter.unusedVariables false
set_option linter.unusedSimpArgs false
attribute [local irreducible] Instr.box Instr.alloc Instr.loadAt Instr.storeAt Instr.fieldAt Instr.indexAt Instr.build Instr.buildSlice Instr.makeSlice Instr.makeMap Instr.mapUpdate Instr.lookup Instr.range Instr.next Instr.entry Instr.extract Instr.makeInterface Instr.makeFunc Instr.sliceAt Instr.typeAssert Instr.field Instr.index Builtin.len_ Builtin.cap_ Builtin.max_ Builtin.min_ Builtin.append_ Builtin.copy_ Builtin.delete_ convert binS pickS nilS callV callM Op.unary Own Mp It Cu

section
variable {P : Program} {w : World} {KW : Value → World → Prop}
/-- A slice of two elements of two cells. -/
theorem e_bs22 {t e by' : Nat} [TSli P t e 2] [TElm P e 2 by'] {x0 x1 y0 y1 : Value}
    (k : ∀ w', Ex w w' → Own w' w.heap.size e 2 (.slice (some ⟨w.heap.size, 0, none⟩) 2 2) [[x0, x1], [y0, y1]] → w'.heap.size = w.heap.size + 1 → KW (.slice (some ⟨w.heap.size, 0, none⟩) 2 2) w') :
    Ef P (Instr.buildSlice t 2 #[(0, .agg #[x0, x1]), (1, .agg #[y0, y1])]) w KW := by
  obtain ⟨i, z', hi, hz, his, hib, hzs, h0⟩ := TElm.facts (P := P) e 2 by'
  haveI : TZero P e z' := ⟨by rw [hi]; exact hz⟩
  have hf : Instr.fill (fun i => some (i * 2, 2)) ((Array.range (2 * 2)).map (z'.cells[· % z'.cells.size]!)) #[(0, .agg #[x0, x1]), (1, .agg #[y0, y1])].toList = some #[x0, x1, y0, y1] := by
    rw [show #[((0 : Nat), Value.agg #[x0, x1]), (1, Value.agg #[y0, y1])].toList = [(0, .agg #[x0, x1]), (1, .agg #[y0, y1])] from rfl, fill_cons rfl (by rfl) (by simp), fill_cons rfl (by rfl) (by simp [cells_agg, putCells]), Instr.fill]
    simp [putCells, cells_agg]
    apply Array.ext
    · simp
    · intro j h1 h2
      simp at h2
      have : j = 0 ∨ j = 1 ∨ j = 2 ∨ j = 3 := by omega
      rcases this with rfl | rfl | rfl | rfl <;> simp
  refine .mk _ _ (run_bs (P := P) (t := t) (e := e) (n := 2) (m := 2) (cs := #[x0, x1, y0, y1]) (by omega) (by omega) hf) (k _ (Up.alloc _ _) (by
    unfold Own
    refine ⟨⟨?_, .inr ⟨_, 2, #[x0, x1, y0, y1], rfl, Nat.le_refl _, Bk.alloc_new _ _, Nat.le_refl _, by simp [maxLen], by simp, ?_⟩⟩, ?_⟩
    · simp
    · simp
    · intro a ha
      simp at ha
      rcases ha with rfl | rfl <;> rfl) (by simp))
end

variable {K : Value → World → Prop} {w : World} {te : Option Nat}

theorem k216 {base vb pm vt : Nat} {lm : Option Nat} {xs ys : List Int} {ps : Ps} {mi mb li : Int} (c : CG base vb lm pm xs ys ps w)
    (h : ∀ vb' lm' pm' xs' ys' ps' w', Ex w w' → w.heap.size ≤ vb' → (∀ b, lm' = some b → vb' < b ∧ b < pm') → vb' < pm' → xs'.Perm xs → ys'.Perm ys → CG base vb' lm' pm' xs' ys' ps' w' → K (.tuple #[.agg (Cfg vb' lm'), .map (some pm'), .nilIface]) w') : CK Pr 216 #[.agg (Chg vb lm pm vt mi mb li)] w K := by
  refine c216 ?_
  unfold t216
  refine e_boxA fun b1 w1 e1 hb1 s1 s2 => ?_
  refine e_allocA fun b2 w2 e2 hb2 s3 s4 => ?_
  have hb12 := e2.at_ hb1
  have c2 := (c.ex e1).ex e2
  refine q_fa ?_
  refine q_fa ?_
  refine cl_fn (k280 c2 hb12 fun vb' lm' xs' ys' w3 e3 h3 h4 px py mv ml => ?_)
  refine e_allocA fun b4 w4 e4 hb4 s5 s6 => ?_
  refine u_stA hb4 (Nat.le_of_ble_eq_true rfl) (by rfl) (by rfl) nmK40 fun w5 u5 hb5 z5 => ?_
  refine e_mkmap (by intro v hv; cases hv) fun w6 e6 m6 s7 => ?_
  have zz1 := e1.size
  have zz2 := e2.size
  have zz3 := e3.size
  have zz4 := e4.size
  have ex45 : Ex w3 w5 := e4.new u5 (by intro x hx; omega)
  have ex6 : Ex w w6 := (((e1.trans e2).trans e3).trans ex45).trans e6
  have ex36 : Ex w3 w6 := ex45.trans e6
  have hb16 : Bk w6 b1 (.cells (Chg vb lm pm vt mi mb li) 209 (0, 0)) := ex36.at_ (e3.at_ hb12)
  have hb26 := ex36.at_ (e3.at_ hb2)
  have hb56 := e6.at_ hb5
  have c6 := c.ex ex6
  have mv6 := mv.ex ex36
  have ml6 := ml.ex ex36
  have hvl := mv.lt
  have hpl := c.pr.mp.lt
  have hll : ∀ b, lm' = some b → b < w3.heap.size := fun b hb => by subst hb; exact Mp.lt (show Mp w3 b _ from ml)
  clear hb4 hb5 hb12 hb1
  unfold Chg at hb16
  (repeat (first | (refine go ?_; intros) | (refine goK40 ?_; intros)))
  refine e_for (show MpO w6 (some pm) (kvP ps) from c6.pr.mp) (fun done τ w' => Ex w w' ∧ Up (fun z => w5.heap.size ≤ z) [0, 1, 154] w6 w' ∧ ∃ pq : Ps, pq.map (·.1) = done.map (fun x : Int × Value => x.1) ∧ Prs base w5.heap.size pq w' ∧ ∀ x ∈ pq, ∃ y ∈ ps, y.1 = x.1 ∧ x.2.2 = y.2.2) (fun w7 e7 z7 => ⟨ex6.trans e7, .of_ex e7, [], rfl, ⟨m6.ex e7, .nil, fun x hx => (by cases hx), by have := c.pr.b0; omega⟩, fun x hx => (by cases hx)⟩) ?_
  rintro v R τ w7 done hz7 ⟨ex7, u7, pq, hpk, prs, hpq⟩ nx
  have z67 := u7.size
  refine nx (fun hperm => ?_) fun p rest w8 hp hpm u8 z8 en fwd => ?_
  · (refine q_ext (x := .bool false) rfl ?_; refine if_f ?_)
    have hb57 := u7.off hb56 (by intro hh; have := hb56.lt; omega)
    refine q_ldW hb57 (by rfl) ?_
    have keys : (pq.map (·.1)).Perm (ps.map (·.1)) := by
      rw [hpk]
      have := hperm.map (fun x : Int × Value => x.1)
      rw [kvP_keys] at this
      exact this
    have pxy : (xs' ++ ys').Perm (xs ++ ys) := List.Perm.append px py
    have cN : CG base vb' lm' w5.heap.size xs' ys' pq w7 := by
      refine ⟨mv6.up u7 (.inr (by omega)), ml6.up u7 (.inr fun b hb => by have := hll b hb; omega), prs, (keys.trans c.keys).trans pxy.symm, pxy.nodup_iff.2 c.nd, fun x hx => ?_, by rw [px.length_eq]; exact c.lx, by rw [py.length_eq]; exact c.ly⟩
      obtain ⟨y, hy, hy1, hy2⟩ := hpq x hx
      rw [hy2, c.lea y hy, hy1]
      by_cases hm : x.1 ∈ ys
      · rw [decide_eq_true hm, decide_eq_true (py.mem_iff.2 hm)]
      · rw [decide_eq_false hm, decide_eq_false (fun h => hm (py.mem_iff.1 h))]
    refine cl_fn (k223 cN fun w8 e8 => ?_)
    have hb28 := e8.at_ (u7.off hb26 (by intro hh; have := hb26.lt; omega))
    (repeat (first | (refine go ?_; intros) | (refine goK40 ?_; intros)))
    rename_i w9 u9 hb9 z9
    refine h vb' lm' w5.heap.size xs' ys' pq w9 ((ex7.trans e8).new u9 (by intro x hx; omega)) (by omega) (fun b hb => ⟨h4 b hb, by have := hll b hb; omega⟩) (by omega) px py ?_
    have c8 := cN.ex e8
    exact ⟨c8.vo.up u9 (.inl rfl), c8.le.up u9 (.inl rfl), c8.pr.up u9 (.inl rfl) (.inl rfl) rfl, c8.keys, c8.nd, c8.lea, c8.lx, c8.ly⟩
  · obtain ⟨z, hz, rfl⟩ := List.mem_map.1 hpm
    (refine q_ext (x := .bool true) rfl ?_; refine if_t ?_)
    refine en ?_
    have ex8 : Ex w w8 := ex7.new u8 (by intro x hx; omega)
    have c8 := c.ex ex8
    obtain ⟨p0, ib, hib, hpb, hinf⟩ := c8.pr.pg z hz
    (repeat (first | (refine go ?_; intros) | (refine goK40 ?_; intros)))
    rename_i nb w9 e9 hb9 s9 s9' w10 u10 hb10 z10
    clear hb9
    have E10 : Ex w8 w10 := e9.new u10 (by intro x hx; omega)
    have prs8 : Prs base w5.heap.size pq w8 := prs.up u8 (.inl rfl) (.inl rfl) rfl
    have prs10 := prs8.ex E10
    refine u_put prs10.mp fun w11 u11 m11 z11 => ?_
    have zz9 := e9.size
    have hq : PG base nb z.2.2 w11 := ⟨by have := c.pr.b0; omega, ib, hib, u11.at_ hb10 rfl, u11.at_ (E10.at_ hinf) rfl⟩
    have hnew : z.1 ∉ pq.map (·.1) := by
      rw [hpk]
      have := fkeys hp (by rw [kvP_keys]; exact c.keys.nodup_iff.2 c.nd)
      exact this
    have prs11 := prs10.put (b := nb) u11 m11 (prs8.fresh (by omega)) hq
    have T8 : Up (fun z => w5.heap.size ≤ z) [0, 1, 154] w6 w8 := u7.trans (u8.mono (fun y _ hy => by omega) (fun k hk => by simp at hk; simp [hk]))
    have T11 : Up (fun z => w5.heap.size ≤ z) [0, 1, 154] w6 w11 := (T8.ex E10).trans (u11.mono (fun y _ hy => by omega) (fun k hk => by simp at hk; simp [hk]))
    refine fwd _ w11 (fun x => x = w5.heap.size) [0] (((Up.of_ex E10)).trans u11) (.inl rfl) (.inr fun b hb => by cases hb; omega) ⟨(ex8.trans E10).new u11 (by intro x hx; omega), T11, putP pq z.1 nb z.2.2, ?_, prs11, ?_⟩
    · rw [putP_new hnew, hpk, List.map_append]
      rfl
    · intro x hx
      rcases putP_mem hx with rfl | hx
      · exact ⟨z, hz, rfl, rfl⟩
      · exact hpq x hx

end Go.Proofs.YtmmpogfbhelioaaGreat
/-
  Contracts: what two sets differ by; a simple change.
  Conditions: it adds a member that is none yet.
-/
namespace Go.Proofs.YtmmpogfbhelioaaGreat
set_option maxRecDepth 10000
set_option linter.unusedVariables false
set_option linter.unusedSimpArgs false
attribute [local irreducible] Instr.box Instr.alloc Instr.loadAt Instr.storeAt Instr.fieldAt Instr.indexAt Instr.build Instr.buildSlice Instr.makeSlice Instr.makeMap Instr.mapUpdate Instr.lookup Instr.range Instr.next Instr.entry Instr.extract Instr.makeInterface Instr.makeFunc Instr.sliceAt Instr.typeAssert Instr.field Instr.index Builtin.len_ Builtin.cap_ Builtin.max_ Builtin.min_ Builtin.append_ Builtin.copy_ Builtin.delete_ convert binS pickS nilS callV callM Op.unary Own Mp It Cu

variable {K : Value → World → Prop} {w : World} {te : Option Nat}

/-- How many of a list are not in another one. -/
def cnt (l d : List Int) : Nat := (d.filter fun y => decide (y ∉ l)).length
theorem cnt_app (l d : List Int) (x : Int) : cnt l (d ++ [x]) = cnt l d + if x ∈ l then 0 else 1 := by
  unfold cnt
  rw [List.filter_append, List.length_append]
  by_cases h : x ∈ l <;> simp [h]
theorem cnt_perm {l d d' : List Int} (h : d.Perm d') : cnt l d = cnt l d' := (h.filter _).length_eq
theorem cnt_le {l r : List Int} {x : Int} (hn : r.Nodup) (h : ∀ y ∈ r, y ∉ l → y = x) : cnt l r ≤ 1 := by
  unfold cnt
  have h1 : (r.filter fun y => decide (y ∉ l)).Nodup := hn.filter _
  have h2 : ∀ y ∈ r.filter fun y => decide (y ∉ l), y = x := fun y hy => by
    have := List.mem_filter.1 hy
    exact h y this.1 (by simpa using this.2)
  generalize r.filter (fun y => decide (y ∉ l)) = d at h1 h2
  match d, h1, h2 with
  | [], _, _ => simp
  | [_], _, _ => simp
  | a :: b :: t, h1, h2 =>
    have ha := h2 a (by simp)
    have hb := h2 b (by simp)
    have := (List.nodup_cons.1 h1).1
    exact absurd (by rw [ha, hb]; simp) this

theorem k221 {va vb : Nat} {l r : List Int} {x : Int} (ha : Mp w va (ms l)) (hb : Mp w vb (ms r)) (hl : l.Nodup) (hr : r.Nodup) (hlr : ∀ y ∈ l, y ∈ r) (hrl : ∀ y ∈ r, y ∉ l → y = x) (hz : l.length ≤ 100 ∧ r.length ≤ 100)
    (h : ∀ (n : Nat) w', Ex w w' → n ≤ 1 → K (.int .i64 (n : Nat)) w') : CK Pr 221 #[.map (some va), .map (some vb)] w K := by
  refine c221 ?_
  unfold t221
  refine b133_0_1 rfl rfl ?_
  refine b133_0_1 rfl rfl ?_
  refine e_bs22 fun w1 e1 o1 z1 => ?_
  refine q_lenSl o1.sl ?_
  refine loop_n (α := Nat) (fun j τ w' => g τ 5 = .int .i64 j ∧ j ≤ 2 ∧ Ex w1 w' ∧ (j ≤ 1 → g τ 0 = .int .i64 0) ∧ (j = 2 → g τ 0 = .int .i64 (cnt l r : Nat))) (fun j => 2 - j) 0 ⟨rfl, by omega, .refl _ _ _, fun _ => rfl, fun h => by omega⟩ ?_
  rintro j τ w' R ⟨hj, hle, ex, hn0, hn2⟩ hR
  rw [hj]
  (repeat (first | (refine go ?_; intros) | (refine gon ?_; intros)))
  refine if_split (fun hbj => ?_) (fun hbj => ?_)
  · have hj2 : j < 2 := by
      have := of_decide_eq_true hbj
      simp at this
      omega
    replace hn0 := hn0 (by omega)
    have zx := ex.size
    have hj3 : j = 0 ∨ j = 1 := by omega
    rcases hj3 with rfl | rfl
    · refine q_ixa 0 (o1.sl.ex ex) rfl rfl fun _ => ?_
      (repeat (first | (refine go ?_; intros) | (refine gon ?_; intros)))
      rename_i b2 w2 e2 hb2 s2 s2' w3 u3 hb3 z3
      clear hb2
      have ex3 : Ex w1 w3 := (ex.trans e2).new u3 (by intro x hx; omega)
      refine q_ia 0 rfl (by omega) ?_
      (repeat (first | (refine go ?_; intros) | (refine gon ?_; intros)))
      have zx3 := ex3.size
      refine e_for (show MpO w3 (some va) (ms l) from Mp.ex (e1.trans ex3) ha) (fun done τ' w4 => g τ' 0 = .int .i64 0 ∧ Ex w1 w4 ∧ Ex w3 w4) (fun w4 e4 z4 => ⟨hn0, ex3.trans e4, e4⟩) ?_
      rintro v Rr τ' w4 done hz4 ⟨hn4, ex4, e34⟩ nx
      refine nx (fun hperm => ?_) fun p rest w5 hp hpl u5 z5 en fwd => ?_
      · (refine q_ext (x := .bool false) rfl ?_; refine if_f ?_)
        (repeat (first | (refine go ?_; intros) | (refine gon ?_; intros)))
        rw [hn4]
        exact hR 1 _ _ ⟨rfl, by omega, ex4, fun _ => rfl, fun h => by omega⟩ (by omega)
      · (refine q_ext (x := .bool true) rfl ?_; refine if_t ?_)
        refine en ?_
        have ex5 : Ex w1 w5 := ex4.new u5 (by intro x hx; omega)
        have e35 : Ex w3 w5 := e34.new u5 (by intro x hx; omega)
        have hb5 := e35.at_ hb3
        refine q_ext (x := .int .u64 p.1) rfl ?_
        refine q_ia 1 rfl (by omega) ?_
        (repeat (first | (refine go ?_; intros) | (refine gon ?_; intros)))
        refine q_look (l := ms r) (Mp.ex (e1.trans ex5) hb) ?_
        rw [lk_ms, if_pos (hlr _ (ms_mem hpl).1)]
        (repeat (first | (refine go ?_; intros) | (refine gon ?_; intros)))
        rename_i b6 w6 e6 hb6 s6 s6' w7 u7 hb7 z7
        have zx5 := ex5.size
        refine fwd _ w7 (fun x => x = b6) [158] ((Up.of_ex e6).trans u7) (.inl rfl) (.inl rfl) ⟨hn4, (ex5.trans e6).new u7 (by intro x hx; omega), (e35.trans e6).new u7 (by intro x hx; have := e35.size; omega)⟩
    · refine q_ixa 1 (o1.sl.ex ex) rfl rfl fun _ => ?_
      (repeat (first | (refine go ?_; intros) | (refine gon ?_; intros)))
      rename_i b2 w2 e2 hb2 s2 s2' w3 u3 hb3 z3
      clear hb2
      have ex3 : Ex w1 w3 := (ex.trans e2).new u3 (by intro x hx; omega)
      refine q_ia 0 rfl (by omega) ?_
      (repeat (first | (refine go ?_; intros) | (refine gon ?_; intros)))
      have zx3 := ex3.size
      refine e_for (show MpO w3 (some vb) (ms r) from Mp.ex (e1.trans ex3) hb) (fun done τ' w4 => g τ' 0 = .int .i64 (cnt l (done.map (fun x : Int × Value => x.1)) : Nat) ∧ done.length ≤ 100 ∧ Ex w1 w4 ∧ Ex w3 w4) (fun w4 e4 z4 => ⟨hn0, by simp, ex3.trans e4, e4⟩) ?_
      rintro v Rr τ' w4 done hz4 ⟨hn4, hdl, ex4, e34⟩ nx
      refine nx (fun hperm => ?_) fun p rest w5 hp hpl u5 z5 en fwd => ?_
      · (refine q_ext (x := .bool false) rfl ?_; refine if_f ?_)
        (repeat (first | (refine go ?_; intros) | (refine gon ?_; intros)))
        rw [hn4]
        have hpk : (done.map (fun x : Int × Value => x.1)).Perm r := by
          have := hperm.map (fun x : Int × Value => x.1)
          rw [ms_keys] at this
          exact this
        rw [cnt_perm hpk]
        exact hR 2 _ _ ⟨rfl, by omega, ex4, fun h => by omega, fun _ => rfl⟩ (by omega)
      · (refine q_ext (x := .bool true) rfl ?_; refine if_t ?_)
        refine en ?_
        have ex5 : Ex w1 w5 := ex4.new u5 (by intro x hx; omega)
        have e35 : Ex w3 w5 := e34.new u5 (by intro x hx; omega)
        have hb5 := e35.at_ hb3
        have hdl2 : done.length + 1 ≤ 100 := by
          have := hp.length_eq
          simp [ms] at this
          omega
        have hcl : cnt l (done.map (fun x : Int × Value => x.1)) ≤ 100 := by
          unfold cnt
          refine Nat.le_trans (List.length_filter_le _ _) ?_
          simpa using hdl
        refine q_ext (x := .int .u64 p.1) rfl ?_
        refine q_ia 1 rfl (by omega) ?_
        (repeat (first | (refine go ?_; intros) | (refine gon ?_; intros)))
        refine q_look (l := ms l) (Mp.ex (e1.trans ex5) ha) ?_
        rw [lk_ms]
        have hca := cnt_app l (done.map (fun x : Int × Value => x.1)) p.1
        by_cases hpm : p.1 ∈ l
        · rw [if_pos hpm]
          rw [if_pos hpm] at hca
          (repeat (first | (refine go ?_; intros) | (refine gon ?_; intros)))
          rename_i b6 w6 e6 hb6 s6 s6' w7 u7 hb7 z7
          have zx5 := ex5.size
          refine fwd _ w7 (fun x => x = b6) [158] ((Up.of_ex e6).trans u7) (.inl rfl) (.inl rfl) ⟨?_, by simpa using hdl2, (ex5.trans e6).new u7 (by intro x hx; omega), (e35.trans e6).new u7 (by intro x hx; have := e35.size; omega)⟩
          rw [List.map_append, List.map_singleton, hca, Nat.add_zero]
          exact hn4
        · rw [if_neg hpm]
          rw [if_neg hpm] at hca
          (repeat (first | (refine go ?_; intros) | (refine gon ?_; intros)))
          rename_i b6 w6 e6 hb6 s6 s6' w7 u7 hb7 z7
          have zx5 := ex5.size
          rw [hn4]
          (repeat (first | (refine go ?_; intros) | (refine gon ?_; intros)))
          refine fwd _ w7 (fun x => x = b6) [158] ((Up.of_ex e6).trans u7) (.inl rfl) (.inl rfl) ⟨?_, by simpa using hdl2, (ex5.trans e6).new u7 (by intro x hx; omega), (e35.trans e6).new u7 (by intro x hx; have := e35.size; omega)⟩
          rw [List.map_append, List.map_singleton, hca]
          rw [← wrapS (by omega)]
          rfl
  · have hj2 : j = 2 := by
      have := of_decide_eq_false hbj
      simp at this
      omega
    rw [hn2 hj2]
    exact h _ _ (e1.trans ex) (cnt_le hr hrl)

end Go.Proofs.YtmmpogfbhelioaaGreat
/-
  Contracts: a simple change of a configuration; the changes out of a configuration; a chain of them; Restore.
  Conditions: the configuration is not joint, all its members differ, and there is a voter.
-/
namespace Go.Proofs.YtmmpogfbhelioaaGreat
set_option maxRecDepth 10000
set_option linter.unusedVariables false
set_option linter.unusedSimpArgs false
attribute [local irreducible] Instr.box Instr.alloc Instr.loadAt Instr.storeAt Instr.fieldAt Instr.indexAt Instr.build Instr.buildSlice Instr.makeSlice Instr.makeMap Instr.mapUpdate Instr.lookup Instr.range Instr.next Instr.entry Instr.extract Instr.makeInterface Instr.makeFunc Instr.sliceAt Instr.typeAssert Instr.field Instr.index Builtin.len_ Builtin.cap_ Builtin.max_ Builtin.min_ Builtin.append_ Builtin.copy_ Builtin.delete_ convert binS pickS nilS callV callM Op.unary Own Mp It Cu

variable {K : Value → World → Prop} {w : World} {te : Option Nat}

theorem chX_mem {kd x y : Int} {xs : List Int} (h : y ∈ xs) : y ∈ chX kd x xs := by
  unfold chX
  split
  · exact List.mem_append_left _ h
  · exact h

theorem k152 {base vb pm vt : Nat} {lm : Option Nat} {mi mb li kd : Int} {xs ys : List Int} {ps : Ps} {x : Int} {v p : Value} (c : CG base vb lm pm xs ys ps w) (hs : Sl w te 1 v [[p]]) (hp : PCh p kd x w) (hkd : kd = 0 ∨ kd = 3 ∧ xs ≠ []) (hx : x ∉ xs ++ ys) (hx0 : x ≠ 0) (hl : xs.length + 1 ≤ 9 ∨ kd = 3) (hl2 : ys.length + 1 ≤ 4 ∨ kd = 0)
    (h : ∀ vb' lm' pm' xs' ys' ps' w', Ex w w' → xs'.Perm (chX kd x xs) → ys'.Perm (chY kd x ys) → CG base vb' lm' pm' xs' ys' ps' w' → K (.tuple #[.agg (Cfg vb' lm'), .map (some pm'), .nilIface]) w') :
    CK Pr 152 #[.agg (Chg vb lm pm vt mi mb li), v] w K := by
  refine c152 ?_
  unfold t152
  refine e_boxA fun b1 w1 e1 hb1 s1 s2 => ?_
  refine e_allocA fun b2 w2 e2 hb2 s3 s4 => ?_
  have hb12 := e2.at_ hb1
  refine q_ldW hb12 (by rfl) ?_
  refine cl_fn (k216 ((c.ex e1).ex e2) fun vb3 lm3 pm3 xs3 ys3 ps3 w3 e3 n1 n2 n3 px py c3 => ?_)
  refine q_ext (x := .agg (Cfg vb3 lm3)) rfl ?_
  refine q_ext (x := .map (some pm3)) rfl ?_
  refine q_ext (x := .nilIface) rfl ?_
  refine e_allocA fun cb w4 e4 hb4 s5 s6 => ?_
  refine u_stA hb4 (Nat.le_of_ble_eq_true rfl) (by rfl) (by rfl) nmK41 fun w5 u5 hb5 z5 => ?_
  clear hb4
  have zz1 := e1.size
  have zz2 := e2.size
  have zz3 := e3.size
  have zz4 := e4.size
  have ex5 : Ex w3 w5 := e4.new u5 (by intro z hz; omega)
  have E5 : Ex w w5 := ((e1.trans e2).trans e3).trans ex5
  have hb15 := ex5.at_ (e3.at_ hb12)
  have hb25 := ex5.at_ (e3.at_ hb2)
  have c5 := c3.ex ex5
  (repeat (first | (refine go ?_; intros) | (refine goK41 ?_; intros)))
  unfold t152_2
  refine q_ldW hb5 (by rfl) ?_
  refine cl_fn (k218 (vb := vb3) (lm := lm3) fun w6 e6 => ?_)
  (repeat (first | (refine go ?_; intros) | (refine goK41 ?_; intros)))
  unfold t152_1
  have hb16 := e6.at_ hb15
  have hb26 := e6.at_ hb25
  have hb56 : Bk w6 cb (.cells (Cfg vb3 lm3) 136 (0, 0)) := e6.at_ hb5
  have E6 := E5.trans e6
  have zz6 := E6.size
  clear hb5 hb15 hb25 hb1 hb12 hb2
  refine q_ldW hb16 (by rfl) ?_
  have pxy : (xs3 ++ ys3).Perm (xs ++ ys) := List.Perm.append px py
  refine cl_fn (k220 (n0 := w2.heap.size) (te := te) (c5.ex e6) hb56 (hs.ex E6) (hp.ex E6) (by
      rcases hkd with hkd | ⟨hkd, hne⟩
      · exact .inl hkd
      · refine .inr ⟨hkd, fun e => hne ?_⟩
        rw [e] at px
        exact List.perm_nil.1 px.symm) (fun hh => hx (pxy.mem_iff.1 hh)) hx0 (by rw [px.length_eq]; exact hl) (by rw [py.length_eq]; exact hl2) (by omega) (fun b hb => by have := n2 b hb; omega) n1 (by omega) (by omega) (fun b hb => by have := n2 b hb; omega) (by have := e6.size; omega) fun lm7 ps7 w7 u7 hb7 c7 hn7 => ?_)
  have E7 : Ex w w7 := E6.new u7 (by intro z hz; omega)
  have hb17 := u7.at_ hb16 rfl
  have hb27 := u7.off hb26 (by intro hh; omega)
  clear hb16 hb26 hb56
  (repeat (first | (refine go ?_; intros) | (refine goK41 ?_; intros)))
  refine dr_rule No [] fun w8 e8 z8 => ?_
  have hb18 := e8.at_ hb17
  have hb78 := e8.at_ hb7
  have c8 := c7.ex e8
  unfold Chg at hb18
  unfold Cfg at hb78
  (repeat (first | (refine go ?_; intros) | (refine goK41 ?_; intros)))
  refine cl_fn (k222 fun w9 e9 => ⟨e9, ?_⟩)
  have hb79 := e9.at_ hb78
  (repeat (first | (refine go ?_; intros) | (refine goK41 ?_; intros)))
  refine cl_fn (k222 fun w10 e10 => ⟨e9.trans e10, ?_⟩)
  have c10 := c8.ex (e9.trans e10)
  have cold : CG base vb lm pm xs ys ps w10 := c.ex (E7.trans (e8.trans (e9.trans e10)))
  refine cl_fn (k221 (x := x) cold.vo c10.vo cold.ndx c10.ndx (fun y hy => chX_mem (px.mem_iff.2 hy)) (fun y hy hny => by
      unfold chX at hy
      split at hy
      · rcases List.mem_append.1 hy with hy | hy
        · exact absurd (px.mem_iff.1 hy) hny
        · exact List.mem_singleton.1 hy
      · exact absurd (px.mem_iff.1 hy) hny) ⟨by have := c.lx; omega, by have := c10.lx; omega⟩ fun n w11 e11 hn => ⟨(e9.trans e10).trans e11, ?_⟩)
  have hb711 := e11.at_ (e10.at_ hb79)
  (repeat (first | (refine go ?_; intros) | (refine goK41 ?_; intros)))
  rw [decide_eq_false (show ¬ ((1 : Int) < (n : Nat)) by omega)]
  refine if_f ?_
  refine q_ldW hb711 (by rfl) ?_
  refine cl_fn (k223 (c10.ex e11) fun w12 e12 => ?_)
  refine q_ext (x := .agg (Cfg vb3 lm7)) rfl ?_
  refine q_ext (x := .map (some pm3)) rfl ?_
  refine q_ext (x := .nilIface) rfl ?_
  have E78 : Ex w7 w12 := (((e8.trans e9).trans e10).trans e11).trans e12
  have hb212 := E78.at_ hb27
  refine u_stA hb212 (Nat.le_of_ble_eq_true rfl) (by rfl) (by rfl) nmK41 fun w13 u13 hb13 z13 => ?_
  refine q_ldW hb13 (by rfl) ?_
  have c13 := (c10.ex e11).ex e12
  refine h vb3 lm7 pm3 _ _ ps7 w13 ((E7.trans E78).new u13 (by intro z hz; omega)) ?_ ?_ ⟨c13.vo.up u13 (.inl rfl), c13.le.up u13 (.inl rfl), c13.pr.up u13 (.inl rfl) (.inl rfl) rfl, c13.keys, c13.nd, c13.lea, c13.lx, c13.ly⟩
  · unfold chX
    split
    · exact px.append_right _
    · exact px
  · unfold chY
    split
    · exact py
    · exact py.append_right _

theorem k151 {base vb pm vt pb : Nat} {lm : Option Nat} {mi mb li kd : Int} {xs ys : List Int} {ps : Ps} {x : Int} {p : Value} (c : CG base vb lm pm xs ys ps w) (hb : Bk w pb (.cells #[p] 251 (0, 0))) (hp : PCh p kd x w) (hkd : kd = 0 ∨ kd = 3 ∧ xs ≠ []) (hx : x ∉ xs ++ ys) (hx0 : x ≠ 0) (hl : xs.length + 1 ≤ 9 ∨ kd = 3) (hl2 : ys.length + 1 ≤ 4 ∨ kd = 0)
    (h : ∀ vb' lm' pm' xs' ys' ps' w', Ex w w' → xs'.Perm (chX kd x xs) → ys'.Perm (chY kd x ys) → CG base vb' lm' pm' xs' ys' ps' w' → K (.tuple #[.agg (Cfg vb' lm'), .map (some pm'), .nilIface]) w') :
    CK Pr 151 #[.agg (Chg vb lm pm vt mi mb li), .pointer (some ⟨pb, 0, none⟩)] w K := by
  refine c151 ?_
  unfold t151
  refine e_boxA fun b1 w1 e1 hb1 s1 s2 => ?_
  refine e_allocA fun b2 w2 e2 hb2 s3 s4 => ?_
  have hb12 := e2.at_ hb1
  have hbp := e2.at_ (e1.at_ hb)
  refine q_ldW hb12 (by rfl) ?_
  refine q_ld (x := p) hbp (by rfl) ?_
  have po := hp.one
  refine e_bs1 (n := 1) (by rw [one_cells' po]; rfl) (by omega) fun w3 e3 o3 z3 => ?_
  rw [one_cells' po] at o3
  have E3 : Ex w w3 := (e1.trans e2).trans e3
  refine cl_fn (k152 (te := some 251) (c.ex E3) o3.sl (hp.ex E3) hkd hx hx0 hl hl2 fun vb' lm' pm' xs' ys' ps' w4 e4 px py c4 => ?_)
  refine q_ext (x := .agg (Cfg vb' lm')) rfl ?_
  refine q_ext (x := .map (some pm')) rfl ?_
  refine q_ext (x := .nilIface) rfl ?_
  have hb24 := e4.at_ (e3.at_ hb2)
  refine u_stA hb24 (Nat.le_of_ble_eq_true rfl) (by rfl) (by rfl) nmK41 fun w5 u5 hb5 z5 => ?_
  refine q_ldW hb5 (by rfl) ?_
  have zz1 := e1.size
  exact h vb' lm' pm' xs' ys' ps' w5 ((E3.trans e4).new u5 (by intro z hz; omega)) px py ⟨c4.vo.up u5 (.inl rfl), c4.le.up u5 (.inl rfl), c4.pr.up u5 (.inl rfl) (.inl rfl) rfl, c4.keys, c4.nd, c4.lea, c4.lx, c4.ly⟩

end Go.Proofs.YtmmpogfbhelioaaGreat
