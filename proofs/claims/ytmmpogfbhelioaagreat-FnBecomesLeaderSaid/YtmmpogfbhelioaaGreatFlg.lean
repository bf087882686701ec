/-
  PARTS: K22 K23 Gd K24 K25 Eq K26 K29 K30 K31 K32 K33 K34 K35 K5 K36.
-/
import Derived.Test.YtmmpogfbhelioaaGreatFlf
import Derived.Test.YtmmpogfbhelioaaGreatFla
import Derived.Defers
import Derived.Recover
import Derived.Tactics
import Derived.Tactics2
import Derived.Laws.Pointers
import Derived.Test.YtmmpogfbhelioaaGreatFlb
import Derived.Test.YtmmpogfbhelioaaGreatFle
/-
  Contracts: the machine is set back; it becomes a follower, a candidate, a candidate ahead of the vote.
  Conditions: each one's own.
-/
namespace Go.Proofs.YtmmpogfbhelioaaGreat
set_option maxRecDepth 10000
set_option linter.unusedVariables false
set_option linter.unusedSimpArgs false
theorem nmK22 {p : Prop} (h : p := by (try simp only [List.getElem?_toArray, List.getElem?_cons_zero, List.getElem?_cons_succ, List.setIfInBounds_toArray, List.set_cons_zero, List.set_cons_succ, List.toList_toArray, List.drop_zero, List.drop_succ_cons, List.take_zero, List.take_succ_cons, Nat.zero_add, Nat.add_zero, Nat.reduceAdd, putCells, Rf.cells]) <;> rfl) : p := h
theorem goK22 {G H : Prop} (h : H) (s : Stp G H := by (apply Stp.of; intro hS; (first | (refine q_ld bk_ nmK22 ?_) | (refine q_ldU bk_ rfl nmK22 ?_) | (refine q_ldW bk_ (by rfl) ?_) | (refine q_ldWU bk_ rfl (by rfl) ?_) | (refine q_ldP bk_ (Nat.le_of_ble_eq_true rfl) nmK22 ?_) | (refine q_ldPU bk_ rfl (Nat.le_of_ble_eq_true rfl) nmK22 ?_) | (refine q_ext nmK22 ?_) | (refine u_st bk_ (Nat.le_of_ble_eq_true rfl) (by first | rfl | assumption) nmK22 ?_) | (refine u_stA bk_ (Nat.le_of_ble_eq_true rfl) (by rfl) (by rfl) nmK22 ?_) | (refine q_field nmK22 ?_)); exact hS.out)) : G := s.f h
set_option linter.unusedVariables false
set_option linter.unusedSimpArgs false
attribute [local irreducible] Instr.box Instr.alloc Instr.loadAt Instr.storeAt Instr.fieldAt Instr.indexAt Instr.build Instr.buildSlice Instr.makeSlice Instr.makeMap Instr.mapUpdate Instr.lookup Instr.range Instr.next Instr.entry Instr.extract Instr.makeInterface Instr.makeFunc Instr.sliceAt Instr.typeAssert Instr.field Instr.index Builtin.len_ Builtin.cap_ Builtin.max_ Builtin.min_ Builtin.append_ Builtin.copy_ Builtin.delete_ convert binS pickS nilS callV callM Op.unary Own Mp It Cu


variable {K : Value → World → Prop} {w : World} {te : Option Nat}

theorem nodup_inj {α β : Type} {f : α → β} {l : List α} (hn : (l.map f).Nodup) {x y : α} (hx : x ∈ l) (hy : y ∈ l) (h : f x = f y) : x = y := by
  induction l with
  | nil => cases hx
  | cons a l ih =>
    rw [List.map_cons, List.nodup_cons] at hn
    rcases List.mem_cons.1 hx with hx | hx <;> rcases List.mem_cons.1 hy with hy | hy
    · rw [hx, hy]
    · exact absurd (List.mem_map.2 ⟨y, hy, by rw [← h, hx]⟩) hn.1
    · exact absurd (List.mem_map.2 ⟨x, hx, by rw [h, hy]⟩) hn.1
    · exact ih hn.2 hx hy

theorem LG.sbk {base lb : Nat} {L : Lg} (h : LG base lb L w) : ∃ cs, Bk w L.sb (.cells cs 225 (0, 0)) := by
  obtain ⟨_, _, _, _, _, h2, _⟩ := h
  obtain ⟨_, _, _, _, _, _, _, _, _, h1, _⟩ := h2
  exact ⟨_, h1⟩
theorem LG.b1 {base lb : Nat} {L : Lg} (h : LG base lb L w) : base ≤ L.sb ∧ base ≤ lb := by
  obtain ⟨_, _, _, _, _, _, _, _, _, _, _, h8, h9, _⟩ := h
  exact ⟨h9, h8⟩

/-- A field of the machine that is no pointer turned. -/
theorem RM.put {base b : Nat} {R R' : Rf} {L : Lg} {ps : Ps} {vo le : List Int} {w' : World} (r : RM base b R L ps vo le w) (u : Up (fun x => x = b) [189] w w') (hb : Bk w' b (.cells R'.cells 187 (0, 0)))
    (h : R'.lb = R.lb ∧ R'.pm = R.pm ∧ R'.vb = R.vb ∧ R'.lm = R.lm ∧ R'.vt = R.vt ∧ R'.ro = R.ro) : RM base b R' L ps vo le w' := by
  obtain ⟨h1, h2, h3, h4, h5, h6⟩ := h
  refine ⟨hb, r.b0, ?_, r.lok, ?_, ?_, ?_, ?_, ?_⟩
  · rw [h1]; exact r.lg.mt rfl rfl rfl rfl u
  · rw [h2]; exact r.pr.up u (.inl rfl) (.inl rfl) rfl
  · rw [h3]; exact r.vo.up u (.inl rfl)
  · rw [h4]; exact r.le.up u (.inl rfl)
  · rw [h5]; exact r.vt.up u (.inl rfl)
  · rw [h6]; exact r.ro.mt u rfl

theorem rs_congr {id last mi mb : Int} {d d' : List Int} {ps : Ps} (h : ∀ x, x ∈ d ↔ x ∈ d') : rs id last mi mb d ps = rs id last mi mb d' ps := by
  simp only [rs]
  apply List.map_congr_left
  intro x _
  by_cases hx : x.1 ∈ d
  · rw [if_pos hx, if_pos ((h _).1 hx)]
  · rw [if_neg hx, if_neg (fun h' => hx ((h _).2 h'))]
theorem rs_nil {id last mi mb : Int} {ps : Ps} : rs id last mi mb [] ps = ps := by
  simp [rs]
theorem rs_in {id last mi mb : Int} {d : List Int} {ps : Ps} {z : Int × Nat × Pg} (hz : z ∈ ps) (hd : z.1 ∉ d) : z ∈ rs id last mi mb d ps := by
  refine List.mem_map.2 ⟨z, hz, ?_⟩
  rw [if_neg hd]
theorem rs_mem {id last mi mb : Int} {d : List Int} {ps : Ps} {y : Int × Nat × Pg} (h : y ∈ rs id last mi mb d ps) : ∃ z ∈ ps, y = if z.1 ∈ d then nq id last mi mb z else z := by
  obtain ⟨z, hz, rfl⟩ := List.mem_map.1 h
  exact ⟨z, hz, rfl⟩

theorem rset_1 {base b vb : Nat} {R : Rf} {L : Lg} {ps : Ps} {vo le : List Int} (r : RM base b R L ps vo le w) (hv : Bk w vb (.cells #[.pointer (some ⟨b, 0, none⟩)] 73 (0, 0))) (he : i64 R.et) (hps : ps.length ≤ 13) (hnd : (ps.map (·.1)).Nodup)
    (h : ∀ vt ro w', Up (fun x => base ≤ x) [189, 227, 154] w w' → RM base b { R with lead := 0, ee := 0, he := 0, rt := R.et, tr := 0, vt := vt, pc := 0, us := 0, ro := ro } L (rs R.id L.last R.mi R.mb (ps.map (·.1)) ps) vo le w' → K (.tuple #[]) w') :
    t109_1 w (.pointer (some ⟨vb, 0, none⟩)) K := by
  unfold t109_1
  have rb := r.bk
  have hb0 := r.b0
  (repeat (first | (refine go ?_; intros) | (refine goK22 ?_; intros)))
  rename_i w1 u1 hb1 z1
  have hv1 := u1.at_ hv rfl
  (repeat (first | (refine go ?_; intros) | (refine goK22 ?_; intros)))
  rename_i w2 u2 hb2 z2
  have hv2 := u2.at_ hv1 rfl
  (repeat (first | (refine go ?_; intros) | (refine goK22 ?_; intros)))
  rename_i w3 u3 hb3 z3
  have U3 : Up (fun x => x = b) [189] w w3 := (u1.trans u2).trans u3
  have r3 : RM base b { R with lead := 0, ee := 0, he := 0 } L ps vo le w3 := r.put U3 hb3 ⟨rfl, rfl, rfl, rfl, rfl, rfl⟩
  have hv3 := u3.at_ hv2 rfl
  (repeat (first | (refine go ?_; intros) | (refine goK22 ?_; intros)))
  clear rb hv hv1 hv2 hb1 hb2 hb3
  refine cl_fn (k170 (R := { R with lead := 0, ee := 0, he := 0 }) r3.bk he fun w4 u4 hb4 => ?_)
  have r4 : RM base b { R with lead := 0, ee := 0, he := 0, rt := R.et } L ps vo le w4 := r3.put u4 hb4 ⟨rfl, rfl, rfl, rfl, rfl, rfl⟩
  have hv4 := u4.at_ hv3 rfl
  clear hv3 hb4
  (repeat (first | (refine go ?_; intros) | (refine goK22 ?_; intros)))
  refine cl_fn (k166 (R := { R with lead := 0, ee := 0, he := 0, rt := R.et }) r4.bk fun w5 u5 hb5 => ?_)
  have r5 : RM base b { R with lead := 0, ee := 0, he := 0, rt := R.et, tr := 0 } L ps vo le w5 := r4.put u5 hb5 ⟨rfl, rfl, rfl, rfl, rfl, rfl⟩
  have hv5 := u5.at_ hv4 rfl
  clear hv4 hb5
  (repeat (first | (refine go ?_; intros) | (refine goK22 ?_; intros)))
  refine cl_fn (k116 (base := base) (R := { R with lead := 0, ee := 0, he := 0, rt := R.et, tr := 0 }) r5.bk fun vt w6 u6 hvt mvt hb6 => ?_)
  have r6 : RM base b { R with lead := 0, ee := 0, he := 0, rt := R.et, tr := 0, vt := vt } L ps vo le w6 :=
    ⟨hb6, hb0, r5.lg.mt rfl rfl rfl rfl u6, r5.lok, r5.pr.up u6 (.inl rfl) (.inl rfl) rfl, r5.vo.up u6 (.inl rfl), r5.le.up u6 (.inl rfl), mvt, r5.ro.mt u6 rfl⟩
  have hv6 := u6.at_ hv5 rfl
  clear hv5 hb6
  have U6 : Up (fun x => x = b) [189] w w6 := (((U3.trans u4).trans u5).trans u6)
  (repeat (first | (refine go ?_; intros) | (refine goK22 ?_; intros)))
  refine cl_fn (k91 (R := { R with lead := 0, ee := 0, he := 0, rt := R.et, tr := 0, vt := vt }) (l := kvP ps) r6.bk r6.pr.mp (by rw [kvP_keys]; exact hnd) (by simpa [kvP] using hps) (C := fun x => base ≤ x) (T := [227, 154])
    (fun done w' => RM base b { R with lead := 0, ee := 0, he := 0, rt := R.et, tr := 0, vt := vt } L (rs R.id L.last R.mi R.mb done ps) vo le w' ∧ Bk w' vb (.cells #[.pointer (some ⟨b, 0, none⟩)] 73 (0, 0)) ∧ Up (fun x => base ≤ x) [227, 154] w6 w') ?_ ?_ rfl rfl ?_ ?_)
  · intro w' e
    exact ⟨by rw [rs_nil]; exact r6.ex e, e.at_ hv6, .of_ex e⟩
  · rintro done w' ⟨r', _, _⟩
    refine ⟨r'.bk, ?_⟩
    have := r'.pr.mp
    rw [rs_kv] at this
    exact this
  · rintro done x y w7 K' ⟨r7, hv7, u7⟩ hy hx hk
    obtain ⟨z, hz, hzx, rfl⟩ := lk_kvP hy
    have hzr : z ∈ rs R.id L.last R.mi R.mb done ps := rs_in hz (by rw [hzx]; exact hx)
    have hpz := r7.pr.pg z hzr
    refine k171 (R := { R with lead := 0, ee := 0, he := 0, rt := R.et, tr := 0, vt := vt }) r7 hv7 hpz fun w8 u8 lg8 pg8 => ?_
    have hsb := r7.lg.b1.1
    have u8' : Up (fun x => base ≤ x) [227, 154] w7 w8 := u8.mono (fun y _ hy => by rcases hy with rfl | rfl; exact hsb; exact hpz.1) (fun k hk => hk)
    refine hk w8 ⟨⟨u8.at_ r7.bk rfl, hb0, lg8, r7.lok, ⟨?_, ?_, ?_, r7.pr.b0⟩, r7.vo.up u8 (.inl rfl), r7.le.up u8 (.inl rfl), r7.vt.up u8 (.inl rfl), r7.ro.mt u8 rfl⟩, u8.at_ hv7 rfl, u7.trans u8'⟩ u8'
    · rw [rs_kv]
      have := r7.pr.mp
      rw [rs_kv] at this
      exact this.up u8 (.inl rfl)
    · rw [rs_blocks]
      have := r7.pr.nd
      rw [rs_blocks] at this
      exact this
    · intro y hy
      obtain ⟨a, ha, rfl⟩ := rs_mem hy
      have hbn := r7.pr.nd
      rw [rs_blocks] at hbn
      by_cases hax : a.1 = x
      · have : a = z := nodup_inj hnd ha hz (by rw [hax, hzx])
        subst this
        rw [if_pos (by rw [hax]; simp)]
        show PG base a.2.1 _ w8
        rw [← hzx] at pg8
        exact pg8
      · have hne : a.2.1 ≠ z.2.1 := fun e => by
          have := nodup_inj hbn ha hz e
          exact hax (this ▸ hzx)
        have hsame : (if a.1 ∈ done ++ [x] then nq R.id L.last R.mi R.mb a else a) = (if a.1 ∈ done then nq R.id L.last R.mi R.mb a else a) := by
          by_cases hd : a.1 ∈ done
          · rw [if_pos hd, if_pos (List.mem_append_left _ hd)]
          · rw [if_neg hd, if_neg (by simp [hd, hax])]
        rw [hsame]
        have hin : (if a.1 ∈ done then nq R.id L.last R.mi R.mb a else a) ∈ rs R.id L.last R.mi R.mb done ps := List.mem_map.2 ⟨a, ha, rfl⟩
        have hpa := r7.pr.pg _ hin
        have hblk : (if a.1 ∈ done then nq R.id L.last R.mi R.mb a else a).2.1 = a.2.1 := by split <;> rfl
        refine hpa.up u8 (.inr ?_) rfl
        rw [hblk]
        rintro (e | e)
        · obtain ⟨cs, hcs⟩ := r7.lg.sbk
          obtain ⟨_, ib, _, hbk, _⟩ := hpa
          rw [hblk, e] at hbk
          have := hcs.one hbk
          simp at this
        · exact hne e
  · rintro done w7 ⟨r7, hv7, u7⟩ hperm
    rw [rs_congr (fun x => hperm.mem_iff), kvP_keys] at r7
    have rb7 := r7.bk
    (repeat (first | (refine go ?_; intros) | (refine goK22 ?_; intros)))
    rename_i w8 u8 hb8 z8
    have hv8 := u8.at_ hv7 rfl
    (repeat (first | (refine go ?_; intros) | (refine goK22 ?_; intros)))
    rename_i w9 u9 hb9 z9
    have U9 : Up (fun x => x = b) [189] w7 w9 := u8.trans u9
    have r9 : RM base b { R with lead := 0, ee := 0, he := 0, rt := R.et, tr := 0, vt := vt, pc := 0, us := 0 } L (rs R.id L.last R.mi R.mb (ps.map (·.1)) ps) vo le w9 := r7.put U9 hb9 ⟨rfl, rfl, rfl, rfl, rfl, rfl⟩
    have hv9 := U9.at_ hv7 rfl
    clear rb7 hb8 hb9 hv7 hv8
    refine dr2_rule No [] (fun x => x = b) [189] fun w10 e10 z10 => ?_
    have r10 := r9.ex e10
    have rb10 := r10.bk
    have hv10 := e10.at_ hv9
    obtain ⟨rdb, hro⟩ := r10.ro
    have hro' : Bk w10 R.ro _ := hro
    (repeat (first | (refine go ?_; intros) | (refine goK22 ?_; intros)))
    refine cl_fn (k127 fun ro rdb2 w11 e11 s11 hro11 => ⟨⟨e11, .of_ex e11⟩, ?_⟩)
    have rb11 := e11.at_ rb10
    have hv11 := e11.at_ hv10
    clear rb10 hv10
    (repeat (first | (refine go ?_; intros) | (refine goK22 ?_; intros)))
    rename_i w12 u12 hb12 z12
    refine ⟨(Up.of_ex e11).trans u12, ?_⟩
    have r11 := r10.ex e11
    have mono1 : ∀ {a c : World}, Up (fun x => x = b) [189] a c → Up (fun x => base ≤ x) [189, 227, 154] a c := fun u => u.mono (fun y _ hy => by subst hy; exact hb0) (fun k hk => by simp at hk; simp [hk])
    have mono2 : ∀ {a c : World}, Up (fun x => base ≤ x) [227, 154] a c → Up (fun x => base ≤ x) [189, 227, 154] a c := fun u => u.mono (fun _ _ h => h) (fun k hk => by simp at hk; rcases hk with rfl | rfl <;> simp)
    refine h vt ro w12 (((((mono1 U6).trans (mono2 u7)).trans (mono1 U9)).ex e10).ex e11 |>.trans (mono1 u12)) ⟨hb12, hb0, ?_, r11.lok, ?_, ?_, ?_, ?_, ?_⟩
    · exact r11.lg.mt rfl rfl rfl rfl u12
    · exact r11.pr.up u12 (.inl rfl) (.inl rfl) rfl
    · exact r11.vo.up u12 (.inl rfl)
    · exact r11.le.up u12 (.inl rfl)
    · exact r11.vt.up u12 (.inl rfl)
    · exact ⟨_, u12.at_ hro11 rfl⟩

/-- What reset leaves. -/
def Rf.back (R : Rf) (t : Int) (vt ro : Nat) : Rf := { R with term := t, vote := if R.term = t then R.vote else 0, lead := 0, ee := 0, he := 0, rt := R.et, tr := 0, vt := vt, pc := 0, us := 0, ro := ro }

theorem k109 {base b : Nat} {R : Rf} {L : Lg} {ps : Ps} {vo le : List Int} {t : Int} (r : RM base b R L ps vo le w) (he : i64 R.et) (hps : ps.length ≤ 13) (hnd : (ps.map (·.1)).Nodup)
    (h : ∀ vt ro w', Up (fun x => base ≤ x) [189, 227, 154] w w' → RM base b (R.back t vt ro) L (rs R.id L.last R.mi R.mb (ps.map (·.1)) ps) vo le w' → K (.tuple #[]) w') :
    CK Pr 109 #[.pointer (some ⟨b, 0, none⟩), .int .u64 t] w K := by
  refine c109 ?_
  unfold t109
  refine e_box1 rfl fun vb w1 e1 hv1 s1 s2 => ?_
  have r1 := r.ex e1
  have rb1 := r1.bk
  have hb0 := r.b0
  have hneq : (R.term == t) = decide (R.term = t) := by by_cases h : R.term = t <;> simp [h]
  (repeat (first | (refine go ?_; intros) | (refine goK22 ?_; intros)))
  unfold Jo
  rw [hneq]
  by_cases hrt : R.term = t
  · rw [decide_eq_true hrt]
    (repeat (first | (refine go ?_; intros) | (refine goK22 ?_; intros)))
    refine rset_1 r1 hv1 he hps hnd fun vt ro w' u r' => h vt ro w' ((Up.of_ex e1).trans u) ?_
    have : R.back t vt ro = { R with lead := 0, ee := 0, he := 0, rt := R.et, tr := 0, vt := vt, pc := 0, us := 0, ro := ro } := by
      unfold Rf.back
      rw [if_pos hrt, ← hrt]
    rw [this]
    exact r'
  · rw [decide_eq_false hrt]
    (repeat (first | (refine go ?_; intros) | (refine goK22 ?_; intros)))
    rename_i w2 u2 hb2 z2
    have hv2 := u2.at_ hv1 rfl
    (repeat (first | (refine go ?_; intros) | (refine goK22 ?_; intros)))
    rename_i w3 u3 hb3 z3
    have U3 : Up (fun x => x = b) [189] w1 w3 := u2.trans u3
    have r3 : RM base b { R with term := t, vote := 0 } L ps vo le w3 := r1.put U3 hb3 ⟨rfl, rfl, rfl, rfl, rfl, rfl⟩
    refine rset_1 (R := { R with term := t, vote := 0 }) r3 (U3.at_ hv1 rfl) he hps hnd fun vt ro w' u r' => h vt ro w' (((Up.of_ex e1).trans (U3.mono (fun y _ hy => by subst hy; exact hb0) (fun k hk => by simp at hk; simp [hk]))).trans u) ?_
    have : R.back t vt ro = { R with term := t, vote := 0, lead := 0, ee := 0, he := 0, rt := R.et, tr := 0, vt := vt, pc := 0, us := 0, ro := ro } := by
      unfold Rf.back
      rw [if_neg hrt]
    rw [this]
    exact r'

end Go.Proofs.YtmmpogfbhelioaaGreat
/-
  Contracts: the machine becomes a follower, a candidate, a candidate ahead of the vote.
  Conditions: each one's own.
-/
namespace Go.Proofs.YtmmpogfbhelioaaGreat
set_option maxRecDepth 10000
set_option linter.unusedVariables false
set_option linter.unusedSimpArgs false
theorem nmK23 {p : Prop} (h : p := by (try simp only [List.getElem?_toArray, List.getElem?_cons_zero, List.getElem?_cons_succ, List.setIfInBounds_toArray, List.set_cons_zero, List.set_cons_succ, List.toList_toArray, List.drop_zero, List.drop_succ_cons, List.take_zero, List.take_succ_cons, Nat.zero_add, Nat.add_zero, Nat.reduceAdd, putCells, Rf.cells]) <;> rfl) : p := h
theorem goK23 {G H : Prop} (h : H) (s : Stp G H := by (apply Stp.of; intro hS; (first | (refine q_ld bk_ nmK23 ?_) | (refine q_ldU bk_ rfl nmK23 ?_) | (refine q_ldW bk_ (by rfl) ?_) | (refine q_ldWU bk_ rfl (by rfl) ?_) | (refine q_ldP bk_ (Nat.le_of_ble_eq_true rfl) nmK23 ?_) | (refine q_ldPU bk_ rfl (Nat.le_of_ble_eq_true rfl) nmK23 ?_) | (refine q_ext nmK23 ?_) | (refine u_st bk_ (Nat.le_of_ble_eq_true rfl) (by first | rfl | assumption) nmK23 ?_) | (refine u_stA bk_ (Nat.le_of_ble_eq_true rfl) (by rfl) (by rfl) nmK23 ?_) | (refine q_field nmK23 ?_)); exact hS.out)) : G := s.f h
set_option linter.unusedVariables false
set_option linter.unusedSimpArgs false
attribute [local irreducible] Instr.box Instr.alloc Instr.loadAt Instr.storeAt Instr.fieldAt Instr.indexAt Instr.build Instr.buildSlice Instr.makeSlice Instr.makeMap Instr.mapUpdate Instr.lookup Instr.range Instr.next Instr.entry Instr.extract Instr.makeInterface Instr.makeFunc Instr.sliceAt Instr.typeAssert Instr.field Instr.index Builtin.len_ Builtin.cap_ Builtin.max_ Builtin.min_ Builtin.append_ Builtin.copy_ Builtin.delete_ convert binS pickS nilS callV callM Op.unary Own Mp It Cu


variable {K : Value → World → Prop} {w : World} {te : Option Nat}

theorem mono1 {base b : Nat} {a c : World} (hb0 : base ≤ b) (u : Up (fun x => x = b) [189] a c) : Up (fun x => base ≤ x) [189, 227, 154] a c := u.mono (fun y _ hy => by subst hy; exact hb0) (fun k hk => by simp at hk; simp [hk])

/-- A machine that became a follower. -/
def Rf.follow (R : Rf) (b : Nat) (t l : Int) (vt ro : Nat) : Rf := { (({ R with step := fn 108 } : Rf).back t vt ro) with tick := .func (.func 110) #[.pointer (some ⟨b, 0, none⟩)] #[], lead := l, st := 0 }

theorem k59 {base b : Nat} {R : Rf} {L : Lg} {ps : Ps} {vo le : List Int} {t l : Int} (r : RM base b R L ps vo le w) (he : i64 R.et) (hps : ps.length ≤ 13) (hnd : (ps.map (·.1)).Nodup)
    (h : ∀ vt ro w', Up (fun x => base ≤ x) [189, 227, 154] w w' → RM base b (R.follow b t l vt ro) L (rs R.id L.last R.mi R.mb (ps.map (·.1)) ps) vo le w' → K (.tuple #[]) w') :
    CK Pr 59 #[.pointer (some ⟨b, 0, none⟩), .int .u64 t, .int .u64 l] w K := by
  refine c59 ?_
  unfold t59
  have rb := r.bk
  have hb0 := r.b0
  (repeat (first | (refine go ?_; intros) | (refine goK23 ?_; intros)))
  rename_i w1 u1 hb1 z1
  have r1 : RM base b { R with step := fn 108 } L ps vo le w1 := r.put u1 hb1 ⟨rfl, rfl, rfl, rfl, rfl, rfl⟩
  clear rb hb1
  refine cl_fn (k109 r1 he hps hnd fun vt ro w2 u2 r2 => ?_)
  have rb2 := r2.bk
  unfold Rf.back at rb2
  (repeat (first | (refine go ?_; intros) | (refine goK23 ?_; intros)))
  rename_i w3 u3 hb3 z3 w4 u4 hb4 z4 w5 u5 hb5 z5
  have U : Up (fun x => x = b) [189] w2 w5 := (u3.trans u4).trans u5
  exact h vt ro w5 (((mono1 hb0 u1).trans u2).trans (mono1 hb0 U)) (r2.put U hb5 ⟨rfl, rfl, rfl, rfl, rfl, rfl⟩)

/-- A machine that became a candidate. -/
def Rf.cand (R : Rf) (b : Nat) (t : Int) (vt ro : Nat) : Rf := { (({ R with step := fn 111 } : Rf).back t vt ro) with tick := .func (.func 110) #[.pointer (some ⟨b, 0, none⟩)] #[], vote := R.id, st := 1 }

theorem k60 {base b : Nat} {R : Rf} {L : Lg} {ps : Ps} {vo le : List Int} (r : RM base b R L ps vo le w) (he : i64 R.et) (hst : R.st ≠ 2) (ht : 0 ≤ R.term ∧ R.term ≤ 1000000000000000) (hps : ps.length ≤ 13) (hnd : (ps.map (·.1)).Nodup)
    (h : ∀ vt ro w', Up (fun x => base ≤ x) [189, 227, 154] w w' → RM base b (R.cand b (R.term + 1) vt ro) L (rs R.id L.last R.mi R.mb (ps.map (·.1)) ps) vo le w' → K (.tuple #[]) w') :
    CK Pr 60 #[.pointer (some ⟨b, 0, none⟩)] w K := by
  refine c60 ?_
  unfold t60
  have rb := r.bk
  have hb0 := r.b0
  have heq : (R.st == 2) = false := by simpa using hst
  (repeat (first | (refine go ?_; intros) | (refine goK23 ?_; intros)))
  rw [heq]
  (repeat (first | (refine go ?_; intros) | (refine goK23 ?_; intros)))
  rename_i w1 u1 hb1 z1
  have r1 : RM base b { R with step := fn 111 } L ps vo le w1 := r.put u1 hb1 ⟨rfl, rfl, rfl, rfl, rfl, rfl⟩
  clear rb hb1
  rw [wrapU (n := R.term + 1) (by omega) (by omega)]
  refine cl_fn (k109 r1 he hps hnd fun vt ro w2 u2 r2 => ?_)
  have rb2 := r2.bk
  unfold Rf.back at rb2
  (repeat (first | (refine go ?_; intros) | (refine goK23 ?_; intros)))
  rename_i w3 u3 hb3 z3 w4 u4 hb4 z4 w5 u5 hb5 z5
  have U : Up (fun x => x = b) [189] w2 w5 := (u3.trans u4).trans u5
  exact h vt ro w5 (((mono1 hb0 u1).trans u2).trans (mono1 hb0 U)) (r2.put U hb5 ⟨rfl, rfl, rfl, rfl, rfl, rfl⟩)

/-- A machine that became a candidate ahead of the vote. -/
def Rf.pre (R : Rf) (b : Nat) (vt : Nat) : Rf := { R with step := fn 111, vt := vt, tick := .func (.func 110) #[.pointer (some ⟨b, 0, none⟩)] #[], lead := 0, st := 3 }

theorem k62 {base b : Nat} {R : Rf} {L : Lg} {ps : Ps} {vo le : List Int} (r : RM base b R L ps vo le w) (hst : R.st ≠ 2)
    (h : ∀ vt w', Up (fun x => base ≤ x) [189, 227, 154] w w' → RM base b (R.pre b vt) L ps vo le w' → K (.tuple #[]) w') :
    CK Pr 62 #[.pointer (some ⟨b, 0, none⟩)] w K := by
  refine c62 ?_
  unfold t62
  have rb := r.bk
  have hb0 := r.b0
  have heq : (R.st == 2) = false := by simpa using hst
  (repeat (first | (refine go ?_; intros) | (refine goK23 ?_; intros)))
  rw [heq]
  (repeat (first | (refine go ?_; intros) | (refine goK23 ?_; intros)))
  rename_i w1 u1 hb1 z1
  have r1 : RM base b { R with step := fn 111 } L ps vo le w1 := r.put u1 hb1 ⟨rfl, rfl, rfl, rfl, rfl, rfl⟩
  clear rb hb1
  refine cl_fn (k116 (base := base) r1.bk fun vt w2 u2 hvt mvt hb2 => ?_)
  have r2 : RM base b { R with step := fn 111, vt := vt } L ps vo le w2 :=
    ⟨hb2, hb0, r1.lg.mt rfl rfl rfl rfl u2, r1.lok, r1.pr.up u2 (.inl rfl) (.inl rfl) rfl, r1.vo.up u2 (.inl rfl), r1.le.up u2 (.inl rfl), mvt, r1.ro.mt u2 rfl⟩
  (repeat (first | (refine go ?_; intros) | (refine goK23 ?_; intros)))
  rename_i w3 u3 hb3 z3 w4 u4 hb4 z4 w5 u5 hb5 z5
  have U : Up (fun x => x = b) [189] w2 w5 := (u3.trans u4).trans u5
  exact h vt w5 (mono1 hb0 ((u1.trans u2).trans U)) (r2.put U hb5 ⟨rfl, rfl, rfl, rfl, rfl, rfl⟩)

theorem k38 {base b : Nat} {R : Rf} {L : Lg} {ps : Ps} {vo le : List Int} {t l : Int} (r : RM base b R L ps vo le w) (he : i64 R.et) (hps : ps.length ≤ 13) (hnd : (ps.map (·.1)).Nodup)
    (h : ∀ vt ro w', Up (fun x => base ≤ x) [189, 227, 154] w w' → RM base b (R.follow b t l vt ro) L (rs R.id L.last R.mi R.mb (ps.map (·.1)) ps) vo le w' → K (.tuple #[]) w') :
    CK Pr 38 #[.pointer (some ⟨b, 0, none⟩), .int .u64 t, .int .u64 l] w K := by
  refine c38 ?_
  unfold t38
  exact cl_fn (k59 r he hps hnd h)
theorem k39 {base b : Nat} {R : Rf} {L : Lg} {ps : Ps} {vo le : List Int} (r : RM base b R L ps vo le w) (he : i64 R.et) (hst : R.st ≠ 2) (ht : 0 ≤ R.term ∧ R.term ≤ 1000000000000000) (hps : ps.length ≤ 13) (hnd : (ps.map (·.1)).Nodup)
    (h : ∀ vt ro w', Up (fun x => base ≤ x) [189, 227, 154] w w' → RM base b (R.cand b (R.term + 1) vt ro) L (rs R.id L.last R.mi R.mb (ps.map (·.1)) ps) vo le w' → K (.tuple #[]) w') :
    CK Pr 39 #[.pointer (some ⟨b, 0, none⟩)] w K := by
  refine c39 ?_
  unfold t39
  exact cl_fn (k60 r he hst ht hps hnd h)
theorem k41 {base b : Nat} {R : Rf} {L : Lg} {ps : Ps} {vo le : List Int} (r : RM base b R L ps vo le w) (hst : R.st ≠ 2)
    (h : ∀ vt w', Up (fun x => base ≤ x) [189, 227, 154] w w' → RM base b (R.pre b vt) L ps vo le w' → K (.tuple #[]) w') :
    CK Pr 41 #[.pointer (some ⟨b, 0, none⟩)] w K := by
  refine c41 ?_
  unfold t41
  exact cl_fn (k62 r hst h)

end Go.Proofs.YtmmpogfbhelioaaGreat
/-
  Contract: guarded: a function is called, and nothing panicked.
  Conditions: the function returns.
-/
namespace Go.Proofs.YtmmpogfbhelioaaGreat
set_option maxRecDepth 10000
set_option linter.unusedVariables false
set_option linter.unusedSimpArgs false
set_option linter.unusedVariables false

theorem gd_67 (p : Addr) (w : World) (v0 : Value) (hc : w.cell? p = some v0) (hz : w.frozen? p = false) (hv0 : one v0 = true) :
    CallsD Tryz.prog 67 #[.pointer (some p)] .returning w fun e u' w' => e = .returned (.tuple #[]) ∧ u' = .returning ∧ w' = w.setCell p (.bool false) := by
  refine callsD_of_wpS Tryz.func67 rfl fun c₀ cs hu => ?_
  apply wpS_region
  simp [wpOpsS, go_sem, recoverD, hu, Tryz.ntmps67, Exit.thenS]
  simp [hc, hz, Oper.upon, bodyPostS, results, Tryz.results67, Act.put]
  cases c₀
  simp_all

theorem k48 {C : Nat → Prop} {T : List Nat} {K : Value → World → Prop} {w : World} {fn : Nat} [TFn Pr fn] {cap : Array Value} {Q : World → World → Prop} (hT : T.contains 6 = false)
    (hf : ∀ w1, Ex w w1 → CK Pr fn cap w1 fun _ w2 => Up C T w1 w2 ∧ Q w1 w2)
    (h : ∀ w1 w2 w3, Ex w w1 → Up C T w1 w2 → Q w1 w2 → Up (fun x => x = w.heap.size) [6] w2 w3 → K (.bool false) w3) : CK Pr 48 #[.func (.func fn) #[] cap] w K := by
  have hmf : ∀ (fn : Fn) (first cap : Array Value) (w : World), (Instr.makeFunc fn first cap).run Tryz.prog w = .ok (.func fn first cap) w := fun _ _ _ _ => rfl
  unfold CK
  go_enter_defers Tryz.func48, Tryz.ntmps48
  go_wp2
  have e1 : Ex w (w.alloc (.cells #[.bool false] 4)) := Up.alloc _ _
  have hb : Bk (w.alloc (.cells #[.bool false] 4)) w.heap.size (.cells #[.bool false] 4 (0, 0)) := Bk.alloc_new _ _
  rw [run_callFunc]
  simp only [Oper.upon]
  refine Calls.mono (hf _ e1) ?_
  rintro e w2 ⟨v, rfl, u, q⟩
  have hb2 := u.at_ hb hT
  have hc : w2.cell? ⟨w.heap.size, 0, none⟩ = some (.bool false) := by rw [hb2.cell]; rfl
  have hz : w2.frozen? ⟨w.heap.size, 0, none⟩ = false := hb2.frozen 0
  rename_i K1 h1 K2 h2
  refine h2 _ _ ?_
  go_wp2
  have hb3 := hb2.setCell 0 (.bool false)
  have u3 : Up (fun x => x = w.heap.size) [6] w2 _ := Up.setCell hb2 0 (.bool false)
  generalize w2.setCell ⟨w.heap.size, 0, none⟩ (.bool false) = w3 at hb3 u3 ⊢
  have hc3 : w3.cell? ⟨w.heap.size, 0, none⟩ = some (.bool false) := by rw [hb3.cell]; rfl
  have hz3 : w3.frozen? ⟨w.heap.size, 0, none⟩ = false := hb3.frozen 0
  have hb4 := hb3.setCell 0 (.bool false)
  have u4 : Up (fun x => x = w.heap.size) [6] w3 _ := Up.setCell hb3 0 (.bool false)
  simp only [bodyPostD]
  refine leaves_cons (f := 67) (args := #[.pointer (some ⟨w.heap.size, 0, none⟩)]) (by simp) (by simp [go_sem]) ?_
  refine (gd_67 _ _ (.bool false) hc3 hz3 rfl).mono ?_
  rintro e u' w4 ⟨rfl, rfl, rfl⟩
  have hc4 : (w3.setCell ⟨w.heap.size, 0, none⟩ (.bool false)).cell? ⟨w.heap.size, 0, none⟩ = some (.bool false) := by rw [hb4.cell]; rfl
  have hh := h _ w2 _ e1 u q (u3.trans u4)
  simp [Leaves, settle, results, Tryz.results48, go_sem, hc4]
  exact hh

end Go.Proofs.YtmmpogfbhelioaaGreat
/-
  Contract: a machine is made, something is called on it, and what it is then is told.
  Conditions: the data is whole; no messages.
-/
namespace Go.Proofs.YtmmpogfbhelioaaGreat
set_option maxRecDepth 10000
set_option linter.unusedVariables false
set_option linter.unusedSimpArgs false
theorem nmK24 {p : Prop} (h : p := by (try simp only [List.getElem?_toArray, List.getElem?_cons_zero, List.getElem?_cons_succ, List.setIfInBounds_toArray, List.set_cons_zero, List.set_cons_succ, List.toList_toArray, List.drop_zero, List.drop_succ_cons, List.take_zero, List.take_succ_cons, Nat.zero_add, Nat.add_zero, Nat.reduceAdd, putCells, Rf.cells, Mac.cells, Aft0]) <;> rfl) : p := h
theorem goK24 {G H : Prop} (h : H) (s : Stp G H := by (apply Stp.of; intro hS; (first | (refine q_ld bk_ nmK24 ?_) | (refine q_ldU bk_ rfl nmK24 ?_) | (refine q_ldW bk_ (by rfl) ?_) | (refine q_ldWU bk_ rfl (by rfl) ?_) | (refine q_ldP bk_ (Nat.le_of_ble_eq_true rfl) nmK24 ?_) | (refine q_ldPU bk_ rfl (Nat.le_of_ble_eq_true rfl) nmK24 ?_) | (refine q_ext nmK24 ?_) | (refine u_st bk_ (Nat.le_of_ble_eq_true rfl) (by first | rfl | assumption) nmK24 ?_) | (refine u_stA bk_ (Nat.le_of_ble_eq_true rfl) (by rfl) (by rfl) nmK24 ?_) | (refine q_field nmK24 ?_)); exact hS.out)) : G := s.f h
set_option linter.unusedVariables false
set_option linter.unusedSimpArgs false
attribute [local irreducible] Instr.box Instr.alloc Instr.loadAt Instr.storeAt Instr.fieldAt Instr.indexAt Instr.build Instr.buildSlice Instr.makeSlice Instr.makeMap Instr.mapUpdate Instr.lookup Instr.range Instr.next Instr.entry Instr.extract Instr.makeInterface Instr.makeFunc Instr.sliceAt Instr.typeAssert Instr.field Instr.index Builtin.len_ Builtin.cap_ Builtin.max_ Builtin.min_ Builtin.append_ Builtin.copy_ Builtin.delete_ convert binS pickS nilS callV callM Op.unary Own Mp It Cu


variable {K : Value → World → Prop} {w : World} {te : Option Nat}

/-- The zero one of what is told. -/
def Aft0 (ok : Bool) : Array Value := #[.int .u64 0, .int .u64 0, .int .u64 0, .int .u64 0, .int .i64 0, .string ByteArray.empty, .int .u64 0, .int .u64 0, .slice none 0 0, .slice none 0 0, .slice none 0 0, .slice none 0 0, .bool false, .slice none 0 0, .slice none 0 0, .int .u64 0, .int .u64 0, .slice none 0 0, .slice none 0 0, .slice none 0 0, .slice none 0 0, .bool false, .bool false, .int .i64 0, .int .i64 0, .int .i64 0, .int .i64 0, .int .i64 0, .int .u64 0, .int .u64 0, .int .u64 0, .int .u64 0, .slice none 0 0, .slice none 0 0, .bool ok, .bool false]
/-- What is told. -/
def Aft (m : Mac) (sv lv : Value) (ok pn : Bool) : Array Value := #[.int .u64 m.id, .int .u64 m.term, .int .u64 m.vote, .int .u64 m.lead, .int .i64 m.role, .string m.base.d, .int .u64 m.base.i, .int .u64 m.base.t, m.cvV, m.clV, m.coV, m.cnV, .bool m.base.c.a, m.stV, m.frV, .int .u64 m.commit, .int .u64 m.applied, m.voV, m.leV, m.peV, m.vsV, .bool m.pv, .bool m.cq, .int .i64 m.el, .int .i64 m.hb, .int .i64 m.to, .int .i64 m.ep, .int .i64 m.be, .int .u64 m.ms, .int .u64 m.mu, .int .u64 m.un, .int .u64 m.tr, sv, lv, .bool ok, .bool pn]

/-- What the machine in memory must be, so that it can be told. -/
structure Fine (m : Mac) (R : Rf) (L : Lg) (ps : Ps) (vo le : List Int) : Prop where
  st : 0 ≤ R.st ∧ R.st ≤ 3
  off : L.us = none → ∀ e ∈ m.st, e.i < L.off
  kk : ∀ e ∈ L.un, i64 e.k
  sm : ∀ s, L.us = some s → CfSm s.c
  len : ps.length ≤ 13
  nd : (ps.map (·.1)).Nodup
  vo : vo.length ≤ 13
  le : le.length ≤ 13

theorem k52 {b : Nat} {R : Rf} (hb : Bk w b (.cells R.cells 187 (0, 0))) (h : ∀ w', Ex w w' → K (.tuple #[R.ms, R.af]) w') : CK Pr 52 #[.pointer (some ⟨b, 0, none⟩)] w K := by
  refine c52 ?_
  unfold t52
  refine dr_rule No [] fun w1 e1 z1 => ?_
  have hb1 := e1.at_ hb
  (repeat (first | (refine go ?_; intros) | (refine goK24 ?_; intros)))
  exact h w1 e1

theorem k53n (h : K (.slice none 0 0) w) : CK Pr 53 #[.slice none 0 0] w K := by
  refine c53 ?_
  unfold t53
  (repeat (first | (refine go ?_; intros) | (refine goK24 ?_; intros)))
  refine loop_n (α := Unit) (fun _ τ w' => g τ 0 = .slice none 0 0 ∧ g τ 2 = .int .i64 0 ∧ w' = w) (fun _ => 0) () ⟨rfl, rfl, rfl⟩ ?_
  rintro _ τ w' R ⟨h0, h2, rfl⟩ hR
  rw [h0, h2]
  (repeat (first | (refine go ?_; intros) | (refine goK24 ?_; intros)))
  exact h

theorem k49 {m : Mac} {mb cb ob fnc : Nat} [TFn Pr fnc] {cap : Array Value} {wm : World} {Φ : Rf → Lg → Ps → List Int → List Int → Bool → Prop} (hm : IsMac wm m) (em : Ex wm w) (hob0 : wm.heap.size ≤ ob) (wh : Whole m) (hpl : m.pe.length ≤ 2147483647)
    (hmb : Bk w mb (.cells m.cells 32 (0, 0))) (hcb : Bk w cb (.cells #[.func (.func fnc) #[] cap] 77 (0, 0))) (hob : Bk w ob (.cells (Aft0 false) 38 (0, 0)))
    (hcall : ∀ base b lb vb lm pm vt ro most sb ps w1 (K' : Value → World → Prop), Ex w w1 → w.heap.size ≤ base → ps.map (·.1) = m.vo ++ m.le → RM base b (mkR m lb vb lm pm vt ro most) (mkL m sb) ps m.vo m.le w1 →
      (∀ ok R L ps vo le w2 T, Up (fun x => base ≤ x) T w1 w2 → RM base b R L ps vo le w2 → Fine m R L ps vo le → R.ms = .slice none 0 0 → R.af = .slice none 0 0 → Φ R L ps vo le ok → K' (.bool ok) w2) → CK Pr fnc (#[.pointer (some ⟨b, 0, none⟩)] ++ cap) w1 K')
    (h : ∀ mo ok R L ps vo le w', Up (fun x => x = ob) [40] w w' → Bk w' ob (.cells (Aft mo (.slice none 0 0) (.slice none 0 0) ok false) 38 (0, 0)) → MF m R L ps vo le mo → (∀ w'', Up (fun x => wm.heap.size ≤ x) [40, 6, 45] w' w'' → IsMac w'' mo) → Φ R L ps vo le ok → K (.tuple #[]) w') :
    CK Pr 49 #[.pointer (some ⟨mb, 0, none⟩), .pointer (some ⟨cb, 0, none⟩), .pointer (some ⟨ob, 0, none⟩)] w K := by
  refine c49 ?_
  unfold t49
  (repeat (first | (refine go ?_; intros) | (refine goK24 ?_; intros)))
  refine cl_fn (k50 (hm.ex em) wh hpl fun base b lb vb lm pm vt ro most sb ps w1 e1 hbase hk r1 => ?_)
  have hmb1 := e1.at_ hmb
  have hcb1 := e1.at_ hcb
  have hob1 := e1.at_ hob
  (repeat (first | (refine go ?_; intros) | (refine goK24 ?_; intros)))
  refine cl_clo (hcall base b lb vb lm pm vt ro most sb ps w1 _ e1 hbase hk r1 fun ok R L ps2 vo le w2 T u2 r2 fin hms haf hΦ => ?_)
  have z1 := e1.size
  have z2 := u2.size
  have ob1 := hob1.lt
  have e12 : Ex w w2 := e1.new u2 (fun x hx => by omega)
  have hb2 := e12.at_ hob
  have hmb2 := e12.at_ hmb
  clear hmb1 hcb1 hob1 hcb hob hmb
  (repeat (first | (refine go ?_; intros) | (refine goK24 ?_; intros)))
  rename_i w3 u3 hb3 z3
  have hmb3 := u3.at_ hmb2 rfl
  clear hmb2 hb2
  have r3 := r2.mt (w' := w3) rfl rfl u3
  have em3 : Ex wm w3 := (em.trans e12).new u3 (by intro x hx; subst hx; exact hob0)
  (repeat (first | (refine go ?_; intros) | (refine goK24 ?_; intros)))
  refine cl_fn (k51 hm em3 r3 (by have := wh.row.len; rw [List.length_append] at this; omega) fin.off fin.st fin.kk fin.sm fin.len fin.nd fin.vo fin.le fun mo w4 e4 mf hmo => ?_)
  have hb4 := e4.at_ hb3
  have r4 := r3.ex e4
  clear hb3 hmb3
  have hz : Up (fun x => wm.heap.size ≤ x) [40, 6, 45] w4 w4 := .refl _ _ _
  have o1 := (hmo w4 hz.kp).one1
  (repeat (first | (refine go ?_; intros) | (refine goK24 ?_; intros)))
  refine u_stA hb4 (Nat.le_of_ble_eq_true rfl) (by rfl) (by simp only [Mac.cells, List.all_cons, List.all_nil, o1.1, o1.2.1, o1.2.2.1, o1.2.2.2.1, o1.2.2.2.2.1, o1.2.2.2.2.2.1, o1.2.2.2.2.2.2.1, o1.2.2.2.2.2.2.2.1, o1.2.2.2.2.2.2.2.2.1, o1.2.2.2.2.2.2.2.2.2]; rfl) nmK24 fun w5 u5 hb5 z5 => ?_
  have r5 := r4.mt (w' := w5) rfl rfl u5
  clear hb4
  refine cl_fn (k52 r5.bk fun w6 e6 => ?_)
  have hb6 := e6.at_ hb5
  clear hb5
  (repeat (first | (refine go ?_; intros) | (refine goK24 ?_; intros)))
  rw [hms, haf]
  refine cl_fn (k53n ?_)
  refine cl_fn (k53n ?_)
  (repeat (first | (refine go ?_; intros) | (refine goK24 ?_; intros)))
  rename_i w7 u7 hb7 z7 w8 u8 hb8 z8
  have U3 : Up (fun x => x = ob) [40] w w3 := (Up.of_ex e12).trans u3
  have U48 : Up (fun x => x = ob) [40] w4 w8 := ((u5.ex e6).trans u7).trans u8
  refine h mo ok R L ps2 vo le w8 ((U3.ex e4).trans U48) hb8 mf (fun w9 u9 => hmo w9 (((U48.mono (fun y _ hy => by subst hy; exact hob0) (fun k hk => by simp at hk; simp [hk])).trans u9).kp)) hΦ

theorem Up.idx {C : Nat → Prop} {T : List Nat} {w' : World} (u : Up C T w w') : w.heap.size ≤ w'.heap.size := u.size

theorem k29 {m : Mac} {fnc : Nat} [TFn Pr fnc] {cap : Array Value} {Φ : Rf → Lg → Ps → List Int → List Int → Bool → Prop} {wm : World} (hm : IsMac wm m) (em : Ex wm w) (wh : Whole m) (hpl : m.pe.length ≤ 2147483647)
    (hcall : ∀ base b lb vb lm pm vt ro most sb ps w0 w1 (K' : Value → World → Prop), Ex w w0 → Ex w0 w1 → w0.heap.size ≤ base → ps.map (·.1) = m.vo ++ m.le → RM base b (mkR m lb vb lm pm vt ro most) (mkL m sb) ps m.vo m.le w1 →
      (∀ ok R L ps vo le w2 T, Up (fun x => base ≤ x) T w1 w2 → RM base b R L ps vo le w2 → Fine m R L ps vo le → R.ms = .slice none 0 0 → R.af = .slice none 0 0 → Φ R L ps vo le ok → K' (.bool ok) w2) → CK Pr fnc (#[.pointer (some ⟨b, 0, none⟩)] ++ cap) w1 K')
    (h : ∀ mo ok R L ps vo le w', Ex w w' → MF m R L ps vo le mo → (∀ w'', Up (fun x => wm.heap.size ≤ x) [40, 6, 45] w' w'' → IsMac w'' mo) → Φ R L ps vo le ok → K (.agg (Aft mo (.slice none 0 0) (.slice none 0 0) ok false)) w') :
    CK Pr 29 #[.agg m.cells, .func (.func fnc) #[] cap] w K := by
  refine c29 ?_
  unfold t29
  refine e_boxA fun mb w1 e1 hb1 s1 s2 => ?_
  refine e_box1 rfl fun cb w2 e2 hb2 s3 s4 => ?_
  refine e_allocA fun rb w3 e3 hb3 s5 s6 => ?_
  refine e_allocA fun ob w4 e4 hb4 s7 s8 => ?_
  have hmb : Bk w4 mb (.cells m.cells 32 (0, 0)) := e4.at_ (e3.at_ (e2.at_ hb1))
  have hcb := e4.at_ (e3.at_ hb2)
  have zm := em.size
  have z1 := e1.size
  have z2 := e2.size
  have z3 := e3.size
  have z4 := e4.size
  have ew4 : Ex w w4 := ((e1.trans e2).trans e3).trans e4
  refine q_mkf ?_
  refine cl_fn (k48 (C := fun x => x = ob) (T := [40]) (Q := fun a c => ∃ mo ok R L ps vo le, Bk c ob (.cells (Aft mo (.slice none 0 0) (.slice none 0 0) ok false) 38 (0, 0)) ∧ MF m R L ps vo le mo ∧ (∀ w'', Up (fun x => wm.heap.size ≤ x) [40, 6, 45] c w'' → IsMac w'' mo) ∧ Φ R L ps vo le ok) rfl (fun w5 e5 => ?_) fun w5 w6 w7 e5 u6 q6 u7 => ?_)
  · refine k49 (wm := wm) (Φ := Φ) hm ((em.trans ew4).trans e5) (by omega) wh hpl (e5.at_ hmb) (e5.at_ hcb) (e5.at_ hb4) ?_ ?_
    · intro base b lb vb lm pm vt ro most sb ps wa K' ea hbase hk r hK
      exact hcall base b lb vb lm pm vt ro most sb ps w5 wa K' (ew4.trans e5) ea hbase hk r hK
    · intro mo ok R L ps vo le w' u hb mf hmo hΦ
      exact ⟨u, mo, ok, R, L, ps, vo, le, hb, mf, hmo, hΦ⟩
  · obtain ⟨mo, ok, R, L, ps, vo, le, hb, mf, hmo, hΦ⟩ := q6
    have hb7 := u7.at_ hb rfl
    have hrb7 : Bk w7 rb _ := u7.at_ (u6.off (e5.at_ (e4.at_ hb3)) (by intro h; omega)) rfl
    have U67 : Up (fun x => wm.heap.size ≤ x) [40, 6, 45] w6 w7 := u7.mono (fun y _ hy => by subst hy; omega) (fun k hk => by simp at hk; simp [hk])
    have o1 := (hmo w7 U67).one1
    have ew7 : Ex w w7 := (((ew4.trans e5).new u6 (by intro x hx; subst hx; omega))).new u7 (by intro x hx; subst hx; omega)
    have hne : rb ≠ ob := by omega
    (repeat (first | (refine go ?_; intros) | (refine goK24 ?_; intros)))
    refine u_stA hrb7 (Nat.le_of_ble_eq_true rfl) (by rfl) (by simp only [Aft, List.toList_toArray, List.all_cons, List.all_nil, o1.1, o1.2.1, o1.2.2.1, o1.2.2.2.1, o1.2.2.2.2.1, o1.2.2.2.2.2.1, o1.2.2.2.2.2.2.1, o1.2.2.2.2.2.2.2.1, o1.2.2.2.2.2.2.2.2.1, o1.2.2.2.2.2.2.2.2.2]; rfl) (putCells_all (by rfl)) fun w8 u8 hb8 z8 => ?_
    have U8 : Up (fun x => wm.heap.size ≤ x) [40, 6, 45] w7 w8 := u8.mono (fun y _ hy => by subst hy; omega) (fun k hk => by simp at hk; simp [hk])
    clear hb hb7 hrb7
    refine q_ldW hb8 (by rfl) ?_
    exact h mo ok R L ps vo le w8 (ew7.new u8 (by intro x hx; subst hx; omega)) mf (fun w9 u9 => hmo w9 ((U67.trans U8).trans u9)) hΦ

end Go.Proofs.YtmmpogfbhelioaaGreat
/-
  Contract: Becomes.
  Conditions: the machine is whole; a leader becomes a follower alone.
-/
namespace Go.Proofs.YtmmpogfbhelioaaGreat
set_option maxRecDepth 10000
set_option linter.unusedVariables false
set_option linter.unusedSimpArgs false
set_option linter.unusedVariables false
set_option linter.unusedSimpArgs false
attribute [local irreducible] Instr.box Instr.alloc Instr.loadAt Instr.storeAt Instr.fieldAt Instr.indexAt Instr.build Instr.buildSlice Instr.makeSlice Instr.makeMap Instr.mapUpdate Instr.lookup Instr.range Instr.next Instr.entry Instr.extract Instr.makeInterface Instr.makeFunc Instr.sliceAt Instr.typeAssert Instr.field Instr.index Builtin.len_ Builtin.cap_ Builtin.max_ Builtin.min_ Builtin.append_ Builtin.copy_ Builtin.delete_ convert binS pickS nilS callV callM Op.unary Own Mp It Cu


variable {K : Value → World → Prop} {w : World} {te : Option Nat}

theorem Whole.el64 {m : Mac} (wh : Whole m) : i64 m.el := by
  have := wh.el
  have := wh.hb
  exact ⟨by omega, by omega⟩
theorem Whole.keys {m : Mac} (wh : Whole m) {ps : Ps} (hk : ps.map (·.1) = m.vo ++ m.le) : ps.length ≤ 13 ∧ (ps.map (·.1)).Nodup ∧ m.vo.length ≤ 9 ∧ m.le.length ≤ 4 := by
  have h1 : m.vo.length ≤ 9 := wh.mem.v9
  have h2 : m.le.length ≤ 4 := wh.mem.l4
  have := congrArg List.length hk
  simp only [List.length_map, List.length_append] at this
  exact ⟨by omega, by rw [hk]; exact wh.mem.nd, h1, h2⟩

theorem Whole.fine {m : Mac} (wh : Whole m) {R : Rf} {ps : Ps} {sb : Nat} (hk : ps.map (·.1) = m.vo ++ m.le) (hst : 0 ≤ R.st ∧ R.st ≤ 3) : Fine m R (mkL m sb) ps m.vo m.le := by
  obtain ⟨h1, h2, h3, h4⟩ := wh.keys hk
  refine ⟨hst, fun _ e he => ?_, fun e he => ?_, fun s hs => (by cases hs), h1, h2, by omega, by omega⟩
  · obtain ⟨j, hj⟩ := List.getElem?_of_mem he
    have hjl : j < m.st.length := (List.getElem?_eq_some_iff.1 hj).1
    have := (wh.row.at_ j e (by rw [List.getElem?_append_left hjl]; exact hj)).1
    show e.i < m.base.i + m.st.length + 1
    omega
  · obtain ⟨j, hj⟩ := List.getElem?_of_mem (List.mem_append_right m.st (show e ∈ m.fr from he))
    have := (wh.row.at_ j e hj).2.2.2.1
    rw [this]
    exact ⟨by omega, by omega⟩

/-- What term, vote and leader a machine has that became something. -/
def tgt (m : Mac) (role term lead : Int) : Int × Int × Int :=
  if role = 0 then (term, if m.term = term then m.vote else 0, lead) else if role = 1 then (m.term + 1, m.id, 0) else (m.term, m.vote, 0)

/-- What Becomes leaves. -/
def PhB (m : Mac) (role term lead : Int) (R : Rf) (L : Lg) (ps : Ps) (vo le : List Int) (ok : Bool) : Prop :=
  R.id = m.id ∧ (R.term, R.vote, R.lead) = tgt m role term lead ∧ R.st = role ∧ (∃ sb, L = mkL m sb) ∧ vo = m.vo ∧ le = m.le ∧ ok = false

theorem k37 {m : Mac} {base b lb vb pm vt ro sb b1 b2 b3 : Nat} {lm : Option Nat} {most role term lead : Int} {ps : Ps} (wh : Whole m) (hrole : role = 0 ∨ role = 1 ∨ role = 3) (hlead : m.role = 2 → role = 0)
    (h1 : Bk w b1 (.cells #[.int .i64 role] 3 (0, 0))) (h2 : Bk w b2 (.cells #[.int .u64 term] 22 (0, 0))) (h3 : Bk w b3 (.cells #[.int .u64 lead] 22 (0, 0))) (hk : ps.map (·.1) = m.vo ++ m.le)
    (r : RM base b (mkR m lb vb lm pm vt ro most) (mkL m sb) ps m.vo m.le w)
    (h : ∀ ok R L ps vo le w2 T, Up (fun x => base ≤ x) T w w2 → RM base b R L ps vo le w2 → Fine m R L ps vo le → R.ms = .slice none 0 0 → R.af = .slice none 0 0 → PhB m role term lead R L ps vo le ok → K (.bool ok) w2) :
    CK Pr 37 #[.pointer (some ⟨b, 0, none⟩), .pointer (some ⟨b1, 0, none⟩), .pointer (some ⟨b2, 0, none⟩), .pointer (some ⟨b3, 0, none⟩)] w K := by
  refine c37 ?_
  unfold t37
  unfold Jo
  obtain ⟨q1, q2, q3, q4⟩ := wh.keys hk
  have hterm := wh.term
  have kk : ∀ {id last mi mb : Int}, (rs id last mi mb (ps.map (·.1)) ps).map (·.1) = m.vo ++ m.le := fun {_ _ _ _} => by rw [rs_keys, hk]
  rcases hrole with rfl | rfl | rfl
  · (repeat (first | (refine go ?_; intros) | (refine gon ?_; intros)))
    refine cl_fn (k38 r wh.el64 q1 q2 fun vt' ro' w2 u2 r2 => ?_)
    refine h false _ _ _ _ _ w2 _ u2 r2 (wh.fine kk ⟨by show (0 : Int) ≤ 0; omega, by show (0 : Int) ≤ 3; omega⟩) rfl rfl ⟨rfl, ?_, rfl, ⟨sb, rfl⟩, rfl, rfl, rfl⟩
    by_cases ht : m.term = term <;> simp [tgt, Rf.follow, Rf.back, mkR, ht]
  · have hne : m.role ≠ 2 := fun e => by have := hlead e; omega
    (repeat (first | (refine go ?_; intros) | (refine gon ?_; intros)))
    refine cl_fn (k39 r wh.el64 hne ⟨by show 0 ≤ m.term; omega, by show m.term ≤ _; omega⟩ q1 q2 fun vt' ro' w2 u2 r2 => ?_)
    refine h false _ _ _ _ _ w2 _ u2 r2 (wh.fine kk ⟨by show (0 : Int) ≤ 1; omega, by show (1 : Int) ≤ 3; omega⟩) rfl rfl ⟨rfl, ?_, rfl, ⟨sb, rfl⟩, rfl, rfl, rfl⟩
    simp [tgt, Rf.cand, Rf.back, mkR]
  · have hne : m.role ≠ 2 := fun e => by have := hlead e; omega
    (repeat (first | (refine go ?_; intros) | (refine gon ?_; intros)))
    refine cl_fn (k41 r hne fun vt' w2 u2 r2 => ?_)
    refine h false _ _ _ _ _ w2 _ u2 r2 (wh.fine hk ⟨by show (0 : Int) ≤ 3; omega, by show (3 : Int) ≤ 3; omega⟩) rfl rfl ⟨rfl, ?_, rfl, ⟨sb, rfl⟩, rfl, rfl, rfl⟩
    simp [tgt, Rf.pre, mkR]

theorem k16 {m : Mac} {role term lead : Int} {wm : World} (hm : IsMac wm m) (em : Ex wm w) (wh : Whole m) (hpl : m.pe.length ≤ 2147483647) (hrole : role = 0 ∨ role = 1 ∨ role = 3) (hlead : m.role = 2 → role = 0)
    (h : ∀ mo ok R L ps vo le w', Ex w w' → MF m R L ps vo le mo → (∀ w'', Up (fun x => wm.heap.size ≤ x) [40, 6, 45] w' w'' → IsMac w'' mo) → PhB m role term lead R L ps vo le ok → K (.agg (Aft mo (.slice none 0 0) (.slice none 0 0) ok false)) w') :
    CK Pr 16 #[.agg m.cells, .int .i64 role, .int .u64 term, .int .u64 lead] w K := by
  refine c16 ?_
  unfold t16
  refine e_boxA fun mb w1 e1 hb1 s1 s2 => ?_
  refine e_box1 rfl fun b1 w2 e2 hb2 s3 s4 => ?_
  refine e_box1 rfl fun b2 w3 e3 hb3 s5 s6 => ?_
  refine e_box1 rfl fun b3 w4 e4 hb4 s7 s8 => ?_
  refine e_allocA fun rb w5 e5 hb5 s9 s10 => ?_
  have ew : Ex w w5 := (((e1.trans e2).trans e3).trans e4).trans e5
  have g1 : Bk w5 b1 (.cells #[.int .i64 role] 3 (0, 0)) := e5.at_ (e4.at_ (e3.at_ hb2))
  have g2 : Bk w5 b2 (.cells #[.int .u64 term] 22 (0, 0)) := e5.at_ (e4.at_ hb3)
  have g3 : Bk w5 b3 (.cells #[.int .u64 lead] 22 (0, 0)) := e5.at_ hb4
  have gm : Bk w5 mb (.cells m.cells 32 (0, 0)) := e5.at_ (e4.at_ (e3.at_ (e2.at_ hb1)))
  refine q_ldW gm (by rfl) ?_
  refine q_mkf ?_
  refine cl_fn (k29 (Φ := PhB m role term lead) hm (em.trans ew) wh hpl ?_ ?_)
  · intro base b lb vb lm pm vt ro most sb ps w0 w6 K' e0 e6 hbase hk r hK
    have ee := e0.trans e6
    exact k37 wh hrole hlead (Ex.at_ ee g1) (Ex.at_ ee g2) (Ex.at_ ee g3) hk r hK
  · intro mo ok R L ps vo le w6 e6 mf hmo hΦ
    have hb6 := e6.at_ hb5
    have o1 := (hmo w6 (.refl _ _ _)).one1
    refine u_stA hb6 (Nat.le_of_ble_eq_true rfl) (by rfl) (by simp only [Aft, List.toList_toArray, List.all_cons, List.all_nil, o1.1, o1.2.1, o1.2.2.1, o1.2.2.2.1, o1.2.2.2.2.1, o1.2.2.2.2.2.1, o1.2.2.2.2.2.2.1, o1.2.2.2.2.2.2.2.1, o1.2.2.2.2.2.2.2.2.1, o1.2.2.2.2.2.2.2.2.2]; rfl) (putCells_all (by rfl)) fun w7 u7 hb7 z7 => ?_
    refine q_ldW hb7 (by rfl) ?_
    have zm := em.size
    have zw := e1.size
    have zw2 := e2.size
    have zw3 := e3.size
    have zw4 := e4.size
    have U7 : Up (fun x => wm.heap.size ≤ x) [40, 6, 45] w6 w7 := u7.mono (fun y _ hy => by subst hy; omega) (fun k hk => by simp at hk; simp [hk])
    exact h mo ok R L ps vo le w7 ((ew.trans e6).new u7 (by intro x hx; subst hx; omega)) mf (fun w8 u8 => hmo w8 (U7.trans u8)) hΦ

end Go.Proofs.YtmmpogfbhelioaaGreat
/-
  Rules: structs of numbers and strings are compared.
  Conditions: closed facts on the types.
-/
namespace Go.Proofs.YtmmpogfbhelioaaGreat
set_option maxRecDepth 10000
set_option linter.unusedVariables false
set_option linter.unusedSimpArgs false
set_option linter.unusedVariables false
set_option linter.unusedSimpArgs false

def intTy (P : Program) (t : TypeId) : Bool := match P.underlying t with | some (.int _) => true | _ => false
def strTy (P : Program) (t : TypeId) : Bool := match P.underlying t with | some .string => true | _ => false

def s3B (P : Program) (t : TypeId) : Bool := (match P.underlying t with
  | some (.struct fs) => (match fs.toList with
    | [a, b, c] => a.name != "_" && b.name != "_" && c.name != "_" && Nat.beq a.offset 0 && Nat.beq b.offset 1 && Nat.beq c.offset 2 && intTy P a.type && intTy P b.type && intTy P c.type
    | _ => false)
  | _ => false) && !P.stoodInHeld t && !P.eqGuardType P.depth t
def s4B (P : Program) (t : TypeId) : Bool := (match P.underlying t with
  | some (.struct fs) => (match fs.toList with
    | [a, b, c, d] => a.name != "_" && b.name != "_" && c.name != "_" && d.name != "_" && Nat.beq a.offset 0 && Nat.beq b.offset 1 && Nat.beq c.offset 2 && Nat.beq d.offset 3 && intTy P a.type && intTy P b.type && intTy P c.type && strTy P d.type
    | _ => false)
  | _ => false) && !P.stoodInHeld t && !P.eqGuardType P.depth t

variable {P : Program} {t : TypeId} {w : World}

theorem intTy.facts {t : TypeId} (h : intTy P t = true) : ∃ k, P.underlying t = some (.int k) := by
  unfold intTy at h
  split at h
  · exact ⟨_, by assumption⟩
  · cases h
theorem strTy.facts {t : TypeId} (h : strTy P t = true) : P.underlying t = some .string := by
  unfold strTy at h
  split at h
  · assumption
  · cases h

theorem run_partI {t : TypeId} {k : IntKind} (hu : P.underlying t = some (.int k)) {cs : Array Value} {o : Nat} {v : Value} (hv : cs[o]? = some v) : (part t cs o).run P w = .ok v w := by
  simp only [part, Sem.run_bind, run_isAgg hu, isAggD, Result.andThen_ok, hv]
  simp
theorem run_partS {t : TypeId} (hu : P.underlying t = some .string) {cs : Array Value} {o : Nat} {v : Value} (hv : cs[o]? = some v) : (part t cs o).run P w = .ok v w := by
  simp only [part, Sem.run_bind, run_isAgg hu, isAggD, Result.andThen_ok, hv]
  simp
theorem run_eqI {t : TypeId} {k q : IntKind} {d : Nat} (hu : P.underlying t = some (.int k)) {a b : Int} : (Op.equalIn (d + 1) t (.int q a) (.int q b)).run P w = .ok (a == b) w := by
  simp [Op.equalIn, run_und hu]
theorem run_eqS {t : TypeId} {d : Nat} (hu : P.underlying t = some .string) {a b : ByteArray} : (Op.equalIn (d + 1) t (.string a) (.string b)).run P w = .ok (a == b) w := by
  simp [Op.equalIn, run_und hu]

theorem run_eq3 (h : s3B P t = true) {q0 q1 q2 : IntKind} {a0 a1 a2 b0 b1 b2 : Int} : (Op.equal t (.agg #[.int q0 a0, .int q1 a1, .int q2 a2]) (.agg #[.int q0 b0, .int q1 b1, .int q2 b2])).run P w = .ok (a0 == b0 && (a1 == b1 && a2 == b2)) w := by
  unfold s3B at h
  simp only [Bool.and_eq_true, Bool.not_eq_true'] at h
  obtain ⟨⟨h, hs⟩, hg⟩ := h
  split at h
  · rename_i fs hu
    split at h
    · rename_i a b c hfs
      simp only [Bool.and_eq_true, bne_iff_ne, ne_eq] at h
      obtain ⟨⟨⟨⟨⟨⟨⟨⟨n1, n2⟩, n3⟩, o1⟩, o2⟩, o3⟩, i1⟩, i2⟩, i3⟩ := h
      have o1 := Nat.eq_of_beq_eq_true o1
      have o2 := Nat.eq_of_beq_eq_true o2
      have o3 := Nat.eq_of_beq_eq_true o3
      obtain ⟨k1, i1⟩ := intTy.facts i1
      obtain ⟨k2, i2⟩ := intTy.facts i2
      obtain ⟨k3, i3⟩ := intTy.facts i3
      have hfa : fs = #[a, b, c] := by rw [← Array.toArray_toList (xs := fs), hfs]
      subst hfa
      refine (show (Op.equalIn 10000 t _ _).run P w = _ from ?_)
      have e1 : ∀ w, (part a.type #[Value.int q0 a0, .int q1 a1, .int q2 a2] 0).run P w = .ok (.int q0 a0) w := fun w => run_partI i1 rfl
      have e1' : ∀ w, (part a.type #[Value.int q0 b0, .int q1 b1, .int q2 b2] 0).run P w = .ok (.int q0 b0) w := fun w => run_partI i1 rfl
      have e2 : ∀ w, (part b.type #[Value.int q0 a0, .int q1 a1, .int q2 a2] 1).run P w = .ok (.int q1 a1) w := fun w => run_partI i2 rfl
      have e2' : ∀ w, (part b.type #[Value.int q0 b0, .int q1 b1, .int q2 b2] 1).run P w = .ok (.int q1 b1) w := fun w => run_partI i2 rfl
      have e3 : ∀ w, (part c.type #[Value.int q0 a0, .int q1 a1, .int q2 a2] 2).run P w = .ok (.int q2 a2) w := fun w => run_partI i3 rfl
      have e3' : ∀ w, (part c.type #[Value.int q0 b0, .int q1 b1, .int q2 b2] 2).run P w = .ok (.int q2 b2) w := fun w => run_partI i3 rfl
      have f1 : ∀ w, (Op.equalIn 9999 a.type (.int q0 a0) (.int q0 b0)).run P w = .ok (a0 == b0) w := fun w => run_eqI i1
      have f2 : ∀ w, (Op.equalIn 9999 b.type (.int q1 a1) (.int q1 b1)).run P w = .ok (a1 == b1) w := fun w => run_eqI i2
      have f3 : ∀ w, (Op.equalIn 9999 c.type (.int q2 a2) (.int q2 b2)).run P w = .ok (a2 == b2) w := fun w => run_eqI i3
      rw [Op.equalIn]
      simp [run_und hu, hs, o1, o2, o3, n1, n2, n3, e1, e1', e2, e2', e3, e3', f1, f2, f3]
      by_cases g0 : a0 = b0 <;> by_cases g1 : a1 = b1 <;> by_cases g2 : a2 = b2 <;> simp [g0, g1, g2]
    · cases h
  · cases h

theorem run_eq4 (h : s4B P t = true) {q0 q1 q2 : IntKind} {a0 a1 a2 b0 b1 b2 : Int} {a3 b3 : ByteArray} : (Op.equal t (.agg #[.int q0 a0, .int q1 a1, .int q2 a2, .string a3]) (.agg #[.int q0 b0, .int q1 b1, .int q2 b2, .string b3])).run P w = .ok (a0 == b0 && (a1 == b1 && (a2 == b2 && a3 == b3))) w := by
  unfold s4B at h
  simp only [Bool.and_eq_true, Bool.not_eq_true'] at h
  obtain ⟨⟨h, hs⟩, hg⟩ := h
  split at h
  · rename_i fs hu
    split at h
    · rename_i a b c d hfs
      simp only [Bool.and_eq_true, bne_iff_ne, ne_eq] at h
      obtain ⟨⟨⟨⟨⟨⟨⟨⟨⟨⟨⟨n1, n2⟩, n3⟩, n4⟩, o1⟩, o2⟩, o3⟩, o4⟩, i1⟩, i2⟩, i3⟩, i4⟩ := h
      have o1 := Nat.eq_of_beq_eq_true o1
      have o2 := Nat.eq_of_beq_eq_true o2
      have o3 := Nat.eq_of_beq_eq_true o3
      have o4 := Nat.eq_of_beq_eq_true o4
      obtain ⟨k1, i1⟩ := intTy.facts i1
      obtain ⟨k2, i2⟩ := intTy.facts i2
      obtain ⟨k3, i3⟩ := intTy.facts i3
      have i4 := strTy.facts i4
      have hfa : fs = #[a, b, c, d] := by rw [← Array.toArray_toList (xs := fs), hfs]
      subst hfa
      refine (show (Op.equalIn 10000 t _ _).run P w = _ from ?_)
      have e1 : ∀ w, (part a.type #[Value.int q0 a0, .int q1 a1, .int q2 a2, .string a3] 0).run P w = .ok (.int q0 a0) w := fun w => run_partI i1 rfl
      have e1' : ∀ w, (part a.type #[Value.int q0 b0, .int q1 b1, .int q2 b2, .string b3] 0).run P w = .ok (.int q0 b0) w := fun w => run_partI i1 rfl
      have e2 : ∀ w, (part b.type #[Value.int q0 a0, .int q1 a1, .int q2 a2, .string a3] 1).run P w = .ok (.int q1 a1) w := fun w => run_partI i2 rfl
      have e2' : ∀ w, (part b.type #[Value.int q0 b0, .int q1 b1, .int q2 b2, .string b3] 1).run P w = .ok (.int q1 b1) w := fun w => run_partI i2 rfl
      have e3 : ∀ w, (part c.type #[Value.int q0 a0, .int q1 a1, .int q2 a2, .string a3] 2).run P w = .ok (.int q2 a2) w := fun w => run_partI i3 rfl
      have e3' : ∀ w, (part c.type #[Value.int q0 b0, .int q1 b1, .int q2 b2, .string b3] 2).run P w = .ok (.int q2 b2) w := fun w => run_partI i3 rfl
      have e4 : ∀ w, (part d.type #[Value.int q0 a0, .int q1 a1, .int q2 a2, .string a3] 3).run P w = .ok (.string a3) w := fun w => run_partS i4 rfl
      have e4' : ∀ w, (part d.type #[Value.int q0 b0, .int q1 b1, .int q2 b2, .string b3] 3).run P w = .ok (.string b3) w := fun w => run_partS i4 rfl
      have f1 : ∀ w, (Op.equalIn 9999 a.type (.int q0 a0) (.int q0 b0)).run P w = .ok (a0 == b0) w := fun w => run_eqI i1
      have f2 : ∀ w, (Op.equalIn 9999 b.type (.int q1 a1) (.int q1 b1)).run P w = .ok (a1 == b1) w := fun w => run_eqI i2
      have f3 : ∀ w, (Op.equalIn 9999 c.type (.int q2 a2) (.int q2 b2)).run P w = .ok (a2 == b2) w := fun w => run_eqI i3
      have f4 : ∀ w, (Op.equalIn 9999 d.type (.string a3) (.string b3)).run P w = .ok (a3 == b3) w := fun w => run_eqS i4
      rw [Op.equalIn]
      simp [run_und hu, hs, o1, o2, o3, o4, n1, n2, n3, n4, e1, e1', e2, e2', e3, e3', e4, e4', f1, f2, f3, f4]
      by_cases g0 : a0 = b0 <;> by_cases g1 : a1 = b1 <;> by_cases g2 : a2 = b2 <;> cases g3 : (a3 == b3) <;> simp [g0, g1, g2, g3]
    · cases h
  · cases h

variable {K : Value → Prop} {S : World → Prop} {x y : Operand}
theorem guard_agg {op : BinOp} (hg : P.eqGuardType P.depth t = false) {a b : Array Value} : (eqGuard op t x y (.agg a) (.agg b)).run P w = .ok () w := by
  unfold eqGuard
  cases op <;> simp [hg]
theorem q_eql3 (h : s3B P t = true) {q0 q1 q2 : IntKind} {a0 a1 a2 b0 b1 b2 : Int} (k : K (.bool (a0 == b0 && (a1 == b1 && a2 == b2)))) : Qu P S (binS .eql t x y (.agg #[.int q0 a0, .int q1 a1, .int q2 a2]) (.agg #[.int q0 b0, .int q1 b1, .int q2 b2])) K :=
  q_bin (fun w => guard_agg (by unfold s3B at h; simp only [Bool.and_eq_true, Bool.not_eq_true'] at h; exact h.2)) (fun w => by simp [binOp, run_eq3 h]) k
theorem q_neq4 (h : s4B P t = true) {q0 q1 q2 : IntKind} {a0 a1 a2 b0 b1 b2 : Int} {a3 b3 : ByteArray} (k : K (.bool (!(a0 == b0 && (a1 == b1 && (a2 == b2 && a3 == b3)))))) : Qu P S (binS .neq t x y (.agg #[.int q0 a0, .int q1 a1, .int q2 a2, .string a3]) (.agg #[.int q0 b0, .int q1 b1, .int q2 b2, .string b3])) K :=
  q_bin (fun w => guard_agg (by unfold s4B at h; simp only [Bool.and_eq_true, Bool.not_eq_true'] at h; exact h.2)) (fun w => by simp [binOp, run_eq4 h]) k

theorem s3_41 : s3B Pr 41 = true := by kernel_rfl
theorem s4_56 : s4B Pr 56 = true := by kernel_rfl

end Go.Proofs.YtmmpogfbhelioaaGreat
/-
  Contracts: the reference's side: the same machine, a follower.
  Conditions: each one's own.
-/
namespace Go.Proofs.YtmmpogfbhelioaaGreat
set_option maxRecDepth 10000
set_option linter.unusedVariables false
set_option linter.unusedSimpArgs false
theorem nmK26 {p : Prop} (h : p := by (try simp only [List.getElem?_toArray, List.getElem?_cons_zero, List.getElem?_cons_succ, List.setIfInBounds_toArray, List.set_cons_zero, List.set_cons_succ, List.toList_toArray, List.drop_zero, List.drop_succ_cons, List.take_zero, List.take_succ_cons, Nat.zero_add, Nat.add_zero, Nat.reduceAdd, putCells, Mac.cells, Nd.cells, Mac.nd]) <;> rfl) : p := h
theorem goK26 {G H : Prop} (h : H) (s : Stp G H := by (apply Stp.of; intro hS; (first | (refine q_ld bk_ nmK26 ?_) | (refine q_ldU bk_ rfl nmK26 ?_) | (refine q_ldW bk_ (by rfl) ?_) | (refine q_ldWU bk_ rfl (by rfl) ?_) | (refine q_ldP bk_ (Nat.le_of_ble_eq_true rfl) nmK26 ?_) | (refine q_ldPU bk_ rfl (Nat.le_of_ble_eq_true rfl) nmK26 ?_) | (refine q_ext nmK26 ?_) | (refine u_st bk_ (Nat.le_of_ble_eq_true rfl) (by first | rfl | assumption) nmK26 ?_) | (refine u_stA bk_ (Nat.le_of_ble_eq_true rfl) (by rfl) (by rfl) nmK26 ?_) | (refine q_field nmK26 ?_)); exact hS.out)) : G := s.f h
set_option linter.unusedVariables false
set_option linter.unusedSimpArgs false
attribute [local irreducible] Instr.box Instr.alloc Instr.loadAt Instr.storeAt Instr.fieldAt Instr.indexAt Instr.build Instr.buildSlice Instr.makeSlice Instr.makeMap Instr.mapUpdate Instr.lookup Instr.range Instr.next Instr.entry Instr.extract Instr.makeInterface Instr.makeFunc Instr.sliceAt Instr.typeAssert Instr.field Instr.index Builtin.len_ Builtin.cap_ Builtin.max_ Builtin.min_ Builtin.append_ Builtin.copy_ Builtin.delete_ convert binS pickS nilS callV callM Op.unary Own Mp It Cu


variable {K : Value → World → Prop} {w : World} {te te2 : Option Nat}

theorem ba_refl (s : ByteArray) : (s == s) = true := by
  show (s.data == s.data) = true
  exact beq_self_eq_true _

theorem k35 {v1 v2 : Value} {l : List En} (h1 : Ens w te v1 l) (h2 : Ens w te2 v2 l) (h : ∀ w', Ex w w' → K (.bool true) w') : CK Pr 35 #[v1, v2] w K := by
  refine c35 ?_
  unfold t35
  refine q_lenSl h1 ?_
  refine q_lenSl h2 ?_
  refine q_neq ?_
  rw [beq_self_eq_true]
  (repeat (first | (refine go ?_; intros) | (refine goK26 ?_; intros)))
  have hle := h1.le
  rw [List.length_map] at hle ⊢
  refine loop_n (α := Nat) (fun j τ w' => g τ 2 = .int .i64 j ∧ j ≤ l.length ∧ Ex w w') (fun j => l.length - j) 0 ⟨rfl, Nat.zero_le _, .refl _ _ _⟩ ?_
  intro j τ w' R ⟨hj, hjl, ex⟩ hR
  rw [hj]
  (repeat (first | (refine go ?_; intros) | (refine goK26 ?_; intros)))
  refine if_split (fun hb => ?_) (fun _ => h _ ex)
  have hj' : j < l.length := by simpa using hb
  obtain ⟨e, he⟩ : ∃ e, l[j]? = some e := ⟨_, List.getElem?_eq_getElem hj'⟩
  refine dr_q fun w1 e1 z1 => ?_
  refine q_ixa j (h1.ex (ex.trans e1)) rfl (by rw [List.getElem?_map, he]; rfl) fun _ => ?_
  refine q_ixa j (h2.ex (ex.trans e1)) rfl (by rw [List.getElem?_map, he]; rfl) fun _ => ?_
  refine q_neq4 (q0 := .u64) (q1 := .u64) (q2 := .i64) (a0 := e.t) (a1 := e.i) (a2 := e.k) (a3 := e.d) (b0 := e.t) (b1 := e.i) (b2 := e.k) (b3 := e.d) s4_56 ?_
  rw [beq_self_eq_true, beq_self_eq_true, beq_self_eq_true, ba_refl]
  (repeat (first | (refine go ?_; intros) | (refine goK26 ?_; intros)))
  rw [wrapS (by omega)]
  exact hR (j + 1) _ _ ⟨rfl, by omega, ex.trans e1⟩ (by omega)

theorem k14 {mo : Mac} {n : Nd} {role : Int} (hm : IsMac w mo) (hl : mo.st.length + mo.fr.length ≤ 1000000000000) (hn : Ens w te n.logV n.log) (on : one n.cvV = true ∧ one n.clV = true ∧ one n.coV = true ∧ one n.cnV = true)
    (hrole : mo.role = role) (hlead : mo.lead = n.lead) (hterm : mo.term = n.term) (hvote : mo.vote = n.vote) (hcom : mo.commit = n.commit) (hbi : mo.base.i = n.base.i) (hbt : mo.base.t = n.base.t) (hlog : mo.st ++ mo.fr = n.log)
    (h : ∀ w', Ex w w' → K (.bool true) w') : CK Pr 14 #[.agg mo.cells, .int .i64 role, .agg n.cells] w K := by
  refine c14 ?_
  unfold t14
  obtain ⟨o1, o2, o3, o4⟩ := on
  have on := hn.one
  refine e_boxA fun b1 w1 e1 hb1 s1 s2 => ?_
  refine e_boxA fun b2 w2 e2 hb2 s3 s4 => ?_
  have hb12 := e2.at_ hb1
  refine q_ldW hb12 (by rfl) ?_
  refine cl_fn (k12 (hm.ex (e1.trans e2)) hl fun v w3 e3 o3' => ?_)
  have p1 := hm.one1
  have ov := o3'.sl.one
  refine e_allocA fun b4 w4 e4 hb4 s5 s6 => ?_
  refine u_stA hb4 (Nat.le_of_ble_eq_true rfl) (by rfl) (by simp only [Mac.nd, Nd.cells, List.toList_toArray, List.all_cons, List.all_nil, p1.1, p1.2.1, p1.2.2.1, p1.2.2.2.1, ov]; rfl) (putCells_all (by rfl)) fun w5 u5 hb5 z5 => ?_
  have z1 := e1.size
  have z2 := e2.size
  have z3 := e3.size
  have hbm : Bk w5 b1 (.cells mo.cells 32 (0, 0)) := u5.at_ (e4.at_ (e3.at_ hb12)) rfl
  have hbn : Bk w5 b2 (.cells n.cells 43 (0, 0)) := u5.off (e4.at_ (e3.at_ hb2)) (by intro h; omega)
  have hbk : Bk w5 b4 (.cells (mo.nd v).cells 43 (0, 0)) := hb5
  clear hb5 hb4 hb12 hb1 hb2
  have ew5 : Ex w w5 := (((e1.trans e2).trans e3).trans e4).new u5 (by intro x hx; subst hx; omega)
  have hne : b4 ≠ b2 := by omega
  (repeat (first | (refine go ?_; intros) | (refine goK26 ?_; intros)))
  rw [hrole, beq_self_eq_true]
  (repeat (first | (refine go ?_; intros) | (refine goK26 ?_; intros)))
  rw [hlead, beq_self_eq_true]
  (repeat (first | (refine go ?_; intros) | (refine goK26 ?_; intros)))
  refine q_eql3 s3_41 ?_
  rw [hterm, hvote, hcom, beq_self_eq_true, beq_self_eq_true, beq_self_eq_true]
  (repeat (first | (refine go ?_; intros) | (refine goK26 ?_; intros)))
  rw [hbi, beq_self_eq_true]
  (repeat (first | (refine go ?_; intros) | (refine goK26 ?_; intros)))
  rw [hbt, beq_self_eq_true]
  (repeat (first | (refine go ?_; intros) | (refine goK26 ?_; intros)))
  have hlogw : Ens w5 te n.logV n.log := hn.ex ew5
  have hmine : Ens w5 (some 56) v n.log := by
    rw [← hlog]
    exact ((o3'.sl.ex e4).typ u5 rfl)
  refine cl_fn (k35 hmine hlogw fun w6 e6 => ?_)
  (repeat (first | (refine go ?_; intros) | (refine goK26 ?_; intros)))
  exact h w6 (ew5.trans e6)

/-- A node that follows. -/
def Nd.follows (n : Nd) (t l : Int) : Nd := { n with term := if t > n.term then t else n.term, vote := if t > n.term then 0 else n.vote, lead := l }

theorem k17 {n : Nd} {t l : Int} (on : one n.cvV = true ∧ one n.clV = true ∧ one n.coV = true ∧ one n.cnV = true ∧ one n.logV = true) (h : ∀ w', Ex w w' → K (.agg (n.follows t l).cells) w') : CK Pr 17 #[.agg n.cells, .int .u64 t, .int .u64 l] w K := by
  refine c17 ?_
  unfold t17
  obtain ⟨o1, o2, o3, o4, o5⟩ := on
  refine e_boxA fun b1 w1 e1 hb1 s1 s2 => ?_
  refine e_allocA fun b2 w2 e2 hb2 s3 s4 => ?_
  have hb12 := e2.at_ hb1
  have z1 := e1.size
  have hne : b1 ≠ b2 := by omega
  clear hb1
  unfold Jo
  (repeat (first | (refine go ?_; intros) | (refine goK26 ?_; intros)))
  by_cases ht : t > n.term
  · rw [decide_eq_true ht]
    (repeat (first | (refine go ?_; intros) | (refine goK26 ?_; intros)))
    rename_i w3 u3 hb3 z3 w4 u4 hb4 z4 w5 u5 hb5 z5
    have hb25 := u5.off (u4.off (u3.off hb2 (fun h => hne h.symm)) (fun h => hne h.symm)) (fun h => hne h.symm)
    have e25 : Ex w w5 := (((e1.trans e2).new u3 (by intro x hx; subst hx; omega)).new u4 (by intro x hx; subst hx; omega)).new u5 (by intro x hx; subst hx; omega)
    clear hb5 hb4 hb3 hb2 hb12
    refine u_stA hb25 (Nat.le_of_ble_eq_true rfl) (by rfl) (by simp only [List.toList_toArray, List.all_cons, List.all_nil, o1, o2, o3, o4, o5]; rfl) (putCells_all (by rfl)) fun w6 u6 hb6 z6 => ?_
    refine q_ldW hb6 (by rfl) ?_
    have hh := h w6 (e25.new u6 (by intro x hx; subst hx; omega))
    unfold Nd.follows at hh
    rw [if_pos ht, if_pos ht] at hh
    exact hh
  · rw [decide_eq_false ht]
    (repeat (first | (refine go ?_; intros) | (refine goK26 ?_; intros)))
    rename_i w3 u3 hb3 z3
    have hb25 := u3.off hb2 (fun h => hne h.symm)
    have e25 : Ex w w3 := (e1.trans e2).new u3 (by intro x hx; subst hx; omega)
    clear hb3 hb2 hb12
    refine u_stA hb25 (Nat.le_of_ble_eq_true rfl) (by rfl) (by simp only [List.toList_toArray, List.all_cons, List.all_nil, o1, o2, o3, o4, o5]; rfl) (putCells_all (by rfl)) fun w6 u6 hb6 z6 => ?_
    refine q_ldW hb6 (by rfl) ?_
    have hh := h w6 (e25.new u6 (by intro x hx; subst hx; omega))
    unfold Nd.follows at hh
    rw [if_neg ht, if_neg ht] at hh
    exact hh

end Go.Proofs.YtmmpogfbhelioaaGreat
/-
  Contracts: the package's messages: their getters, plain messages made out of them.
  Conditions: an answer of few fields.
-/
namespace Go.Proofs.YtmmpogfbhelioaaGreat
set_option maxRecDepth 10000
set_option linter.unusedVariables false
set_option linter.unusedSimpArgs false
theorem nmK29 {p : Prop} (h : p := by (try simp only [List.getElem?_toArray, List.getElem?_cons_zero, List.getElem?_cons_succ, List.setIfInBounds_toArray, List.set_cons_zero, List.set_cons_succ, List.toList_toArray, List.drop_zero, List.drop_succ_cons, List.take_zero, List.take_succ_cons, Nat.zero_add, Nat.add_zero, Nat.reduceAdd, putCells, MGc]) <;> rfl) : p := h
theorem goK29 {G H : Prop} (h : H) (s : Stp G H := by (apply Stp.of; intro hS; (first | (refine q_ld bk_ nmK29 ?_) | (refine q_ldU bk_ rfl nmK29 ?_) | (refine q_ldW bk_ (by rfl) ?_) | (refine q_ldWU bk_ rfl (by rfl) ?_) | (refine q_ldP bk_ (Nat.le_of_ble_eq_true rfl) nmK29 ?_) | (refine q_ldPU bk_ rfl (Nat.le_of_ble_eq_true rfl) nmK29 ?_) | (refine q_ext nmK29 ?_) | (refine u_st bk_ (Nat.le_of_ble_eq_true rfl) (by first | rfl | assumption) nmK29 ?_) | (refine u_stA bk_ (Nat.le_of_ble_eq_true rfl) (by rfl) (by rfl) nmK29 ?_) | (refine q_field nmK29 ?_)); exact hS.out)) : G := s.f h
set_option linter.unusedVariables false
set_option linter.unusedSimpArgs false
attribute [local irreducible] Instr.box Instr.alloc Instr.loadAt Instr.storeAt Instr.fieldAt Instr.indexAt Instr.build Instr.buildSlice Instr.makeSlice Instr.makeMap Instr.mapUpdate Instr.lookup Instr.range Instr.next Instr.entry Instr.extract Instr.makeInterface Instr.makeFunc Instr.sliceAt Instr.typeAssert Instr.field Instr.index Builtin.len_ Builtin.cap_ Builtin.max_ Builtin.min_ Builtin.append_ Builtin.copy_ Builtin.delete_ convert binS pickS nilS callV callM Op.unary Own Mp It Cu


variable {K : Value → World → Prop} {w : World} {te : Option Nat}

/-- A message, as far as an answer has fields: kind, to, from, term, index. -/
structure Mg where
  k : Int
  to : Int
  fr : Int
  te : Int
  ix : Int

def MGc (vk vt vf vm vi : Value) : Array Value := #[vk, vt, vf, vm, .pointer none, vi, .slice none 0 0, .pointer none, .pointer none, .pointer none, .pointer none, .pointer none, .slice none 0 0, .slice none 0 0]
/-- Block b is the package's message g. -/
def MG (b : Nat) (g : Mg) (w : World) : Prop := ∃ vk vt vf vm vi, Bk w b (.cells (MGc vk vt vf vm vi) 119 (0, 0)) ∧ PN 113 .i32 vk g.k w ∧ PN 22 .u64 vt g.to w ∧ PN 22 .u64 vf g.fr w ∧ PN 22 .u64 vm g.te w ∧ PN 22 .u64 vi g.ix w
theorem MG.ex {b : Nat} {g : Mg} {w' : World} (u : Ex w w') : MG b g w → MG b g w' := fun ⟨vk, vt, vf, vm, vi, h, h1, h2, h3, h4, h5⟩ => ⟨vk, vt, vf, vm, vi, u.at_ h, h1.ex u, h2.ex u, h3.ex u, h4.ex u, h5.ex u⟩
theorem MG.mt {b : Nat} {g : Mg} {C : Nat → Prop} {T : List Nat} {w' : World} (u : Up C T w w') (hT : (T.contains 121 || T.contains 115 || T.contains 24) = false) : MG b g w → MG b g w' := fun ⟨vk, vt, vf, vm, vi, h, h1, h2, h3, h4, h5⟩ => by
  simp only [Bool.or_eq_false_iff] at hT
  exact ⟨vk, vt, vf, vm, vi, u.at_ h hT.1.1, h1.mt hT.1.2 u, h2.mt hT.2 u, h3.mt hT.2 u, h4.mt hT.2 u, h5.mt hT.2 u⟩

theorem k135 {b : Nat} {g : Mg} (hg : MG b g w) (h : K (.int .i32 g.k) w) : CK Pr 135 #[.pointer (some ⟨b, 0, none⟩)] w K := by
  obtain ⟨vk, vt, vf, vm, vi, hb, h0, h1, h2, h3, h4⟩ := hg
  refine c135 ?_
  unfold t135
  rcases h0 with ⟨rfl, e0⟩ | ⟨b2, rfl, hb2⟩
  · (repeat (first | (refine go ?_; intros) | (refine goK29 ?_; intros)))
    rw [e0] at h
    exact h
  · (repeat (first | (refine go ?_; intros) | (refine goK29 ?_; intros)))
    exact h

theorem k136 {b : Nat} {g : Mg} (hg : MG b g w) (h : K (.int .u64 g.to) w) : CK Pr 136 #[.pointer (some ⟨b, 0, none⟩)] w K := by
  obtain ⟨vk, vt, vf, vm, vi, hb, h0, h1, h2, h3, h4⟩ := hg
  refine c136 ?_
  unfold t136
  rcases h1 with ⟨rfl, e0⟩ | ⟨b2, rfl, hb2⟩
  · (repeat (first | (refine go ?_; intros) | (refine goK29 ?_; intros)))
    rw [e0] at h
    exact h
  · (repeat (first | (refine go ?_; intros) | (refine goK29 ?_; intros)))
    exact h

theorem k137 {b : Nat} {g : Mg} (hg : MG b g w) (h : K (.int .u64 g.fr) w) : CK Pr 137 #[.pointer (some ⟨b, 0, none⟩)] w K := by
  obtain ⟨vk, vt, vf, vm, vi, hb, h0, h1, h2, h3, h4⟩ := hg
  refine c137 ?_
  unfold t137
  rcases h2 with ⟨rfl, e0⟩ | ⟨b2, rfl, hb2⟩
  · (repeat (first | (refine go ?_; intros) | (refine goK29 ?_; intros)))
    rw [e0] at h
    exact h
  · (repeat (first | (refine go ?_; intros) | (refine goK29 ?_; intros)))
    exact h

theorem k138 {b : Nat} {g : Mg} (hg : MG b g w) (h : K (.int .u64 g.te) w) : CK Pr 138 #[.pointer (some ⟨b, 0, none⟩)] w K := by
  obtain ⟨vk, vt, vf, vm, vi, hb, h0, h1, h2, h3, h4⟩ := hg
  refine c138 ?_
  unfold t138
  rcases h3 with ⟨rfl, e0⟩ | ⟨b2, rfl, hb2⟩
  · (repeat (first | (refine go ?_; intros) | (refine goK29 ?_; intros)))
    rw [e0] at h
    exact h
  · (repeat (first | (refine go ?_; intros) | (refine goK29 ?_; intros)))
    exact h

theorem k140 {b : Nat} {g : Mg} (hg : MG b g w) (h : K (.int .u64 g.ix) w) : CK Pr 140 #[.pointer (some ⟨b, 0, none⟩)] w K := by
  obtain ⟨vk, vt, vf, vm, vi, hb, h0, h1, h2, h3, h4⟩ := hg
  refine c140 ?_
  unfold t140
  rcases h4 with ⟨rfl, e0⟩ | ⟨b2, rfl, hb2⟩
  · (repeat (first | (refine go ?_; intros) | (refine goK29 ?_; intros)))
    rw [e0] at h
    exact h
  · (repeat (first | (refine go ?_; intros) | (refine goK29 ?_; intros)))
    exact h

theorem k139 {b : Nat} {g : Mg} (hg : MG b g w) (h : K (.int .u64 0) w) : CK Pr 139 #[.pointer (some ⟨b, 0, none⟩)] w K := by
  obtain ⟨vk, vt, vf, vm, vi, hb, h0, h1, h2, h3, h4⟩ := hg
  refine c139 ?_
  unfold t139
  (repeat (first | (refine go ?_; intros) | (refine goK29 ?_; intros)))
  exact h

theorem k141 {b : Nat} {g : Mg} (hg : MG b g w) (h : K (.int .u64 0) w) : CK Pr 141 #[.pointer (some ⟨b, 0, none⟩)] w K := by
  obtain ⟨vk, vt, vf, vm, vi, hb, h0, h1, h2, h3, h4⟩ := hg
  refine c141 ?_
  unfold t141
  (repeat (first | (refine go ?_; intros) | (refine goK29 ?_; intros)))
  exact h

theorem k142 {b : Nat} {g : Mg} (hg : MG b g w) (h : K (.int .u64 0) w) : CK Pr 142 #[.pointer (some ⟨b, 0, none⟩)] w K := by
  obtain ⟨vk, vt, vf, vm, vi, hb, h0, h1, h2, h3, h4⟩ := hg
  refine c142 ?_
  unfold t142
  (repeat (first | (refine go ?_; intros) | (refine goK29 ?_; intros)))
  exact h

theorem k143 {b : Nat} {g : Mg} (hg : MG b g w) (h : K (.int .u64 0) w) : CK Pr 143 #[.pointer (some ⟨b, 0, none⟩)] w K := by
  obtain ⟨vk, vt, vf, vm, vi, hb, h0, h1, h2, h3, h4⟩ := hg
  refine c143 ?_
  unfold t143
  (repeat (first | (refine go ?_; intros) | (refine goK29 ?_; intros)))
  exact h

theorem k144 {b : Nat} {g : Mg} (hg : MG b g w) (h : K (.slice none 0 0) w) : CK Pr 144 #[.pointer (some ⟨b, 0, none⟩)] w K := by
  obtain ⟨vk, vt, vf, vm, vi, hb, h0, h1, h2, h3, h4⟩ := hg
  refine c144 ?_
  unfold t144
  (repeat (first | (refine go ?_; intros) | (refine goK29 ?_; intros)))
  exact h

theorem k117 {b : Nat} {g : Mg} (hg : MG b g w) (h : K (.pointer none) w) : CK Pr 117 #[.pointer (some ⟨b, 0, none⟩)] w K := by
  obtain ⟨vk, vt, vf, vm, vi, hb, h0, h1, h2, h3, h4⟩ := hg
  refine c117 ?_
  unfold t117
  (repeat (first | (refine go ?_; intros) | (refine goK29 ?_; intros)))
  exact h

theorem k145 {b : Nat} {g : Mg} (hg : MG b g w) (h : K (.bool false) w) : CK Pr 145 #[.pointer (some ⟨b, 0, none⟩)] w K := by
  obtain ⟨vk, vt, vf, vm, vi, hb, h0, h1, h2, h3, h4⟩ := hg
  refine c145 ?_
  unfold t145
  (repeat (first | (refine go ?_; intros) | (refine goK29 ?_; intros)))
  exact h

theorem k146 {b : Nat} {g : Mg} (hg : MG b g w) (h : K (.slice none 0 0) w) : CK Pr 146 #[.pointer (some ⟨b, 0, none⟩)] w K := by
  obtain ⟨vk, vt, vf, vm, vi, hb, h0, h1, h2, h3, h4⟩ := hg
  refine c146 ?_
  unfold t146
  (repeat (first | (refine go ?_; intros) | (refine goK29 ?_; intros)))
  exact h

theorem k147 {b : Nat} {g : Mg} (hg : MG b g w) (h : K (.slice none 0 0) w) : CK Pr 147 #[.pointer (some ⟨b, 0, none⟩)] w K := by
  obtain ⟨vk, vt, vf, vm, vi, hb, h0, h1, h2, h3, h4⟩ := hg
  refine c147 ?_
  unfold t147
  (repeat (first | (refine go ?_; intros) | (refine goK29 ?_; intros)))
  exact h

theorem k95n (h : K (.pointer none) w) : CK Pr 95 #[.pointer none] w K := by
  refine c95 ?_
  unfold t95
  (repeat (first | (refine go ?_; intros) | (refine goK29 ?_; intros)))
  exact h

theorem k132n (h : K (.slice none 0 0) w) : CK Pr 132 #[.pointer none] w K := by
  refine c132 ?_
  unfold t132
  (repeat (first | (refine go ?_; intros) | (refine goK29 ?_; intros)))
  exact h

theorem k96n (h : K (.int .u64 0) w) : CK Pr 96 #[.pointer none] w K := by
  refine c96 ?_
  unfold t96
  (repeat (first | (refine go ?_; intros) | (refine goK29 ?_; intros)))
  exact h

theorem k99n (h : K (.int .u64 0) w) : CK Pr 99 #[.pointer none] w K := by
  refine c99 ?_
  unfold t99
  (repeat (first | (refine go ?_; intros) | (refine goK29 ?_; intros)))
  exact h

theorem k97n (h : K (.pointer none) w) : CK Pr 97 #[.pointer none] w K := by
  refine c97 ?_
  unfold t97
  (repeat (first | (refine go ?_; intros) | (refine goK29 ?_; intros)))
  exact h

theorem k210n (h : K (.slice none 0 0) w) : CK Pr 210 #[.pointer none] w K := by
  refine c210 ?_
  unfold t210
  (repeat (first | (refine go ?_; intros) | (refine goK29 ?_; intros)))
  exact h

theorem k211n (h : K (.slice none 0 0) w) : CK Pr 211 #[.pointer none] w K := by
  refine c211 ?_
  unfold t211
  (repeat (first | (refine go ?_; intros) | (refine goK29 ?_; intros)))
  exact h

theorem k212n (h : K (.slice none 0 0) w) : CK Pr 212 #[.pointer none] w K := by
  refine c212 ?_
  unfold t212
  (repeat (first | (refine go ?_; intros) | (refine goK29 ?_; intros)))
  exact h

theorem k213n (h : K (.slice none 0 0) w) : CK Pr 213 #[.pointer none] w K := by
  refine c213 ?_
  unfold t213
  (repeat (first | (refine go ?_; intros) | (refine goK29 ?_; intros)))
  exact h

theorem k156n (h : K (.bool false) w) : CK Pr 156 #[.pointer none] w K := by
  refine c156 ?_
  unfold t156
  (repeat (first | (refine go ?_; intros) | (refine goK29 ?_; intros)))
  exact h

end Go.Proofs.YtmmpogfbhelioaaGreat
/-
  Contracts: plain messages made out of the package's.
  Conditions: an answer of few fields; one of them at most.
-/
namespace Go.Proofs.YtmmpogfbhelioaaGreat
set_option maxRecDepth 10000
set_option linter.unusedVariables false
set_option linter.unusedSimpArgs false
theorem nmK30 {p : Prop} (h : p := by (try simp only [List.getElem?_toArray, List.getElem?_cons_zero, List.getElem?_cons_succ, List.setIfInBounds_toArray, List.set_cons_zero, List.set_cons_succ, List.toList_toArray, List.drop_zero, List.drop_succ_cons, List.take_zero, List.take_succ_cons, Nat.zero_add, Nat.add_zero, Nat.reduceAdd, putCells, MGc, Mg.cells]) <;> rfl) : p := h
theorem goK30 {G H : Prop} (h : H) (s : Stp G H := by (apply Stp.of; intro hS; (first | (refine q_ld bk_ nmK30 ?_) | (refine q_ldU bk_ rfl nmK30 ?_) | (refine q_ldW bk_ (by rfl) ?_) | (refine q_ldWU bk_ rfl (by rfl) ?_) | (refine q_ldP bk_ (Nat.le_of_ble_eq_true rfl) nmK30 ?_) | (refine q_ldPU bk_ rfl (Nat.le_of_ble_eq_true rfl) nmK30 ?_) | (refine q_ext nmK30 ?_) | (refine u_st bk_ (Nat.le_of_ble_eq_true rfl) (by first | rfl | assumption) nmK30 ?_) | (refine u_stA bk_ (Nat.le_of_ble_eq_true rfl) (by rfl) (by rfl) nmK30 ?_) | (refine q_field nmK30 ?_)); exact hS.out)) : G := s.f h
set_option linter.unusedVariables false
set_option linter.unusedSimpArgs false
attribute [local irreducible] Instr.box Instr.alloc Instr.loadAt Instr.storeAt Instr.fieldAt Instr.indexAt Instr.build Instr.buildSlice Instr.makeSlice Instr.makeMap Instr.mapUpdate Instr.lookup Instr.range Instr.next Instr.entry Instr.extract Instr.makeInterface Instr.makeFunc Instr.sliceAt Instr.typeAssert Instr.field Instr.index Builtin.len_ Builtin.cap_ Builtin.max_ Builtin.min_ Builtin.append_ Builtin.copy_ Builtin.delete_ convert binS pickS nilS callV callM Op.unary Own Mp It Cu


variable {K : Value → World → Prop} {w : World} {te : Option Nat}

theorem k133n (k : ∀ v1 v2 v3 v4 w', Ex w w' → one v1 = true → one v2 = true → one v3 = true → one v4 = true → K (.agg #[v1, v2, v3, v4, .bool false]) w') : CK Pr 133 #[.pointer none] w K := by
  refine c133 ?_
  unfold t133
  refine e_allocA fun b0 w0 e0 hb0 sa sb => ?_
  refine cl_fn (k210n ?_)
  refine cl_fn (k107 (l := []) (te := some 22) (.nil _ _) (by simp) fun u1 w1 e1 o1 => ?_)
  refine cl_fn (k211n ?_)
  refine cl_fn (k107 (l := []) (te := some 22) (.nil _ _) (by simp) fun u2 w2 e2 o2 => ?_)
  refine cl_fn (k212n ?_)
  refine cl_fn (k107 (l := []) (te := some 22) (.nil _ _) (by simp) fun u3 w3 e3 o3 => ?_)
  refine cl_fn (k213n ?_)
  refine cl_fn (k107 (l := []) (te := some 22) (.nil _ _) (by simp) fun u4 w4 e4 o4 => ?_)
  refine cl_fn (k156n ?_)
  refine b25_0_1_2_3_4 o1.sl.one o2.sl.one o3.sl.one o4.sl.one rfl ?_
  refine u_stA bk_ (Nat.le_of_ble_eq_true rfl) (by rfl) (by simp only [List.all_cons, List.all_nil, o1.sl.one, o2.sl.one, o3.sl.one, o4.sl.one]; rfl) nmK30 fun w5 u5 hb5 z5 => ?_
  (repeat (first | (refine go ?_; intros) | (refine goK30 ?_; intros)))
  have z1 := e1.size
  have z2 := e2.size
  have z3 := e3.size
  have z4 := e4.size
  exact k u1 u2 u3 u4 w5 ex_ o1.sl.one o2.sl.one o3.sl.one o4.sl.one

theorem k90n (k : ∀ v1 v2 v3 v4 w', Ex w w' → one v1 = true → one v2 = true → one v3 = true → one v4 = true → K (.agg #[.string ByteArray.empty, .int .u64 0, .int .u64 0, v1, v2, v3, v4, .bool false]) w') : CK Pr 90 #[.pointer none] w K := by
  refine c90 ?_
  unfold t90
  refine e_allocA fun b0 w0 e0 hb0 sa sb => ?_
  refine cl_fn (k95n ?_)
  refine dr_rule (fun b => b = b0) [29] fun w1 e1 z1 => ?_
  refine cl_fn (k132n ⟨.refl _ _ _, ?_⟩)
  refine q_strS (s := ByteArray.empty) (te := none) (fun w' hw => by exact Sl.nil _ _) ?_
  refine cl_fn (k96n ⟨.refl _ _ _, ?_⟩)
  refine cl_fn (k99n ⟨.refl _ _ _, ?_⟩)
  refine cl_fn (k97n ⟨.refl _ _ _, ?_⟩)
  refine cl_fn (k133n fun u1 u2 u3 u4 w2 e2 o1 o2 o3 o4 => ⟨.of_ex e2, ?_⟩)
  have z2 := e2.size
  refine b27_0_1_2_3 rfl rfl rfl ?_
  refine u_stA bk_ (Nat.le_of_ble_eq_true rfl) (by rfl) (by simp only [List.all_cons, List.all_nil, o1, o2, o3, o4]; rfl) nmK30 fun w5 u5 hb5 z5 => ⟨(Up.of_ex e2).trans u5, ?_⟩
  (repeat (first | (refine go ?_; intros) | (refine goK30 ?_; intros)))
  exact k u1 u2 u3 u4 w5 ex_ o1 o2 o3 o4

/-- The plain message. -/
def Mg.cells (g : Mg) (v0 v1 v2 v3 v4 : Value) : Array Value := #[.int .i64 g.k, .int .u64 g.to, .int .u64 g.fr, .int .u64 g.te, .int .u64 0, .int .u64 g.ix, .int .u64 0, .int .u64 0, .int .u64 0, v0, .string ByteArray.empty, .int .u64 0, .int .u64 0, v1, v2, v3, v4, .bool false, .bool false, .string ByteArray.empty, .slice none 0 0]

theorem k94 {b : Nat} {mg : Mg} (hg : MG b mg w) (hk : IntKind.i64.wrap mg.k = mg.k)
    (k : ∀ v0 v1 v2 v3 v4 w', Ex w w' → one v0 = true → one v1 = true → one v2 = true → one v3 = true → one v4 = true → K (.agg (mg.cells v0 v1 v2 v3 v4)) w') : CK Pr 94 #[.pointer (some ⟨b, 0, none⟩)] w K := by
  refine c94 ?_
  unfold t94
  refine e_allocA fun b0 w0 e0 hb0 sa sb => ?_
  have g0 := hg.ex e0
  refine cl_fn (k135 g0 ?_)
  (repeat (first | (refine go ?_; intros) | (refine goK30 ?_; intros)))
  rw [hk]
  refine cl_fn (k136 g0 ?_)
  refine cl_fn (k137 g0 ?_)
  refine cl_fn (k138 g0 ?_)
  refine cl_fn (k139 g0 ?_)
  refine cl_fn (k140 g0 ?_)
  refine cl_fn (k141 g0 ?_)
  refine cl_fn (k142 g0 ?_)
  refine cl_fn (k143 g0 ?_)
  refine cl_fn (k144 g0 ?_)
  refine cl_fn (k86 (l := []) (ps := []) (te := none) (.nil _ _) (.nil _) (by simp) (fun e he => by cases he) fun v0 w1 e1 o0 => ?_)
  have g1 := g0.ex e1
  refine cl_fn (k117 g1 ?_)
  refine cl_fn (k90n fun v1 v2 v3 v4 w2 e2 o1 o2 o3 o4 => ?_)
  have g2 := g1.ex e2
  refine cl_fn (k145 g2 ?_)
  refine cl_fn (k146 g2 ?_)
  refine q_strS (s := ByteArray.empty) (te := none) (fun w' hw => by exact Sl.nil _ _) ?_
  have oo := o0.sl.one
  refine b64_0_1_2_3_4_5_6_7_8_9_10_11_12 rfl rfl rfl rfl rfl rfl rfl rfl rfl oo rfl rfl ?_
  refine e_allocA fun b3 w3 e3 hb3 sc sd => ?_
  refine u_stA hb3 (Nat.le_of_ble_eq_true rfl) (by rfl) (by simp only [List.all_cons, List.all_nil, oo, o1, o2, o3, o4]; rfl) nmK30 fun w4 u4 hb4 z4 => ?_
  clear hb3
  have z1 := e1.size
  have z2 := e2.size
  have z3 := e3.size
  have e4 : Ex w2 w4 := e3.new u4 (by intro x hx; subst hx; omega)
  have hb04 : Bk w4 b0 _ := e4.at_ (e2.at_ (e1.at_ hb0))
  refine cl_fn (k147 (g2.ex e4) ?_)
  (repeat (first | (refine go ?_; intros) | (refine goK30 ?_; intros)))
  refine loop_n (α := Unit) (fun _ τ w' => g τ 1 = .int .i64 0 ∧ w' = w4) (fun _ => 0) () ⟨rfl, rfl⟩ ?_
  rintro _ τ w' R ⟨h0, rfl⟩ hR
  rw [h0]
  (repeat (first | (refine go ?_; intros) | (refine goK30 ?_; intros)))
  refine u_stA hb04 (Nat.le_of_ble_eq_true rfl) (by rfl) (by simp only [List.all_cons, List.all_nil, oo, o1, o2, o3, o4]; rfl) nmK30 fun w5 u5 hb5 z5 => ?_
  refine q_ldW hb5 (by rfl) ?_
  exact k v0 v1 v2 v3 v4 w5 ((((e0.trans e1).trans e2).trans e4).new u5 (by intro x hx; subst hx; omega)) oo o1 o2 o3 o4

/-- The messages of a machine in memory: none, or one. -/
def AF (v : Value) (l : Option Mg) (w : World) : Prop := match l with
  | none => v = .slice none 0 0
  | some g => ∃ b, Sl w (some 86) 1 v [[.pointer (some ⟨b, 0, none⟩)]] ∧ MG b g w
theorem AF.ex {v : Value} {l : Option Mg} {w' : World} (u : Ex w w') (h : AF v l w) : AF v l w' := by
  cases l with
  | none => exact h
  | some g => obtain ⟨b, h1, h2⟩ := h; exact ⟨b, h1.ex u, h2.ex u⟩
theorem AF.mt {v : Value} {l : Option Mg} {C : Nat → Prop} {T : List Nat} {w' : World} (u : Up C T w w') (hT : (T.contains 121 || T.contains 115 || T.contains 24) = false) (h2 : T.contains 88 = false) (h : AF v l w) : AF v l w' := by
  cases l with
  | none => exact h
  | some g => obtain ⟨b, h1, h3⟩ := h; exact ⟨b, h1.typ u h2, h3.mt u hT⟩
/-- The plain messages. -/
def PA (v : Value) (l : Option Mg) (w : World) : Prop := match l with
  | none => v = .slice none 0 0
  | some g => ∃ v0 v1 v2 v3 v4, Sl w (some 64) 21 v [(g.cells v0 v1 v2 v3 v4).toList]
theorem PA.ex {v : Value} {l : Option Mg} {w' : World} (u : Ex w w') (h : PA v l w) : PA v l w' := by
  cases l with
  | none => exact h
  | some g => obtain ⟨v0, v1, v2, v3, v4, h1⟩ := h; exact ⟨v0, v1, v2, v3, v4, h1.ex u⟩
theorem PA.mt {v : Value} {l : Option Mg} {C : Nat → Prop} {T : List Nat} {w' : World} (u : Up C T w w') (hT : T.contains 66 = false) (h : PA v l w) : PA v l w' := by
  cases l with
  | none => exact h
  | some g => obtain ⟨v0, v1, v2, v3, v4, h1⟩ := h; exact ⟨v0, v1, v2, v3, v4, h1.typ u hT⟩
theorem PA.one {v : Value} {l : Option Mg} (h : PA v l w) : one v = true := by
  cases l with
  | none => subst h; rfl
  | some g => obtain ⟨v0, v1, v2, v3, v4, h1⟩ := h; exact h1.one

theorem k53 {v : Value} {l : Option Mg} (hv : AF v l w) (hk : ∀ g, l = some g → IntKind.i64.wrap g.k = g.k) (h : ∀ v' w', Ex w w' → PA v' l w' → K v' w') : CK Pr 53 #[v] w K := by
  refine c53 ?_
  unfold t53
  cases l with
  | none =>
    obtain rfl := hv
    (repeat (first | (refine go ?_; intros) | (refine goK30 ?_; intros)))
    refine loop_n (α := Unit) (fun _ τ w' => g τ 0 = .slice none 0 0 ∧ g τ 2 = .int .i64 0 ∧ w' = w) (fun _ => 0) () ⟨rfl, rfl, rfl⟩ ?_
    rintro _ τ w' R ⟨h0, h2, rfl⟩ hR
    rw [h0, h2]
    (repeat (first | (refine go ?_; intros) | (refine goK30 ?_; intros)))
    exact h _ _ (.refl _ _ _) rfl
  | some mg =>
    obtain ⟨b, hs, hm⟩ := hv
    refine q_lenSl hs ?_
    refine loop_n (α := Bool) (fun a τ w' => if a then g τ 2 = .int .i64 1 ∧ Ex w w' ∧ PA (g τ 0) (some mg) w' else g τ 2 = .int .i64 0 ∧ w' = w ∧ g τ 0 = .slice none 0 0) (fun a => if a then 0 else 1) false ⟨rfl, rfl, rfl⟩ ?_
    intro a τ w' R ha hR
    cases a with
    | false =>
      obtain ⟨h2, rfl, h0⟩ := ha
      rw [h2, h0]
      (repeat (first | (refine go ?_; intros) | (refine goK30 ?_; intros)))
      refine q_ixs 0 hs rfl (by rfl) fun _ => ?_
      refine cl_fn (k94 hm (hk mg rfl) fun v0 v1 v2 v3 v4 w1 e1 o0 o1 o2 o3 o4 => ?_)
      refine e_push (n := 21) (base := w1.heap.size) (Own.nil _ _ _ _) (by rfl) (by omega) ?_ (by simp) (by simp) (Nat.le_refl _) fun _ v' w3 u3 ow3 hbl z3 => ?_
      · intro u hu
        simp only [Value.cells, Mg.cells, List.mem_cons, List.not_mem_nil, or_false] at hu
        rcases hu with rfl | rfl | rfl | rfl | rfl | rfl | rfl | rfl | rfl | rfl | rfl | rfl | rfl | rfl | rfl | rfl | rfl | rfl | rfl | rfl | rfl <;> first | rfl | assumption
      (repeat (first | (refine go ?_; intros) | (refine goK30 ?_; intros)))
      refine hR true _ _ ?_ (by simp)
      refine ⟨rfl, e1.new u3 (by intro x hx; cases hx), v0, v1, v2, v3, v4, ow3.sl⟩
    | true =>
      obtain ⟨h2, he, hp⟩ := ha
      rw [h2]
      (repeat (first | (refine go ?_; intros) | (refine goK30 ?_; intros)))
      exact h _ _ he hp

end Go.Proofs.YtmmpogfbhelioaaGreat
/-
  Contracts: a progress that becomes one of a member that keeps up; entries copied; the log grows by an entry.
  Conditions: each one's own.
-/
namespace Go.Proofs.YtmmpogfbhelioaaGreat
set_option maxRecDepth 10000
set_option linter.unusedVariables false
set_option linter.unusedSimpArgs false
theorem nmK31 {p : Prop} (h : p := by (try simp only [List.getElem?_toArray, List.getElem?_cons_zero, List.getElem?_cons_succ, List.setIfInBounds_toArray, List.set_cons_zero, List.set_cons_succ, List.toList_toArray, List.drop_zero, List.drop_succ_cons, List.take_zero, List.take_succ_cons, Nat.zero_add, Nat.add_zero, Nat.reduceAdd, putCells, Pg.cells, E0, Lg.cells, Rf.cells]) <;> rfl) : p := h
theorem goK31 {G H : Prop} (h : H) (s : Stp G H := by (apply Stp.of; intro hS; (first | (refine q_ld bk_ nmK31 ?_) | (refine q_ldU bk_ rfl nmK31 ?_) | (refine q_ldW bk_ (by rfl) ?_) | (refine q_ldWU bk_ rfl (by rfl) ?_) | (refine q_ldP bk_ (Nat.le_of_ble_eq_true rfl) nmK31 ?_) | (refine q_ldPU bk_ rfl (Nat.le_of_ble_eq_true rfl) nmK31 ?_) | (refine q_ext nmK31 ?_) | (refine u_st bk_ (Nat.le_of_ble_eq_true rfl) (by first | rfl | assumption) nmK31 ?_) | (refine u_stA bk_ (Nat.le_of_ble_eq_true rfl) (by rfl) (by rfl) nmK31 ?_) | (refine q_field nmK31 ?_)); exact hS.out)) : G := s.f h
set_option linter.unusedVariables false
set_option linter.unusedSimpArgs false
attribute [local irreducible] Instr.box Instr.alloc Instr.loadAt Instr.storeAt Instr.fieldAt Instr.indexAt Instr.build Instr.buildSlice Instr.makeSlice Instr.makeMap Instr.mapUpdate Instr.lookup Instr.range Instr.next Instr.entry Instr.extract Instr.makeInterface Instr.makeFunc Instr.sliceAt Instr.typeAssert Instr.field Instr.index Builtin.len_ Builtin.cap_ Builtin.max_ Builtin.min_ Builtin.append_ Builtin.copy_ Builtin.delete_ convert binS pickS nilS callV callM Op.unary Own Mp It Cu


variable {K : Value → World → Prop} {w : World} {te : Option Nat}

/-- A block turned, and is as it was. -/
theorem Up.same_ {b : Nat} {o : Obj} {T : List Nat} {w' : World} (u : Up (fun x => x = b) T w w') (h : Bk w b o) (h' : Bk w' b o) : Ex w w' :=
  ⟨u.size, u.os, u.tape, u.output, fun c oc hc _ => by
    by_cases hcb : c = b
    · subst hcb; rw [← h.one hc]; exact h'
    · exact u.keep c oc hc (.inr hcb)⟩

theorem k265 {ib : Nat} {size mx : Int} (hi : Inf ib size mx w) (h : ∀ w', Ex w w' → w'.heap.size = w.heap.size → K (.tuple #[]) w') : CK Pr 265 #[.pointer (some ⟨ib, 0, none⟩)] w K := by
  refine c265 ?_
  unfold t265
  unfold Inf at hi
  (repeat (first | (refine go ?_; intros) | (refine goK31 ?_; intros)))
  rename_i w1 u1 hb1 z1 w2 u2 hb2 z2 w3 u3 hb3 z3
  exact h w3 (((u1.trans u2).trans u3).same_ hi hb3) (by omega)

theorem k199 {base pb : Nat} {q : Pg} {st : Int} (hp : PG base pb q w) (h : ∀ w', Up (fun x => x = pb) [154] w w' → w'.heap.size = w.heap.size → PG base pb { q with pau := false, pend := 0, st := st } w' → K (.tuple #[]) w') : CK Pr 199 #[.pointer (some ⟨pb, 0, none⟩), .int .u64 st] w K := by
  refine c199 ?_
  unfold t199
  obtain ⟨h0, ib, hib, hb, hi⟩ := hp
  (repeat (first | (refine go ?_; intros) | (refine goK31 ?_; intros)))
  rename_i w1 u1 hb1 z1 w2 u2 hb2 z2 w3 u3 hb3 z3
  have U : Up (fun x => x = pb) [154] w w3 := (u1.trans u2).trans u3
  have hi3 : Inf ib q.size q.mx w3 := U.at_ hi rfl
  refine cl_fn (k265 hi3 fun w4 e4 z4 => ?_)
  exact h w4 (U.ex e4) (by omega) ⟨h0, ib, hib, e4.at_ hb3, e4.at_ hi3⟩

theorem k114 {base pb : Nat} {q : Pg} (hp : PG base pb q w) (hm : 0 ≤ q.ma ∧ q.ma ≤ 2000000000000000) (h : ∀ w', Up (fun x => x = pb) [154] w w' → w'.heap.size = w.heap.size → PG base pb { q with pau := false, pend := 0, st := 1, ne := q.ma + 1 } w' → K (.tuple #[]) w') : CK Pr 114 #[.pointer (some ⟨pb, 0, none⟩)] w K := by
  refine c114 ?_
  unfold t114
  refine cl_fn (k199 hp fun w1 u1 z1 p1 => ?_)
  obtain ⟨h0, ib, hib, hb, hi⟩ := p1
  (repeat (first | (refine go ?_; intros) | (refine goK31 ?_; intros)))
  rename_i w2 u2 hb2 z2
  rw [wrapU (n := q.ma + 1) (by omega) (by omega)] at hb2
  exact h w2 (u1.trans u2) (by omega) ⟨h0, ib, hib, hb2, u2.at_ hi rfl⟩

theorem k266n (h : K (.pointer none) w) : CK Pr 266 #[.pointer none] w K := by
  refine c266 ?_
  unfold t266
  (repeat (first | (refine go ?_; intros) | (refine goK31 ?_; intros)))
  exact h
theorem k267n (h : K (.pointer none) w) : CK Pr 267 #[.pointer none] w K := by
  refine c267 ?_
  unfold t267
  (repeat (first | (refine go ?_; intros) | (refine goK31 ?_; intros)))
  exact h
theorem k204n (h : K (.slice none 0 0) w) : CK Pr 204 #[.slice none 0 0] w K := by
  refine c204 ?_
  unfold t204
  (repeat (first | (refine go ?_; intros) | (refine goK31 ?_; intros)))
  exact h

/-- The empty entry's cells. -/
def E0 : Array Value := #[.pointer none, .pointer none, .pointer none, .slice none 0 0]

theorem k200e {b : Nat} (hb : Bk w b (.cells E0 215 (0, 0))) (h : ∀ b' w', Ex w w' → w.heap.size ≤ b' → Bk w' b' (.cells E0 215 (0, 0)) → K (.pointer (some ⟨b', 0, none⟩)) w') : CK Pr 200 #[.pointer (some ⟨b, 0, none⟩)] w K := by
  refine c200 ?_
  unfold t200
  (repeat (first | (refine go ?_; intros) | (refine goK31 ?_; intros)))
  refine dr_rule No [] fun w1 e1 z1 => ?_
  have hb1 := e1.at_ hb
  (repeat (first | (refine go ?_; intros) | (refine goK31 ?_; intros)))
  refine cl_fn (k266n ⟨.refl _ _ _, ?_⟩)
  (repeat (first | (refine go ?_; intros) | (refine goK31 ?_; intros)))
  refine cl_fn (k266n ⟨.refl _ _ _, ?_⟩)
  (repeat (first | (refine go ?_; intros) | (refine goK31 ?_; intros)))
  refine cl_fn (k267n ⟨.refl _ _ _, ?_⟩)
  (repeat (first | (refine go ?_; intros) | (refine goK31 ?_; intros)))
  refine cl_fn (k204n ⟨.refl _ _ _, ?_⟩)
  (repeat (first | (refine go ?_; intros) | (refine goK31 ?_; intros) | refine b215_0_1_2_3 (by first | rfl | assumption) (by first | rfl | assumption) (by first | rfl | assumption) (by first | rfl | assumption) ?_))
  rename_i b2 w2 e2 hb2 s1 s2
  exact ⟨e2, h b2 w2 (e1.trans e2) (by omega) hb2⟩

theorem Lg.last_app {L : Lg} {e : En} : ({ L with un := L.un ++ [e] } : Lg).last = L.off + L.un.length := by
  unfold Lg.last
  cases h : L.un with
  | nil => simp
  | cons x l => simp; omega

theorem k268 {base lb : Nat} {L : Lg} {v p : Value} {e : En} (hL : LG base lb L w) (hok : L.Ok) (hs : Sl w (some 212) 1 v [[p]]) (hp : PE p e w) (he : e.i = L.off + L.un.length)
    (h : ∀ w', Up (fun x => base ≤ x) [198, 214] w w' → LG base lb { L with un := L.un ++ [e] } w' → K (.tuple #[]) w') : CK Pr 268 #[.pointer (some ⟨lb, 1, none⟩), v] w K := by
  refine c268 ?_
  unfold t268
  refine q_ixs (x := p) 0 hs rfl rfl fun _ => ?_
  refine cl_fn (k124 hp ?_)
  refine dr_rule No [] fun w1 e1 z1 => ?_
  have hL1 := hL.ex e1
  obtain ⟨lim, vs, ve, ps, h1, h2, h3, h4, h5, h6, h7, h8, h9, h10⟩ := hL1
  have hl := h7.len
  obtain ⟨_, _, hoff, hun, _⟩ := hok
  (repeat (first | (refine go ?_; intros) | (refine goK31 ?_; intros)))
  refine q_lenSl h6.sl ?_
  rw [show (ones ps).length = L.un.length by simp [ones, hl]]
  (repeat (first | (refine go ?_; intros) | (refine goK31 ?_; intros)))
  rw [wrapU (n := (L.un.length : Nat)) (by omega) (by omega), wrapU (n := L.off + (L.un.length : Nat)) (by omega) (by omega), he, beq_self_eq_true]
  unfold Jo
  (repeat (first | (refine go ?_; intros) | (refine goK31 ?_; intros)))
  have p1 := hp.one
  refine e_app (base := lim) h6 (hs.ex e1) (by intro y hy u hu; rw [List.mem_singleton.1 hy] at hu; rw [List.mem_singleton.1 hu]; exact p1) (by simp [ones, hl]; omega) (by simp [ones, hl]; omega) (by omega) fun v2 w2 u2 o2 hb2 z2 => ?_
  have lt := h6.lt
  have hbk : Bk w2 lb _ := u2.at_ h1 rfl
  have o22 := o2.sl.one
  clear h1
  (repeat (first | (refine go ?_; intros) | (refine goK31 ?_; intros)))
  rename_i w3 u3 hb3 z3
  have U2 : Up (fun x => lim ≤ x) [198, 214] w1 w2 := u2.mono (fun y _ hy => (lt y hy).1) (fun k hk => by simp at hk; simp [hk])
  refine h w3 (((Up.of_ex e1).trans (U2.mono (fun y _ hy => by omega) (fun _ hk => hk))).trans (u3.mono (fun y _ hy => by subst hy; exact h8) (fun k hk => by simp at hk; simp [hk]))) ⟨lim, vs, v2, ps ++ [p], hb3, ?_, h3, by omega, ?_, ?_, ?_, h8, h9, by show L.sb < _; omega⟩
  · exact (h2.up rfl u2 (.inl rfl) (.inr fun x hx1 hx2 hc => by have := (lt x hc).1; omega)).up rfl u3 (.inl rfl) (.inl rfl)
  · exact (h5.mt rfl u2).mt rfl u3
  · have : ones (ps ++ [p]) = ones ps ++ [[p]] := by simp [ones]
    rw [this]
    exact o2.up u3 fun _ _ => .inl rfl
  · exact ((h7.app (.cons (hp.ex e1) (.nil _))).mt rfl u2).mt rfl u3

theorem k202 {base lb : Nat} {L : Lg} {v p : Value} {e : En} (hL : LG base lb L w) (hok : L.Ok) (hs : Sl w (some 212) 1 v [[p]]) (hp : PE p e w) (he : e.i = L.off + L.un.length) (hcm : L.cm < e.i) (hi : 1 ≤ e.i) (hok2 : ({ L with un := L.un ++ [e] } : Lg).Ok)
    (h : ∀ w', Up (fun x => base ≤ x) [198, 214, 227] w w' → LG base lb { L with un := L.un ++ [e] } w' → K (.int .u64 e.i) w') : CK Pr 202 #[.pointer (some ⟨lb, 0, none⟩), v] w K := by
  refine c202 ?_
  unfold t202
  refine q_lenSl hs ?_
  (repeat (first | (refine go ?_; intros) | (refine goK31 ?_; intros)))
  refine q_ixs (x := p) 0 hs rfl rfl fun _ => ?_
  refine cl_fn (k124 hp ?_)
  have hL' := hL
  obtain ⟨lim, vs, ve, ps, h1, _, _, _, _, _, _, h8, h9, _⟩ := hL'
  have hoff := hok.off
  have hun := hok.un
  (repeat (first | (refine go ?_; intros) | (refine goK31 ?_; intros)))
  rw [wrapU (n := e.i - 1) (by omega) (by omega), decide_eq_false (show ¬ e.i - 1 < L.cm by omega)]
  (repeat (first | (refine go ?_; intros) | (refine goK31 ?_; intros)))
  refine cl_fn (k268 hL hok hs hp he fun w2 u2 l2 => ?_)
  refine cl_fn (k104 l2 hok2 fun w3 u3 z3 l3 => ?_)
  rw [Lg.last_app, ← he]
  exact h w3 ((u2.mono (fun _ _ h => h) (fun k hk => by simp at hk; rcases hk with rfl | rfl <;> simp)).trans (u3.mono (fun y _ hy => by subst hy; exact h9) (fun k hk => by simp at hk; simp [hk]))) l3

theorem bl_len (s : ByteArray) : (byteList s).length = s.size := by
  unfold byteList
  rw [List.length_map]
  rfl

theorem k294 {v : Value} {e : En} (hp : PE v e w) (hsz : e.d.size ≤ 1000000000) (h : K (.int .u64 (e.d.size : Nat)) w) : CK Pr 294 #[v] w K := by
  refine c294 ?_
  unfold t294
  refine cl_fn (k130 hp fun v' hv => ?_)
  refine q_lenSl hv ?_
  rw [bl_len]
  (repeat (first | (refine go ?_; intros) | (refine goK31 ?_; intros)))
  rw [wrapU (by omega) (by omega)]
  exact h

theorem k236 {v p : Value} {e : En} (hs : Sl w te 1 v [[p]]) (hp : PE p e w) (he : e.d = ByteArray.empty) (h : K (.int .u64 0) w) : CK Pr 236 #[v] w K := by
  refine c236 ?_
  unfold t236
  refine q_lenSl hs ?_
  refine loop_n (α := Nat) (fun j τ w' => g τ 0 = .int .u64 0 ∧ g τ 2 = .int .i64 j ∧ j ≤ 1 ∧ w' = w) (fun j => 1 - j) 0 ⟨rfl, rfl, by omega, rfl⟩ ?_
  rintro j τ w' R ⟨h0, h2, hj, rfl⟩ hR
  rw [h0, h2]
  (repeat (first | (refine go ?_; intros) | (refine goK31 ?_; intros)))
  refine if_split (fun hb => ?_) (fun hb => ?_)
  · have : j = 0 := by
      have := of_decide_eq_true hb
      simp at this
      omega
    subst this
    refine q_ixs (x := p) 0 hs rfl rfl fun _ => ?_
    refine cl_fn (k294 hp (by rw [he]; decide) ?_)
    rw [he]
    (repeat (first | (refine go ?_; intros) | (refine goK31 ?_; intros)))
    exact hR 1 _ _ ⟨rfl, rfl, by omega, rfl⟩ (by omega)
  · exact h

theorem k201 {base b : Nat} {R : Rf} {L : Lg} {ps : Ps} {vo le : List Int} {v p : Value} {e : En} (r : RM base b R L ps vo le w) (hus : R.us = 0) (hs : Sl w te 1 v [[p]]) (hp : PE p e w) (he : e.d = ByteArray.empty)
    (h : ∀ w', Up (fun x => x = b) [189] w w' → RM base b R L ps vo le w' → K (.bool true) w') : CK Pr 201 #[.pointer (some ⟨b, 0, none⟩), v] w K := by
  refine c201 ?_
  unfold t201
  refine cl_fn (k236 hs hp he ?_)
  refine dr_rule No [] fun w1 e1 z1 => ?_
  have r1 := r.ex e1
  have rb := r1.bk
  refine q_nil ?_
  refine q_fa ?_
  refine q_ldU (x := .int .u64 R.us) rb rfl rfl ?_
  rw [hus]
  (repeat (first | (refine go ?_; intros) | (refine goK31 ?_; intros)))
  rename_i w2 u2 hb2 z2
  have hbk : Bk w2 b (.cells R.cells 187 (0, 0)) := by
    rw [hus] at hb2
    unfold Rf.cells
    rw [hus]
    exact hb2
  exact h w2 ((Up.of_ex e1).trans u2) (r1.put u2 hbk ⟨rfl, rfl, rfl, rfl, rfl, rfl⟩)

theorem k120 {n : Int} (h : ∀ b' w', Ex w w' → w.heap.size ≤ b' → Bk w' b' (.cells #[.int .i32 n] 113 (0, 0)) → K (.pointer (some ⟨b', 0, none⟩)) w') : CK Pr 120 #[.int .i32 n] w K := by
  refine c120 ?_
  unfold t120
  (repeat (first | (refine go ?_; intros) | (refine goK31 ?_; intros)))
  rename_i b1 w1 e1 hb1 s1 s2 w2 u2 hb2 z2
  exact h b1 w2 (e1.new u2 (by intro x hx; subst hx; omega)) (by omega) hb2

end Go.Proofs.YtmmpogfbhelioaaGreat
/-
  Contracts: a message of the answers is sent; an empty entry is appended; the machine becomes a leader.
  Conditions: each one's own.
-/
namespace Go.Proofs.YtmmpogfbhelioaaGreat
set_option maxRecDepth 10000
set_option linter.unusedVariables false
set_option linter.unusedSimpArgs false
theorem nmK32 {p : Prop} (h : p := by (try simp only [List.getElem?_toArray, List.getElem?_cons_zero, List.getElem?_cons_succ, List.setIfInBounds_toArray, List.set_cons_zero, List.set_cons_succ, List.toList_toArray, List.drop_zero, List.drop_succ_cons, List.take_zero, List.take_succ_cons, Nat.zero_add, Nat.add_zero, Nat.reduceAdd, putCells, Rf.cells, MGc]) <;> rfl) : p := h
theorem goK32 {G H : Prop} (h : H) (s : Stp G H := by (apply Stp.of; intro hS; (first | (refine q_ld bk_ nmK32 ?_) | (refine q_ldU bk_ rfl nmK32 ?_) | (refine q_ldW bk_ (by rfl) ?_) | (refine q_ldWU bk_ rfl (by rfl) ?_) | (refine q_ldP bk_ (Nat.le_of_ble_eq_true rfl) nmK32 ?_) | (refine q_ldPU bk_ rfl (Nat.le_of_ble_eq_true rfl) nmK32 ?_) | (refine q_ext nmK32 ?_) | (refine u_st bk_ (Nat.le_of_ble_eq_true rfl) (by first | rfl | assumption) nmK32 ?_) | (refine u_stA bk_ (Nat.le_of_ble_eq_true rfl) (by rfl) (by rfl) nmK32 ?_) | (refine q_field nmK32 ?_)); exact hS.out)) : G := s.f h
set_option linter.unusedVariables false
set_option linter.unusedSimpArgs false
attribute [local irreducible] Instr.box Instr.alloc Instr.loadAt Instr.storeAt Instr.fieldAt Instr.indexAt Instr.build Instr.buildSlice Instr.makeSlice Instr.makeMap Instr.mapUpdate Instr.lookup Instr.range Instr.next Instr.entry Instr.extract Instr.makeInterface Instr.makeFunc Instr.sliceAt Instr.typeAssert Instr.field Instr.index Builtin.len_ Builtin.cap_ Builtin.max_ Builtin.min_ Builtin.append_ Builtin.copy_ Builtin.delete_ convert binS pickS nilS callV callM Op.unary Own Mp It Cu


variable {K : Value → World → Prop} {w : World} {te : Option Nat}

theorem k119 {base b mb : Nat} {R : Rf} {L : Lg} {ps : Ps} {vo le : List Int} {to ix : Int} (r : RM base b R L ps vo le w) (hm : MG mb ⟨4, to, 0, 0, ix⟩ w) (haf : R.af = .slice none 0 0)
    (h : ∀ v w', Up (fun x => x = mb ∨ x = b) [121, 189] w w' → RM base b { R with af := v } L ps vo le w' → AF v (some ⟨4, to, R.id, R.term, ix⟩) w' → K (.tuple #[]) w') :
    CK Pr 119 #[.pointer (some ⟨b, 0, none⟩), .pointer (some ⟨mb, 0, none⟩)] w K := by
  refine c119 ?_
  unfold t119
  have rb := r.bk
  refine cl_fn (k137 hm ?_)
  obtain ⟨vk, vt, vf, vm, vi, hmb, p0, p1, p2, p3, p4⟩ := hm
  have o0 := p0.one
  have o1 := p1.one
  have o3 := p3.one
  have o4 := p4.one
  (repeat (first | (refine go ?_; intros) | (refine goK32 ?_; intros)))
  rename_i fb w1 e1 hfb s1 s2 w2 u2 hb2 z2
  have U2 : Up (fun x => x = mb) [121] w w2 := (Up.of_ex e1).trans u2
  have g2 : MG mb ⟨4, to, R.id, 0, ix⟩ w2 := ⟨vk, vt, .pointer (some ⟨fb, 0, none⟩), vm, vi, hb2, p0.mt rfl U2, p1.mt rfl U2, .inr ⟨fb, rfl, u2.at_ hfb rfl⟩, p3.mt rfl U2, p4.mt rfl U2⟩
  have r2 : RM base b R L ps vo le w2 := r.mt rfl rfl U2
  have rb2 := r2.bk
  clear rb hmb hb2
  unfold t119_2
  refine cl_fn (k135 g2 ?_)
  (repeat (first | (refine go ?_; intros) | (refine goK32 ?_; intros)))
  refine cl_fn (k135 g2 ?_)
  (repeat (first | (refine go ?_; intros) | (refine goK32 ?_; intros)))
  refine cl_fn (k135 g2 ?_)
  (repeat (first | (refine go ?_; intros) | (refine goK32 ?_; intros)))
  refine cl_fn (k135 g2 ?_)
  (repeat (first | (refine go ?_; intros) | (refine goK32 ?_; intros)))
  refine cl_fn (k138 g2 ?_)
  (repeat (first | (refine go ?_; intros) | (refine goK32 ?_; intros)))
  refine cl_fn (k135 g2 ?_)
  (repeat (first | (refine go ?_; intros) | (refine goK32 ?_; intros)))
  refine cl_fn (k135 g2 ?_)
  obtain ⟨vk, vt, vf, vm, vi, hmb, p0, p1, p2, p3, p4⟩ := g2
  have o0 := p0.one
  have o1 := p1.one
  have o2 := p2.one
  have o4 := p4.one
  (repeat (first | (refine go ?_; intros) | (refine goK32 ?_; intros)))
  rename_i tb w3 e3 htb s3 s4 w4 u4 hb4 z4
  have U4 : Up (fun x => x = mb) [121] w2 w4 := (Up.of_ex e3).trans u4
  have g4 : MG mb ⟨4, to, R.id, R.term, ix⟩ w4 := ⟨vk, vt, vf, .pointer (some ⟨tb, 0, none⟩), vi, hb4, p0.mt rfl U4, p1.mt rfl U4, p2.mt rfl U4, .inr ⟨tb, rfl, u4.at_ htb rfl⟩, p4.mt rfl U4⟩
  have r4 : RM base b R L ps vo le w4 := r2.mt rfl rfl U4
  have rb4 := r4.bk
  clear rb2 hmb hb4
  unfold t119_1
  refine cl_fn (k135 g4 ?_)
  (repeat (first | (refine go ?_; intros) | (refine goK32 ?_; intros)))
  rw [haf]
  refine e_push1 (base := w4.heap.size) (Own.nil _ _ _ _) rfl (by simp) (by simp) (Nat.le_refl _) fun s5 v5 w5 u5 o5 hb5 z5 => ?_
  have e5 : Ex w4 w5 := u5.no fun b hb hc => by cases hc
  have r5 := r4.ex e5
  have rb5 := r5.bk
  have v5o := o5.sl.one
  clear rb4
  (repeat (first | (refine go ?_; intros) | (refine goK32 ?_; intros)))
  rename_i w6 u6 hb6 z6
  have U : Up (fun x => x = mb ∨ x = b) [121, 189] w w5 := (((U2.trans U4).ex e5).mono (fun _ _ h => .inl h) (fun k hk => by simp at hk; simp [hk]))
  refine h v5 w6 (U.trans (u6.mono (fun _ _ h => .inr h) (fun k hk => by simp at hk; simp [hk]))) (r5.put u6 hb6 ⟨rfl, rfl, rfl, rfl, rfl, rfl⟩) ⟨mb, o5.sl.typ u6 rfl, (g4.ex e5).mt u6 rfl⟩

/-- The owned slice of one element: its block. -/
theorem Own.at0 {base e : Nat} {v : Value} {x : Value} (h : Own w base e 1 v [[x]]) : ∃ g c cs, v = .slice (some ⟨g, 0, none⟩) 1 c ∧ base ≤ g ∧ Bk w g (.cells cs e (0, 0)) ∧ cs[0]? = some x ∧ 1 ≤ c ∧ 0 < cs.size := by
  unfold Own at h
  obtain ⟨⟨hl, hx⟩, hn⟩ := h
  rcases hx with ⟨rfl, h0⟩ | ⟨g, cap, cur, rfl, h1, hg, hnc, hmx, hcs, htake⟩
  · cases h0
  · have hnc' : 1 ≤ cap := hnc
    have hsz : 0 < cur.size := by omega
    refine ⟨g, cap, cur, rfl, h1, hg, ?_, hnc', hsz⟩
    have h2 : (cur.toList.take 1)[0]? = some x := by
      have : cur.toList.take 1 = [x] := by simpa using htake
      rw [this]; rfl
    rw [List.getElem?_take, if_pos (by omega)] at h2
    simpa using h2
theorem Sl.of0 {g c e : Nat} {cs : Array Value} {x : Value} {fz : Nat × Nat} (hb : Bk w g (.cells cs e fz)) (hx : cs[0]? = some x) (hc : 1 ≤ c) : Sl w (some e) 1 (.slice (some ⟨g, 0, none⟩) 1 c) [[x]] := by
  have hs : 0 < cs.size := (Array.getElem?_eq_some_iff.1 hx).1
  refine .row g 0 c cs e fz [[x]] hb (by simpa using hc) (by simp [maxLen]) (by simp; omega) ?_ (by simp) (fun t h => Option.some.inj h)
  have h2 : (cs.toList.drop 0).take 1 = [x] := by
    rw [List.drop_zero]
    apply List.ext_getElem?
    intro i
    rw [List.getElem?_take]
    cases i with
    | zero => simpa using hx
    | succ i => simp
  simpa using h2
theorem q_ix0 {P : Program} {S : World → Prop} {K : Value → Prop} {t e g c : Nat} [TSli P t e 1] {k : IntKind} (kk : K (.pointer (some ⟨g, 0, none⟩))) : Qu P S (Instr.indexAt t (.slice (some ⟨g, 0, none⟩) 1 c) (.int k 0)) K := by
  refine .mk _ (fun w' _ => run_indexAt (j := 0) rfl (by omega)) ?_
  simpa using kk

end Go.Proofs.YtmmpogfbhelioaaGreat
/-
  Contracts: an empty entry is appended; the machine becomes a leader.
  Conditions: each one's own.
-/
namespace Go.Proofs.YtmmpogfbhelioaaGreat
set_option maxRecDepth 10000
set_option linter.unusedVariables false
set_option linter.unusedSimpArgs false
theorem nmK33 {p : Prop} (h : p := by (try simp only [List.getElem?_toArray, List.getElem?_cons_zero, List.getElem?_cons_succ, List.setIfInBounds_toArray, List.set_cons_zero, List.set_cons_succ, List.toList_toArray, List.drop_zero, List.drop_succ_cons, List.take_zero, List.take_succ_cons, Nat.zero_add, Nat.add_zero, Nat.reduceAdd, putCells, Rf.cells, E0, Pg.cells]) <;> rfl) : p := h
theorem goK33 {G H : Prop} (h : H) (s : Stp G H := by (apply Stp.of; intro hS; (first | (refine q_ld bk_ nmK33 ?_) | (refine q_ldU bk_ rfl nmK33 ?_) | (refine q_ldW bk_ (by rfl) ?_) | (refine q_ldWU bk_ rfl (by rfl) ?_) | (refine q_ldP bk_ (Nat.le_of_ble_eq_true rfl) nmK33 ?_) | (refine q_ldPU bk_ rfl (Nat.le_of_ble_eq_true rfl) nmK33 ?_) | (refine q_ext nmK33 ?_) | (refine u_st bk_ (Nat.le_of_ble_eq_true rfl) (by first | rfl | assumption) nmK33 ?_) | (refine u_stA bk_ (Nat.le_of_ble_eq_true rfl) (by rfl) (by rfl) nmK33 ?_) | (refine q_field nmK33 ?_)); exact hS.out)) : G := s.f h
set_option linter.unusedVariables false
set_option linter.unusedSimpArgs false
attribute [local irreducible] Instr.box Instr.alloc Instr.loadAt Instr.storeAt Instr.fieldAt Instr.indexAt Instr.build Instr.buildSlice Instr.makeSlice Instr.makeMap Instr.mapUpdate Instr.lookup Instr.range Instr.next Instr.entry Instr.extract Instr.makeInterface Instr.makeFunc Instr.sliceAt Instr.typeAssert Instr.field Instr.index Builtin.len_ Builtin.cap_ Builtin.max_ Builtin.min_ Builtin.append_ Builtin.copy_ Builtin.delete_ convert binS pickS nilS callV callM Op.unary Own Mp It Cu


variable {K : Value → World → Prop} {w : World} {te : Option Nat}

theorem Up.to {C C' : Nat → Prop} {T T' : List Nat} {w' : World} (u : Up C T w w') (hC : ∀ b, C b → C' b) (hT : (T.all fun k => T'.contains k) = true) : Up C' T' w w' :=
  u.mono (fun b _ h => hC b h) (fun k hk => List.all_eq_true.1 hT k (List.contains_iff_mem.1 hk))

/-- What an entry appended to a log leaves in order. -/
theorem Lg.Ok.app {L : Lg} {e : En} (h : L.Ok) (hun : L.un.length ≤ 1000) : ({ L with un := L.un ++ [e] } : Lg).Ok := by
  obtain ⟨h1, h2, h3, h4, h5⟩ := h
  exact ⟨h1, h2, h3, by simp; omega, h5⟩

theorem k115 {base b eb : Nat} {R : Rf} {L : Lg} {ps : Ps} {vo le : List Int} {v : Value} (r : RM base b R L ps vo le w) (hs : Sl w (some 212) 1 v [[.pointer (some ⟨eb, 0, none⟩)]]) (hb : Bk w eb (.cells E0 215 (0, 0))) (hus : R.us = 0) (haf : R.af = .slice none 0 0)
    (hcont : L.last + 1 = L.off + L.un.length) (hcm : L.cm ≤ L.last) (hun : L.un.length ≤ 1000) (hl0 : 0 ≤ L.last)
    (h : ∀ v' w', Up (fun x => base ≤ x) [189, 227, 154, 198, 214, 121] w w' → RM base b { R with af := v' } { L with un := L.un ++ [⟨R.term, L.last + 1, 0, ByteArray.empty⟩] } ps vo le w' → AF v' (some ⟨4, R.id, R.id, R.term, L.last + 1⟩) w' → K (.bool true) w') :
    CK Pr 115 #[.pointer (some ⟨b, 0, none⟩), v] w K := by
  refine c115 ?_
  unfold t115
  have rb := r.bk
  have hb0 := r.b0
  have z0 : base ≤ w.heap.size := by have := rb.lt; omega
  have hlast := r.lok.last
  (repeat (first | (refine go ?_; intros) | (refine goK33 ?_; intros)))
  refine cl_fn (k104 r.lg r.lok fun w1 u1 z1 lg1 => ?_)
  have hsb := r.lg.b1.1
  have r1 : RM base b R L ps vo le w1 := ⟨u1.at_ rb rfl, hb0, lg1, r.lok, r.pr.up u1 (.inl rfl) (.inl rfl) rfl, r.vo.up u1 (.inl rfl), r.le.up u1 (.inl rfl), r.vt.up u1 (.inl rfl), r.ro.mt u1 rfl⟩
  have hs1 := hs.typ u1 rfl
  have he1 : Bk w1 eb (.cells E0 215 (0, 0)) := u1.at_ hb rfl
  clear rb
  refine q_lenSl hs1 ?_
  refine e_make (m := 1) rfl rfl rfl (by omega) (by omega) fun w2 e2 o2 z2 => ?_
  refine q_lenSl (hs1.ex e2) ?_
  obtain ⟨g0, c, cs, hv, hg0, hg, hgx, hc1, hcs⟩ := Own.at0 o2
  cases hv
  refine loop_n (α := Option Nat) (fun a τ w' => match a with
    | none => g τ 1 = .int .i64 0 ∧ w' = w2
    | some cb => g τ 1 = .int .i64 1 ∧ Ex w1 w' ∧ Sl w' (some 212) 1 (.slice (some ⟨w1.heap.size, 0, none⟩) 1 1) [[.pointer (some ⟨cb, 0, none⟩)]] ∧ PE (.pointer (some ⟨cb, 0, none⟩)) ⟨R.term, L.last + 1, 0, ByteArray.empty⟩ w') (fun a => if a.isSome then 0 else 1) none ⟨rfl, rfl⟩ ?_
  intro a τ w' Rr ha hR
  cases a with
  | none =>
    obtain ⟨hj, rfl⟩ := ha
    rw [hj]
    (repeat (first | (refine go ?_; intros) | (refine goK33 ?_; intros)))
    refine q_ixs (x := .pointer (some ⟨eb, 0, none⟩)) 0 (hs1.ex e2) rfl rfl fun _ => ?_
    have he2 := e2.at_ he1
    have rb2 : Bk w' b (.cells R.cells 187 (0, 0)) := e2.at_ r1.bk
    refine cl_fn (k200e he2 fun cb w3 e3 s3 hcb => ?_)
    refine q_ix0 ?_
    have hg3 := e3.at_ hg
    refine u_st hg3 hcs rfl rfl fun w4 u4 hg4 z4 => ?_
    have hcb4 : Bk w4 cb (.cells E0 215 (0, 0)) := u4.at_ hcb rfl
    have rb4 : Bk w4 b (.cells R.cells 187 (0, 0)) := u4.at_ (e3.at_ rb2) rfl
    refine dr_rule (fun x => x = cb) [217] fun w5 e5 z5 => ?_
    have hcb5 := e5.at_ hcb4
    have rb5 := e5.at_ rb4
    have hg5 := e5.at_ hg4
    have sl5 : Sl w5 (some 212) 1 (.slice (some ⟨w1.heap.size, 0, none⟩) 1 1) [[.pointer (some ⟨cb, 0, none⟩)]] := Sl.of0 hg5 (by simp [hcs]) (by omega)
    clear hcb hcb4 rb2 rb4 hg3 hg4 he2
    refine q_ixsU (x := .pointer (some ⟨cb, 0, none⟩)) 0 sl5 rfl rfl rfl fun _ => ?_
    (repeat (first | (refine go ?_; intros) | (refine goK33 ?_; intros)))
    rename_i tb w6 e6 htb s6a s6b
    refine ⟨.of_ex e6, ?_⟩
    have hcb6 := e6.at_ hcb5
    clear hcb5
    (repeat (first | (refine go ?_; intros) | (refine goK33 ?_; intros)))
    rename_i w7 u7 hb7 z7
    refine ⟨(Up.of_ex e6).trans u7, ?_⟩
    have sl7 : Sl w7 (some 212) 1 (.slice (some ⟨w1.heap.size, 0, none⟩) 1 1) [[.pointer (some ⟨cb, 0, none⟩)]] := (sl5.ex e6).typ u7 rfl
    have htb7 := u7.at_ htb rfl
    clear hcb6
    refine q_ixs (x := .pointer (some ⟨cb, 0, none⟩)) 0 sl7 rfl rfl fun _ => ?_
    (repeat (first | (refine go ?_; intros) | (refine goK33 ?_; intros)))
    rename_i ib w8 e8 hib s8a s8b w9 u9 hb9 z9
    rw [show IntKind.u64.wrap (0 : Int) = 0 from rfl, wrapU (n := L.last + 1) (by omega) (by omega), wrapU (n := L.last + 1 + 0) (by omega) (by omega), Int.add_zero] at hib
    have zz2 := e2.size
    have zz3 := e3.size
    have ex9 : Ex w1 w9 := (((((((e2.trans e3).new u4 (by intro x hx; omega)).trans e5).trans e6).new u7 (by intro x hx; omega)).trans e8)).new u9 (by intro x hx; omega)
    refine hR (some cb) _ _ ⟨rfl, ex9, (sl7.ex e8).typ u9 rfl, cb, .pointer (some ⟨tb, 0, none⟩), .pointer (some ⟨ib, 0, none⟩), .pointer none, .slice none 0 0, rfl, hb9, .inr ⟨tb, rfl, u9.at_ (e8.at_ htb7) rfl⟩, .inr ⟨ib, rfl, u9.at_ hib rfl⟩, .inl ⟨rfl, rfl⟩, .nil _ _⟩ (by simp)
  | some cb =>
    obtain ⟨hj, ex, sl, pe⟩ := ha
    rw [hj]
    (repeat (first | (refine go ?_; intros) | (refine goK33 ?_; intros)))
    have r3 := r1.ex ex
    refine cl_fn (k201 r3 hus sl pe rfl fun w4 u4 r4 => ?_)
    have rb4 := r4.bk
    (repeat (first | (refine go ?_; intros) | (refine goK33 ?_; intros)))
    have ok2 : ({ L with un := L.un ++ [⟨R.term, L.last + 1, 0, ByteArray.empty⟩] } : Lg).Ok := r.lok.app hun
    refine cl_fn (k202 r4.lg r4.lok (sl.typ u4 rfl) (pe.mt rfl u4) hcont (by show L.cm < L.last + 1; omega) (by show 1 ≤ L.last + 1; omega) ok2 fun w5 u5 lg5 => ?_)
    have r5 : RM base b R { L with un := L.un ++ [⟨R.term, L.last + 1, 0, ByteArray.empty⟩] } ps vo le w5 := ⟨u5.at_ rb4 rfl, hb0, lg5, ok2, r4.pr.up u5 (.inl rfl) (.inl rfl) rfl, r4.vo.up u5 (.inl rfl), r4.le.up u5 (.inl rfl), r4.vt.up u5 (.inl rfl), r4.ro.mt u5 rfl⟩
    have rb5 := r5.bk
    clear rb4
    (repeat (first | (refine go ?_; intros) | (refine goK33 ?_; intros)))
    rename_i tb w6 e6 htb s6a s6b
    refine cl_fn (k120 fun kb w7 e7 s7 hkb => ?_)
    (repeat (first | (refine go ?_; intros) | (refine goK33 ?_; intros) | refine b119_1_0_5 (by first | rfl | assumption) (by first | rfl | assumption) (by first | rfl | assumption) ?_))
    rename_i ib w8 e8 hib s8a s8b mb w9 e9 hmb s9a s9b
    have E9 : Ex w5 w9 := ((e6.trans e7).trans e8).trans e9
    have gm : MG mb ⟨4, R.id, 0, 0, L.last + 1⟩ w9 := ⟨_, _, _, _, _, hmb, .inr ⟨kb, rfl, e9.at_ (e8.at_ hkb)⟩, .inr ⟨tb, rfl, e9.at_ (e8.at_ (e7.at_ htb))⟩, .inl ⟨rfl, rfl⟩, .inl ⟨rfl, rfl⟩, .inr ⟨ib, rfl, e9.at_ hib⟩⟩
    have zz := ex.size
    have zz4 := u4.size
    have zz5 := u5.size
    have zz6 := e6.size
    have zz7 := e7.size
    have zz8 := e8.size
    refine cl_fn (k119 (r5.ex E9) gm haf fun v10 w10 u10 r10 af10 => ?_)
    refine h v10 w10 ?_ r10 af10
    have U1 : Up (fun x => base ≤ x) [189, 227, 154, 198, 214, 121] w w1 := u1.to (fun x hx => by subst hx; exact hsb) rfl
    have U4 : Up (fun x => base ≤ x) [189, 227, 154, 198, 214, 121] w' w4 := u4.to (fun x hx => by subst hx; exact hb0) rfl
    have U5 : Up (fun x => base ≤ x) [189, 227, 154, 198, 214, 121] w4 w5 := u5.to (fun x hx => hx) rfl
    have U10 : Up (fun x => base ≤ x) [189, 227, 154, 198, 214, 121] w9 w10 := u10.to (fun x hx => by rcases hx with rfl | rfl <;> omega) rfl
    exact ((((U1.ex ex).trans U4).trans U5).ex E9).trans U10

/-- One member's progress is another one. -/
def setP (ps : Ps) (i : Int) (q : Pg) : Ps := ps.map fun x => if x.1 = i then (x.1, x.2.1, q) else x
theorem setP_kv {ps : Ps} {i : Int} {q : Pg} : kvP (setP ps i q) = kvP ps := by
  simp only [kvP, setP, List.map_map]
  apply List.map_congr_left
  intro x _
  simp only [Function.comp_def]
  split <;> rfl
theorem setP_keys {ps : Ps} {i : Int} {q : Pg} : (setP ps i q).map (·.1) = ps.map (·.1) := by
  simp only [setP, List.map_map]
  apply List.map_congr_left
  intro x _
  simp only [Function.comp_def]
  split <;> rfl
theorem setP_blocks {ps : Ps} {i : Int} {q : Pg} : (setP ps i q).map (·.2.1) = ps.map (·.2.1) := by
  simp only [setP, List.map_map]
  apply List.map_congr_left
  intro x _
  simp only [Function.comp_def]
  split <;> rfl
theorem Prs.set {base pm : Nat} {ps : Ps} {z : Int × Nat × Pg} {q : Pg} {w' : World} (h : Prs base pm ps w) (hk : (ps.map (·.1)).Nodup) (hz : z ∈ ps) (u : Up (fun x => x = z.2.1) [154] w w') (hq : PG base z.2.1 q w') : Prs base pm (setP ps z.1 q) w' := by
  refine ⟨by rw [setP_kv]; exact h.mp.up u (.inl rfl), by rw [setP_blocks]; exact h.nd, ?_, h.b0⟩
  intro y hy
  obtain ⟨a, ha, rfl⟩ := List.mem_map.1 hy
  by_cases ha1 : a.1 = z.1
  · have : a = z := nodup_inj hk ha hz ha1
    subst this
    rw [if_pos rfl]
    exact hq
  · rw [if_neg ha1]
    refine (h.pg a ha).up u (.inr fun e => ha1 ?_) rfl
    exact congrArg (·.1) (nodup_inj h.nd ha hz e)

/-- A machine that became a leader. -/
def Rf.lea (R : Rf) (b : Nat) (v : Value) (vt ro : Nat) (last : Int) : Rf := { R with step := fn 112, ee := 0, he := 0, rt := R.et, tr := 0, vt := vt, us := 0, ro := ro, tick := .func (.func 113) #[.pointer (some ⟨b, 0, none⟩)] #[], lead := R.id, st := 2, pc := last, af := v }
theorem back_same (R : Rf) (vt ro : Nat) : ({ R with step := fn 112 } : Rf).back R.term vt ro = { R with step := fn 112, lead := 0, ee := 0, he := 0, rt := R.et, tr := 0, vt := vt, pc := 0, us := 0, ro := ro } := by
  unfold Rf.back
  simp

theorem k61 {base b : Nat} {R : Rf} {L : Lg} {ps : Ps} {vo le : List Int} (r : RM base b R L ps vo le w) (he : i64 R.et) (hst : R.st ≠ 0) (hps : ps.length ≤ 13) (hnd : (ps.map (·.1)).Nodup) (hin : R.id ∈ ps.map (·.1)) (haf : R.af = .slice none 0 0)
    (hcont : L.last + 1 = L.off + L.un.length) (hcm : L.cm ≤ L.last) (hun : L.un.length ≤ 1000) (hl0 : 0 ≤ L.last)
    (h : ∀ v vt ro q w', Up (fun x => base ≤ x) [189, 227, 154, 198, 214, 121] w w' → RM base b (R.lea b v vt ro L.last) { L with un := L.un ++ [⟨R.term, L.last + 1, 0, ByteArray.empty⟩] } (setP (rs R.id L.last R.mi R.mb (ps.map (·.1)) ps) R.id q) vo le w' → AF v (some ⟨4, R.id, R.id, R.term, L.last + 1⟩) w' → K (.tuple #[]) w') :
    CK Pr 61 #[.pointer (some ⟨b, 0, none⟩)] w K := by
  refine c61 ?_
  unfold t61
  have rb := r.bk
  have hb0 := r.b0
  have hlast := r.lok.last
  have heq : (R.st == 0) = false := by simpa using hst
  (repeat (first | (refine go ?_; intros) | (refine goK33 ?_; intros)))
  rw [heq]
  (repeat (first | (refine go ?_; intros) | (refine goK33 ?_; intros)))
  unfold t61_1
  (repeat (first | (refine go ?_; intros) | (refine goK33 ?_; intros)))
  rename_i w1 u1 hb1 z1
  have r1 : RM base b { R with step := fn 112 } L ps vo le w1 := r.put u1 hb1 ⟨rfl, rfl, rfl, rfl, rfl, rfl⟩
  clear rb hb1
  refine cl_fn (k109 r1 he hps hnd fun vt ro w2 u2 r2 => ?_)
  rw [back_same] at r2
  obtain ⟨p2, hp2⟩ : ∃ x, x = rs R.id L.last R.mi R.mb (ps.map (·.1)) ps := ⟨_, rfl⟩
  replace r2 : RM base b { R with step := fn 112, lead := 0, ee := 0, he := 0, rt := R.et, tr := 0, vt := vt, pc := 0, us := 0, ro := ro } L p2 vo le w2 := by rw [hp2]; exact r2
  have rb2 := r2.bk
  (repeat (first | (refine go ?_; intros) | (refine goK33 ?_; intros)))
  rename_i w3 u3 hb3 z3 w4 u4 hb4 z4 w5 u5 hb5 z5
  have U : Up (fun x => x = b) [189] w2 w5 := (u3.trans u4).trans u5
  have r5 : RM base b { R with step := fn 112, ee := 0, he := 0, rt := R.et, tr := 0, vt := vt, pc := 0, us := 0, ro := ro, tick := .func (.func 113) #[.pointer (some ⟨b, 0, none⟩)] #[], lead := R.id, st := 2 } L p2 vo le w5 := r2.put U hb5 ⟨rfl, rfl, rfl, rfl, rfl, rfl⟩
  clear rb2 hb3 hb4 hb5
  refine dr_rule No [] fun w6 e6 z6 => ?_
  have r6 := r5.ex e6
  have rb6 := r6.bk
  (repeat (first | (refine go ?_; intros) | (refine goK33 ?_; intros)))
  refine q_lookS (l := kvP p2) (fun w' hw => Mp.ex hw r6.pr.mp) ?_
  obtain ⟨y, hy⟩ := lk_mem (l := kvP p2) (x := R.id) (by rw [kvP_keys, hp2, rs_keys]; exact hin)
  rw [hy]
  obtain ⟨z, hz, hz1, rfl⟩ := lk_kvP hy
  have hma : z.2.2.ma = L.last := by
    rw [hp2] at hz
    obtain ⟨a, ha, rfl⟩ := rs_mem hz
    have ha1 : a.1 ∈ ps.map (·.1) := List.mem_map.2 ⟨a, ha, rfl⟩
    rw [if_pos ha1] at hz1 ⊢
    have : a.1 = R.id := hz1
    simp [nq, this]
  refine cl_fn (k114 (r6.pr.pg z hz) (by rw [hma]; omega) fun w7 u7 z7 p7 => ?_)
  obtain ⟨p0, ib, hib, hpb, hinf⟩ := p7
  (repeat (first | (refine go ?_; intros) | (refine goK33 ?_; intros)))
  rename_i w8 u8 hb8 z8
  have U8 : Up (fun x => x = z.2.1) [154] w6 w8 := u7.trans u8
  have keys : (p2.map (·.1)).Nodup := by rw [hp2, rs_keys]; exact hnd
  have prs8 := r6.pr.set (q := { z.2.2 with pau := false, pend := 0, st := 1, ne := z.2.2.ma + 1, act := true }) keys hz U8 ⟨p0, ib, hib, hb8, u8.at_ hinf rfl⟩
  rw [hz1] at prs8
  have r8 : RM base b { R with step := fn 112, ee := 0, he := 0, rt := R.et, tr := 0, vt := vt, pc := 0, us := 0, ro := ro, tick := .func (.func 113) #[.pointer (some ⟨b, 0, none⟩)] #[], lead := R.id, st := 2 } L (setP p2 R.id { z.2.2 with pau := false, pend := 0, st := 1, ne := z.2.2.ma + 1, act := true }) vo le w8 :=
    ⟨U8.at_ r6.bk rfl, hb0, r6.lg.mt rfl rfl rfl rfl U8, r6.lok, prs8, r6.vo.up U8 (.inl rfl), r6.le.up U8 (.inl rfl), r6.vt.up U8 (.inl rfl), r6.ro.mt U8 rfl⟩
  generalize { z.2.2 with pau := false, pend := 0, st := 1, ne := z.2.2.ma + 1, act := true } = q at r8
  have rb8 := r8.bk
  clear rb6 hb8 hpb
  (repeat (first | (refine go ?_; intros) | (refine goK33 ?_; intros)))
  refine cl_fn (k104 r8.lg r8.lok fun w9 u9 z9 lg9 => ?_)
  have hsb := r8.lg.b1.1
  have r9 : RM base b { R with step := fn 112, ee := 0, he := 0, rt := R.et, tr := 0, vt := vt, pc := 0, us := 0, ro := ro, tick := .func (.func 113) #[.pointer (some ⟨b, 0, none⟩)] #[], lead := R.id, st := 2 } L (setP p2 R.id q) vo le w9 :=
    ⟨u9.at_ r8.bk rfl, hb0, lg9, r.lok, r8.pr.up u9 (.inl rfl) (.inl rfl) rfl, r8.vo.up u9 (.inl rfl), r8.le.up u9 (.inl rfl), r8.vt.up u9 (.inl rfl), r8.ro.mt u9 rfl⟩
  have rb9 := r9.bk
  clear rb8
  (repeat (first | (refine go ?_; intros) | (refine goK33 ?_; intros) | refine b215_3 (by first | rfl | assumption) ?_))
  rename_i wa ua hba za eb wb eeb hbb sb1 sb2
  have ra : RM base b { R with step := fn 112, ee := 0, he := 0, rt := R.et, tr := 0, vt := vt, pc := L.last, us := 0, ro := ro, tick := .func (.func 113) #[.pointer (some ⟨b, 0, none⟩)] #[], lead := R.id, st := 2 } L (setP p2 R.id q) vo le wa := r9.put ua hba ⟨rfl, rfl, rfl, rfl, rfl, rfl⟩
  have rbb := ra.ex eeb
  refine e_bs1 (n := 1) rfl (by omega) fun wc ec oc zc => ?_
  have hbE : Bk wc eb (.cells E0 215 (0, 0)) := ec.at_ hbb
  refine cl_fn (k115 (rbb.ex ec) oc.sl hbE rfl haf hcont hcm hun hl0 fun v wd ud rd afd => ?_)
  (repeat (first | (refine go ?_; intros) | (refine goK33 ?_; intros)))
  have T6 : Up (fun x => base ≤ x) [189, 227, 154, 198, 214, 121] w w6 := (((u1.to (fun x hx => by subst hx; exact hb0) rfl).trans (u2.to (fun x hx => hx) rfl)).trans (U.to (fun x hx => by subst hx; exact hb0) rfl)).ex e6
  have T9 : Up (fun x => base ≤ x) [189, 227, 154, 198, 214, 121] w6 w9 := (U8.to (fun x hx => by subst hx; exact (r6.pr.pg z hz).1) rfl).trans (u9.to (fun x hx => by subst hx; exact hsb) rfl)
  have Tc : Up (fun x => base ≤ x) [189, 227, 154, 198, 214, 121] w9 wc := ((ua.to (fun x hx => by subst hx; exact hb0) rfl).ex eeb).ex ec
  rw [hp2] at rd
  exact h v vt ro q wd (((T6.trans T9).trans Tc).trans ud) rd afd

theorem k40 {base b : Nat} {R : Rf} {L : Lg} {ps : Ps} {vo le : List Int} (r : RM base b R L ps vo le w) (he : i64 R.et) (hst : R.st ≠ 0) (hps : ps.length ≤ 13) (hnd : (ps.map (·.1)).Nodup) (hin : R.id ∈ ps.map (·.1)) (haf : R.af = .slice none 0 0)
    (hcont : L.last + 1 = L.off + L.un.length) (hcm : L.cm ≤ L.last) (hun : L.un.length ≤ 1000) (hl0 : 0 ≤ L.last)
    (h : ∀ v vt ro q w', Up (fun x => base ≤ x) [189, 227, 154, 198, 214, 121] w w' → RM base b (R.lea b v vt ro L.last) { L with un := L.un ++ [⟨R.term, L.last + 1, 0, ByteArray.empty⟩] } (setP (rs R.id L.last R.mi R.mb (ps.map (·.1)) ps) R.id q) vo le w' → AF v (some ⟨4, R.id, R.id, R.term, L.last + 1⟩) w' → K (.tuple #[]) w') :
    CK Pr 40 #[.pointer (some ⟨b, 0, none⟩)] w K := by
  refine c40 ?_
  unfold t40
  exact cl_fn (k61 r he hst hps hnd hin haf hcont hcm hun hl0 h)

end Go.Proofs.YtmmpogfbhelioaaGreat
/-
  Contract: a machine is made, something is called on it, and what it is then is told, with an answer.
  Conditions: the data is whole; nothing is sent at once, and one answer at most behind.
-/
namespace Go.Proofs.YtmmpogfbhelioaaGreat
set_option maxRecDepth 10000
set_option linter.unusedVariables false
set_option linter.unusedSimpArgs false
theorem nmK34 {p : Prop} (h : p := by (try simp only [List.getElem?_toArray, List.getElem?_cons_zero, List.getElem?_cons_succ, List.setIfInBounds_toArray, List.set_cons_zero, List.set_cons_succ, List.toList_toArray, List.drop_zero, List.drop_succ_cons, List.take_zero, List.take_succ_cons, Nat.zero_add, Nat.add_zero, Nat.reduceAdd, putCells, Mac.cells, Aft0]) <;> rfl) : p := h
theorem goK34 {G H : Prop} (h : H) (s : Stp G H := by (apply Stp.of; intro hS; (first | (refine q_ld bk_ nmK34 ?_) | (refine q_ldU bk_ rfl nmK34 ?_) | (refine q_ldW bk_ (by rfl) ?_) | (refine q_ldWU bk_ rfl (by rfl) ?_) | (refine q_ldP bk_ (Nat.le_of_ble_eq_true rfl) nmK34 ?_) | (refine q_ldPU bk_ rfl (Nat.le_of_ble_eq_true rfl) nmK34 ?_) | (refine q_ext nmK34 ?_) | (refine u_st bk_ (Nat.le_of_ble_eq_true rfl) (by first | rfl | assumption) nmK34 ?_) | (refine u_stA bk_ (Nat.le_of_ble_eq_true rfl) (by rfl) (by rfl) nmK34 ?_) | (refine q_field nmK34 ?_)); exact hS.out)) : G := s.f h
set_option linter.unusedVariables false
set_option linter.unusedSimpArgs false
attribute [local irreducible] Instr.box Instr.alloc Instr.loadAt Instr.storeAt Instr.fieldAt Instr.indexAt Instr.build Instr.buildSlice Instr.makeSlice Instr.makeMap Instr.mapUpdate Instr.lookup Instr.range Instr.next Instr.entry Instr.extract Instr.makeInterface Instr.makeFunc Instr.sliceAt Instr.typeAssert Instr.field Instr.index Builtin.len_ Builtin.cap_ Builtin.max_ Builtin.min_ Builtin.append_ Builtin.copy_ Builtin.delete_ convert binS pickS nilS callV callM Op.unary Own Mp It Cu


variable {K : Value → World → Prop} {w : World} {te : Option Nat}

theorem PA.kp {v : Value} {l : Option Mg} {a z : Nat} {w' : World} (u : Kp a z w w') (h : PA v l w) : PA v l w' := by
  cases l with
  | none => exact h
  | some g => obtain ⟨v0, v1, v2, v3, v4, h1⟩ := h; exact ⟨v0, v1, v2, v3, v4, h1.kp u rfl (by decide)⟩

theorem k49g {m : Mac} {mb cb ob fnc : Nat} [TFn Pr fnc] {cap : Array Value} {wm : World} {Φ : Rf → Lg → Ps → List Int → List Int → Bool → Option Mg → Prop} (hm : IsMac wm m) (em : Ex wm w) (hob0 : wm.heap.size ≤ ob) (wh : Whole m) (hpl : m.pe.length ≤ 2147483647)
    (hmb : Bk w mb (.cells m.cells 32 (0, 0))) (hcb : Bk w cb (.cells #[.func (.func fnc) #[] cap] 77 (0, 0))) (hob : Bk w ob (.cells (Aft0 false) 38 (0, 0)))
    (hcall : ∀ base b lb vb lm pm vt ro most sb ps w1 (K' : Value → World → Prop), Ex w w1 → w.heap.size ≤ base → ps.map (·.1) = m.vo ++ m.le → RM base b (mkR m lb vb lm pm vt ro most) (mkL m sb) ps m.vo m.le w1 →
      (∀ ok R L ps vo le l w2 T, Up (fun x => base ≤ x) T w1 w2 → RM base b R L ps vo le w2 → Fine m R L ps vo le → R.ms = .slice none 0 0 → AF R.af l w2 → (∀ g, l = some g → IntKind.i64.wrap g.k = g.k) → Φ R L ps vo le ok l → K' (.bool ok) w2) → CK Pr fnc (#[.pointer (some ⟨b, 0, none⟩)] ++ cap) w1 K')
    (h : ∀ mo ok R L ps vo le l lv w', Up (fun x => x = ob) [40] w w' → Bk w' ob (.cells (Aft mo (.slice none 0 0) lv ok false) 38 (0, 0)) → MF m R L ps vo le mo → (∀ w'', Kp wm.heap.size w.heap.size w' w'' → IsMac w'' mo ∧ PA lv l w'') → Φ R L ps vo le ok l → K (.tuple #[]) w') :
    CK Pr 49 #[.pointer (some ⟨mb, 0, none⟩), .pointer (some ⟨cb, 0, none⟩), .pointer (some ⟨ob, 0, none⟩)] w K := by
  refine c49 ?_
  unfold t49
  (repeat (first | (refine go ?_; intros) | (refine goK34 ?_; intros)))
  refine cl_fn (k50 (hm.ex em) wh hpl fun base b lb vb lm pm vt ro most sb ps w1 e1 hbase hk r1 => ?_)
  have hmb1 := e1.at_ hmb
  have hcb1 := e1.at_ hcb
  have hob1 := e1.at_ hob
  (repeat (first | (refine go ?_; intros) | (refine goK34 ?_; intros)))
  refine cl_clo (hcall base b lb vb lm pm vt ro most sb ps w1 _ e1 hbase hk r1 fun ok R L ps2 vo le l w2 T u2 r2 fin hms haf hlk hΦ => ?_)
  have z1 := e1.size
  have z2 := u2.size
  have ob1 := hob1.lt
  have e12 : Ex w w2 := e1.new u2 (fun x hx => by omega)
  have hb2 := e12.at_ hob
  have hmb2 := e12.at_ hmb
  clear hmb1 hcb1 hob1 hcb hob hmb
  (repeat (first | (refine go ?_; intros) | (refine goK34 ?_; intros)))
  rename_i w3 u3 hb3 z3
  have hmb3 := u3.at_ hmb2 rfl
  clear hmb2 hb2
  have r3 := r2.mt (w' := w3) rfl rfl u3
  have em3 : Ex wm w3 := (em.trans e12).new u3 (by intro x hx; subst hx; exact hob0)
  (repeat (first | (refine go ?_; intros) | (refine goK34 ?_; intros)))
  refine cl_fn (k51 hm em3 r3 (by have := wh.row.len; rw [List.length_append] at this; omega) fin.off fin.st fin.kk fin.sm fin.len fin.nd fin.vo fin.le fun mo w4 e4 mf hmo => ?_)
  have hb4 := e4.at_ hb3
  have r4 := r3.ex e4
  clear hb3 hmb3
  have hz : Up (fun x => wm.heap.size ≤ x) [40, 6, 45] w4 w4 := .refl _ _ _
  have o1 := (hmo w4 hz.kp).one1
  (repeat (first | (refine go ?_; intros) | (refine goK34 ?_; intros)))
  refine u_stA hb4 (Nat.le_of_ble_eq_true rfl) (by rfl) (by simp only [Mac.cells, List.all_cons, List.all_nil, o1.1, o1.2.1, o1.2.2.1, o1.2.2.2.1, o1.2.2.2.2.1, o1.2.2.2.2.2.1, o1.2.2.2.2.2.2.1, o1.2.2.2.2.2.2.2.1, o1.2.2.2.2.2.2.2.2.1, o1.2.2.2.2.2.2.2.2.2]; rfl) nmK34 fun w5 u5 hb5 z5 => ?_
  have r5 := r4.mt (w' := w5) rfl rfl u5
  clear hb4
  refine cl_fn (k52 r5.bk fun w6 e6 => ?_)
  have hb6 := e6.at_ hb5
  clear hb5
  have af6 : AF R.af l w6 := ((((haf.mt u3 rfl rfl).ex e4).mt u5 rfl rfl).ex e6)
  (repeat (first | (refine go ?_; intros) | (refine goK34 ?_; intros)))
  rw [hms]
  refine cl_fn (k53n ?_)
  refine cl_fn (k53 af6 hlk fun lv w6b e6b pa => ?_)
  have hb6b := e6b.at_ hb6
  clear hb6
  have plv := pa.one
  (repeat (first | (refine go ?_; intros) | (refine goK34 ?_; intros)))
  rename_i w7 u7 hb7 z7 w8 u8 hb8 z8
  have U3 : Up (fun x => x = ob) [40] w w3 := (Up.of_ex e12).trans u3
  have U48 : Up (fun x => x = ob) [40] w4 w8 := (((u5.ex e6).ex e6b).trans u7).trans u8
  have U68 : Up (fun x => x = ob) [40] w6b w8 := u7.trans u8
  have mono : ∀ {a c : World}, Up (fun x => x = ob) [40] a c → Up (fun x => wm.heap.size ≤ x) [40, 6, 45] a c := fun u => u.mono (fun y _ hy => by subst hy; exact hob0) (fun k hk => by simp at hk; simp [hk])
  refine h mo ok R L ps2 vo le l lv w8 ((U3.ex e4).trans U48) hb8 mf (fun w9 u9 => ⟨hmo w9 (((mono U48).kp.trans u9).mono (by have := e12.size; have := u3.size; omega)), pa.kp ((mono U68).kp.trans u9)⟩) hΦ

theorem k29g {m : Mac} {fnc : Nat} [TFn Pr fnc] {cap : Array Value} {Φ : Rf → Lg → Ps → List Int → List Int → Bool → Option Mg → Prop} {wm : World} (hm : IsMac wm m) (em : Ex wm w) (wh : Whole m) (hpl : m.pe.length ≤ 2147483647)
    (hcall : ∀ base b lb vb lm pm vt ro most sb ps w0 w1 (K' : Value → World → Prop), Ex w w0 → Ex w0 w1 → w0.heap.size ≤ base → ps.map (·.1) = m.vo ++ m.le → RM base b (mkR m lb vb lm pm vt ro most) (mkL m sb) ps m.vo m.le w1 →
      (∀ ok R L ps vo le l w2 T, Up (fun x => base ≤ x) T w1 w2 → RM base b R L ps vo le w2 → Fine m R L ps vo le → R.ms = .slice none 0 0 → AF R.af l w2 → (∀ g, l = some g → IntKind.i64.wrap g.k = g.k) → Φ R L ps vo le ok l → K' (.bool ok) w2) → CK Pr fnc (#[.pointer (some ⟨b, 0, none⟩)] ++ cap) w1 K')
    (h : ∀ mo ok R L ps vo le l lv w', Ex w w' → MF m R L ps vo le mo → (∀ w'', Kp wm.heap.size w.heap.size w' w'' → IsMac w'' mo ∧ PA lv l w'') → Φ R L ps vo le ok l → K (.agg (Aft mo (.slice none 0 0) lv ok false)) w') :
    CK Pr 29 #[.agg m.cells, .func (.func fnc) #[] cap] w K := by
  refine c29 ?_
  unfold t29
  refine e_boxA fun mb w1 e1 hb1 s1 s2 => ?_
  refine e_box1 rfl fun cb w2 e2 hb2 s3 s4 => ?_
  refine e_allocA fun rb w3 e3 hb3 s5 s6 => ?_
  refine e_allocA fun ob w4 e4 hb4 s7 s8 => ?_
  have hmb : Bk w4 mb (.cells m.cells 32 (0, 0)) := e4.at_ (e3.at_ (e2.at_ hb1))
  have hcb := e4.at_ (e3.at_ hb2)
  have zm := em.size
  have z1 := e1.size
  have z2 := e2.size
  have z3 := e3.size
  have z4 := e4.size
  have ew4 : Ex w w4 := ((e1.trans e2).trans e3).trans e4
  refine q_mkf ?_
  refine cl_fn (k48 (C := fun x => x = ob) (T := [40]) (Q := fun a c => ∃ mo ok R L ps vo le l lv, Bk c ob (.cells (Aft mo (.slice none 0 0) lv ok false) 38 (0, 0)) ∧ MF m R L ps vo le mo ∧ (∀ w'', Kp wm.heap.size w.heap.size c w'' → IsMac w'' mo ∧ PA lv l w'') ∧ Φ R L ps vo le ok l) rfl (fun w5 e5 => ?_) fun w5 w6 w7 e5 u6 q6 u7 => ?_)
  · refine k49g (wm := wm) (Φ := Φ) hm ((em.trans ew4).trans e5) (by omega) wh hpl (e5.at_ hmb) (e5.at_ hcb) (e5.at_ hb4) ?_ ?_
    · intro base b lb vb lm pm vt ro most sb ps wa K' ea hbase hk r hK
      exact hcall base b lb vb lm pm vt ro most sb ps w5 wa K' (ew4.trans e5) ea hbase hk r hK
    · intro mo ok R L ps vo le l lv w' u hb mf hmo hΦ
      exact ⟨u, mo, ok, R, L, ps, vo, le, l, lv, hb, mf, fun w9 u9 => hmo w9 (u9.mono (by have := (ew4.trans e5).size; omega)), hΦ⟩
  · obtain ⟨mo, ok, R, L, ps, vo, le, l, lv, hb, mf, hmo, hΦ⟩ := q6
    have hb7 := u7.at_ hb rfl
    have hrb7 : Bk w7 rb _ := u7.at_ (u6.off (e5.at_ (e4.at_ hb3)) (by intro h; omega)) rfl
    have U67 : Up (fun x => wm.heap.size ≤ x) [40, 6, 45] w6 w7 := u7.mono (fun y _ hy => by subst hy; omega) (fun k hk => by simp at hk; simp [hk])
    have o1 := (hmo w7 U67.kp).1.one1
    have olv := (hmo w7 U67.kp).2.one
    have ew7 : Ex w w7 := (((ew4.trans e5).new u6 (by intro x hx; subst hx; omega))).new u7 (by intro x hx; subst hx; omega)
    have hne : rb ≠ ob := by omega
    (repeat (first | (refine go ?_; intros) | (refine goK34 ?_; intros)))
    refine u_stA hrb7 (Nat.le_of_ble_eq_true rfl) (by rfl) (by simp only [Aft, List.toList_toArray, List.all_cons, List.all_nil, olv, o1.1, o1.2.1, o1.2.2.1, o1.2.2.2.1, o1.2.2.2.2.1, o1.2.2.2.2.2.1, o1.2.2.2.2.2.2.1, o1.2.2.2.2.2.2.2.1, o1.2.2.2.2.2.2.2.2.1, o1.2.2.2.2.2.2.2.2.2]; rfl) (putCells_all (by rfl)) fun w8 u8 hb8 z8 => ?_
    have U8 : Up (fun x => wm.heap.size ≤ x) [40, 6, 45] w7 w8 := u8.mono (fun y _ hy => by subst hy; omega) (fun k hk => by simp at hk; simp [hk])
    clear hb hb7 hrb7
    refine q_ldW hb8 (by rfl) ?_
    exact h mo ok R L ps vo le l lv w8 (ew7.new u8 (by intro x hx; subst hx; omega)) mf (fun w9 u9 => hmo w9 ((U67.trans U8).kp.trans u9)) hΦ

end Go.Proofs.YtmmpogfbhelioaaGreat
/-
  Contract: Becomes, for a leader.
  Conditions: the machine is whole, and a candidate that is a voter.
-/
namespace Go.Proofs.YtmmpogfbhelioaaGreat
set_option maxRecDepth 10000
set_option linter.unusedVariables false
set_option linter.unusedSimpArgs false
set_option linter.unusedVariables false
set_option linter.unusedSimpArgs false
attribute [local irreducible] Instr.box Instr.alloc Instr.loadAt Instr.storeAt Instr.fieldAt Instr.indexAt Instr.build Instr.buildSlice Instr.makeSlice Instr.makeMap Instr.mapUpdate Instr.lookup Instr.range Instr.next Instr.entry Instr.extract Instr.makeInterface Instr.makeFunc Instr.sliceAt Instr.typeAssert Instr.field Instr.index Builtin.len_ Builtin.cap_ Builtin.max_ Builtin.min_ Builtin.append_ Builtin.copy_ Builtin.delete_ convert binS pickS nilS callV callM Op.unary Own Mp It Cu


variable {K : Value → World → Prop} {w : World} {te : Option Nat}

theorem mkL_last (m : Mac) (sb : Nat) : (mkL m sb).last = m.lasti := by
  unfold Lg.last mkL Mac.lasti
  cases h : m.fr with
  | nil => simp
  | cons x l => simp; omega

/-- What becoming a leader leaves. -/
structure PhL (m : Mac) (R : Rf) (L : Lg) (ps : Ps) (vo le : List Int) (ok : Bool) (l : Option Mg) : Prop where
  id : R.id = m.id
  term : R.term = m.term
  vote : R.vote = m.vote
  lead : R.lead = m.id
  st : R.st = 2
  us : L.us = none
  un : L.un = m.fr ++ [⟨m.term, m.lasti + 1, 0, ByteArray.empty⟩]
  cm : L.cm = m.commit
  keys : ps.map (·.1) = m.vo ++ m.le
  ps : ∀ x ∈ ps, x.1 ≠ m.id → x.2.2.ma = 0 ∧ x.2.2.ne = m.lasti + 1 ∧ x.2.2.st = 0 ∧ x.2.2.pau = false

theorem setP_other {ps : Ps} {id last mi mb : Int} {q : Pg} {x : Int × Nat × Pg} (h : x ∈ setP (rs id last mi mb (ps.map (·.1)) ps) id q) (hx : x.1 ≠ id) : x.2.2.ma = 0 ∧ x.2.2.ne = last + 1 ∧ x.2.2.st = 0 ∧ x.2.2.pau = false := by
  obtain ⟨a, ha, rfl⟩ := List.mem_map.1 h
  by_cases h1 : a.1 = id
  · rw [if_pos h1] at hx
    exact absurd h1 hx
  · rw [if_neg h1]
    obtain ⟨y, hy, rfl⟩ := rs_mem ha
    have hy1 : y.1 ∈ ps.map (·.1) := List.mem_map.2 ⟨y, hy, rfl⟩
    rw [if_pos hy1] at h1 ⊢
    have h2 : y.1 ≠ id := h1
    simp [nq, h2]

theorem k37L {m : Mac} {base b lb vb pm vt ro sb b1 b2 b3 : Nat} {lm : Option Nat} {most term lead : Int} {ps : Ps} (wh : Whole m) (hrole : m.role = 1) (hv : m.id ∈ m.vo)
    (h1 : Bk w b1 (.cells #[.int .i64 2] 3 (0, 0))) (hk : ps.map (·.1) = m.vo ++ m.le)
    (r : RM base b (mkR m lb vb lm pm vt ro most) (mkL m sb) ps m.vo m.le w)
    (h : ∀ ok R L ps vo le l w2 T, Up (fun x => base ≤ x) T w w2 → RM base b R L ps vo le w2 → Fine m R L ps vo le → R.ms = .slice none 0 0 → AF R.af l w2 → (∀ g, l = some g → IntKind.i64.wrap g.k = g.k) → PhL m R L ps vo le ok l → K (.bool ok) w2) :
    CK Pr 37 #[.pointer (some ⟨b, 0, none⟩), .pointer (some ⟨b1, 0, none⟩), .pointer (some ⟨b2, 0, none⟩), .pointer (some ⟨b3, 0, none⟩)] w K := by
  refine c37 ?_
  unfold t37
  unfold Jo
  obtain ⟨q1, q2, q3, q4⟩ := wh.keys hk
  have hrl := wh.row.len
  have hbi := wh.bi
  have hcom := wh.com
  have hlast := mkL_last m sb
  have hlasti : m.lasti = m.base.i + (m.st ++ m.fr).length := rfl
  rw [List.length_append] at hrl hlasti
  have f := wh.fine (R := mkR m lb vb lm pm vt ro most) (sb := sb) hk wh.role
  (repeat (first | (refine go ?_; intros) | (refine gon ?_; intros)))
  refine cl_fn (k40 r wh.el64 (by show m.role ≠ 0; omega) q1 q2 (by show m.id ∈ _; rw [hk]; exact List.mem_append_left _ hv) rfl (by rw [hlast]; show m.lasti + 1 = m.base.i + m.st.length + 1 + m.fr.length; omega) (by rw [hlast]; exact hcom.2) (by show m.fr.length ≤ _; omega) (by rw [hlast]; omega) fun v vt' ro' q w2 u2 r2 af2 => ?_)
  rw [hlast] at r2 af2
  have hk2 : ((setP (rs m.id m.lasti most 0 (ps.map (·.1)) ps) m.id q).map (·.1)) = m.vo ++ m.le := by rw [setP_keys, rs_keys]; exact hk
  obtain ⟨g1, g2, g3, g4⟩ := wh.keys hk2
  refine h false _ _ _ _ _ _ w2 _ u2 r2 ⟨⟨by show (0 : Int) ≤ 2; omega, by show (2 : Int) ≤ 3; omega⟩, f.off, ?_, fun s hs => (by cases hs), g1, g2, by omega, by omega⟩ rfl af2 (fun g hg => by cases hg; rfl)
    ⟨rfl, rfl, rfl, rfl, rfl, rfl, rfl, rfl, hk2, fun x hx hne => setP_other hx hne⟩
  intro e he
  rcases List.mem_append.1 he with he | he
  · exact f.kk e he
  · rw [List.mem_singleton.1 he]
    exact ⟨by show (-9223372036854775808 : Int) ≤ 0; omega, by show (0 : Int) ≤ 9223372036854775807; omega⟩

theorem k16L {m : Mac} {term lead : Int} {wm : World} (hm : IsMac wm m) (em : Ex wm w) (wh : Whole m) (hpl : m.pe.length ≤ 2147483647) (hrole : m.role = 1) (hv : m.id ∈ m.vo)
    (h : ∀ mo ok R L ps vo le l lv w', Ex w w' → MF m R L ps vo le mo → (∀ w'', Kp wm.heap.size w.heap.size w' w'' → IsMac w'' mo ∧ PA lv l w'') → PhL m R L ps vo le ok l → K (.agg (Aft mo (.slice none 0 0) lv ok false)) w') :
    CK Pr 16 #[.agg m.cells, .int .i64 2, .int .u64 term, .int .u64 lead] w K := by
  refine c16 ?_
  unfold t16
  refine e_boxA fun mb w1 e1 hb1 s1 s2 => ?_
  refine e_box1 rfl fun b1 w2 e2 hb2 s3 s4 => ?_
  refine e_box1 rfl fun b2 w3 e3 hb3 s5 s6 => ?_
  refine e_box1 rfl fun b3 w4 e4 hb4 s7 s8 => ?_
  refine e_allocA fun rb w5 e5 hb5 s9 s10 => ?_
  have ew : Ex w w5 := (((e1.trans e2).trans e3).trans e4).trans e5
  have g1 : Bk w5 b1 (.cells #[.int .i64 2] 3 (0, 0)) := e5.at_ (e4.at_ (e3.at_ hb2))
  have gm : Bk w5 mb (.cells m.cells 32 (0, 0)) := e5.at_ (e4.at_ (e3.at_ (e2.at_ hb1)))
  refine q_ldW gm (by rfl) ?_
  refine q_mkf ?_
  refine cl_fn (k29g (Φ := PhL m) hm (em.trans ew) wh hpl ?_ ?_)
  · intro base b lb vb lm pm vt ro most sb ps w0 w6 K' e0 e6 hbase hk r hK
    have ee := e0.trans e6
    exact k37L (term := term) (lead := lead) wh hrole hv (Ex.at_ ee g1) hk r hK
  · intro mo ok R L ps vo le l lv w6 e6 mf hmo hΦ
    have hb6 := e6.at_ hb5
    have o1 := (hmo w6 (Up.kp (.refl _ _ _))).1.one1
    have olv := (hmo w6 (Up.kp (.refl _ _ _))).2.one
    refine u_stA hb6 (Nat.le_of_ble_eq_true rfl) (by rfl) (by simp only [Aft, List.toList_toArray, List.all_cons, List.all_nil, olv, o1.1, o1.2.1, o1.2.2.1, o1.2.2.2.1, o1.2.2.2.2.1, o1.2.2.2.2.2.1, o1.2.2.2.2.2.2.1, o1.2.2.2.2.2.2.2.1, o1.2.2.2.2.2.2.2.2.1, o1.2.2.2.2.2.2.2.2.2]; rfl) (putCells_all (by rfl)) fun w7 u7 hb7 z7 => ?_
    refine q_ldW hb7 (by rfl) ?_
    have zm := em.size
    have zw := e1.size
    have zw2 := e2.size
    have zw3 := e3.size
    have zw4 := e4.size
    have U7 : Up (fun x => wm.heap.size ≤ x) [40, 6, 45] w6 w7 := u7.mono (fun y _ hy => by subst hy; omega) (fun k hk => by simp at hk; simp [hk])
    exact h mo ok R L ps vo le l lv w7 ((ew.trans e6).new u7 (by intro x hx; subst hx; omega)) mf (fun w8 u8 => hmo w8 ((U7.kp.trans u8).mono (by omega))) hΦ

end Go.Proofs.YtmmpogfbhelioaaGreat
/-
  Contract: whether a machine is whole, and what that says.
  Conditions: numbers that fit their kinds, lists that can be counted.
-/
namespace Go.Proofs.YtmmpogfbhelioaaGreat
set_option maxRecDepth 10000
set_option linter.unusedVariables false
set_option linter.unusedSimpArgs false
theorem nmK5 {p : Prop} (h : p := by (try simp only [List.getElem?_toArray, List.getElem?_cons_zero, List.getElem?_cons_succ, List.setIfInBounds_toArray, List.set_cons_zero, List.set_cons_succ, List.toList_toArray, List.drop_zero, List.drop_succ_cons, List.take_zero, List.take_succ_cons, Nat.zero_add, Nat.add_zero, Nat.reduceAdd, putCells, En.cells, Mac.cells, Pe.cells, Pe.pcells, Nd.cells]) <;> rfl) : p := h
theorem goK5 {G H : Prop} (h : H) (s : Stp G H := by (apply Stp.of; intro hS; (first | (refine q_ld bk_ nmK5 ?_) | (refine q_ldU bk_ rfl nmK5 ?_) | (refine q_ldW bk_ (by rfl) ?_) | (refine q_ldWU bk_ rfl (by rfl) ?_) | (refine q_ldP bk_ (Nat.le_of_ble_eq_true rfl) nmK5 ?_) | (refine q_ldPU bk_ rfl (Nat.le_of_ble_eq_true rfl) nmK5 ?_) | (refine q_ext nmK5 ?_) | (refine u_st bk_ (Nat.le_of_ble_eq_true rfl) (by first | rfl | assumption) nmK5 ?_) | (refine u_stA bk_ (Nat.le_of_ble_eq_true rfl) (by rfl) (by rfl) nmK5 ?_) | (refine q_field nmK5 ?_)); exact hS.out)) : G := s.f h
theorem lfK5 {p : Prop} (h : p := by (repeat (first | assumption | refine Sl.ex (by assumption) ?_ | refine PE.ex (by assumption) ?_ | refine PEs.ex (by assumption) ?_ | refine PC.ex (by assumption) ?_ | refine PM.ex (by assumption) ?_ | refine PS.ex (by assumption) ?_ | refine PN.ex (by assumption) ?_ | refine PBo.ex (by assumption) ?_ | refine PN1.ex (by assumption) ?_ | refine PB1.ex (by assumption) ?_ | refine Mp.ex (by assumption) ?_ | refine It.ex (by assumption) ?_ | refine Own.ex (by assumption) ?_ | refine IsCf.ex (by assumption) ?_ | refine IsMac.ex (by assumption) ?_ | refine Cu.ex (by assumption) ?_ | refine PE.mt rfl (by assumption) ?_ | refine PEs.mt rfl (by assumption) ?_ | refine PC.mt rfl (by assumption) ?_ | refine PM.mt rfl (by assumption) ?_ | refine PS.mt rfl (by assumption) ?_ | refine PBo.mt rfl (by assumption) ?_ | refine PB1.mt rfl (by assumption) ?_ | refine Sl.typ (by assumption) ?_ rfl | refine PN.mt rfl (by assumption) ?_ | refine PN1.mt rfl (by assumption) ?_))) : p := h
set_option linter.unusedVariables false
set_option linter.unusedSimpArgs false
set_option maxHeartbeats 4000000
attribute [local irreducible] Instr.box Instr.alloc Instr.loadAt Instr.storeAt Instr.fieldAt Instr.indexAt Instr.build Instr.buildSlice Instr.makeSlice Instr.makeMap Instr.mapUpdate Instr.lookup Instr.range Instr.next Instr.entry Instr.extract Instr.makeInterface Instr.makeFunc Instr.sliceAt Instr.typeAssert Instr.field Instr.index Builtin.len_ Builtin.cap_ Builtin.max_ Builtin.min_ Builtin.append_ Builtin.copy_ Builtin.delete_ convert binS pickS nilS callV callM Op.unary Own Mp It Cu


variable {K : Value → World → Prop} {w : World} {te : Option Nat}

theorem lasti_eq {m : Mac} (hr : RowOk m.base.i m.base.t (m.st ++ m.fr) m.term) : (((m.st ++ m.fr).getLast?.map (·.i)).getD m.base.i) = m.lasti := by
  unfold Mac.lasti
  cases hg : (m.st ++ m.fr).getLast? with
  | none =>
    have := List.getLast?_eq_none_iff.1 hg
    rw [this]; simp
  | some e =>
    rw [List.getLast?_eq_getElem?] at hg
    have := (hr.at_ _ e hg).1
    have hl := (List.getElem?_eq_some_iff.1 hg).1
    simp only [Option.map_some, Option.getD_some, this]
    omega

theorem k9_3 {m : Mac} {b1 : Nat} (hbm : Bk w b1 (.cells m.cells 32 (0, 0))) (hm : IsMac w m) (ok : MacOk m) (fit : MacFit m) (hlast : 0 ≤ m.lasti ∧ m.lasti ≤ 2199023255552) (hvo : m.vo.length ≤ 9) (hle : m.le.length ≤ 4)
    (h : ∀ b w', Ex w w' → (b = true → WholeP m ∧ 1 ≤ m.hb ∧ (m.hb < m.el ∧ m.el ≤ 30) ∧ (m.el ≤ m.to ∧ m.to < 2 * m.el)) → K (.bool b) w') : t9_3 w (.pointer (some ⟨b1, 0, none⟩)) K (.int .u64 m.lasti) := by
  unfold t9_3
  (repeat (first | (refine go ?_; intros) | (refine goK5 ?_; intros) | (refine q_lenSl lfK5 ?_) | (refine gd_sf (fun hg => ?_) (fun hg => ?_); rotate_left 1; (rw [hg]; (repeat (first | refine gd_tf ?_ | refine gd_un ?_ | refine q_pick_t ?_ | refine if_t ?_)); exact h false _ ex_ (fun hf => by cases hf)); rw [hg]) | (refine if_split (fun hg => ?_) (fun hg => ?_); (exact h false _ ex_ (fun hf => by cases hf)))))
  refine k9_2 hbm hm ok fit hlast hvo hle fun b w1 e1 hb => ?_
  refine h b w1 e1 fun hbt => ⟨hb hbt, ?_, ⟨?_, ?_⟩, ⟨?_, ?_⟩⟩
  · have : ¬ m.hb < 1 := of_decide_eq_false (by assumption)
    omega
  · have : ¬ m.el ≤ m.hb := of_decide_eq_false (by assumption)
    omega
  · have : ¬ 30 < m.el := of_decide_eq_false (by assumption)
    omega
  · have : ¬ m.to < m.el := of_decide_eq_false (by assumption)
    omega
  · have h1 := ok.el
    have h2 : ¬ 30 < m.el := of_decide_eq_false (by assumption)
    have h3 : ¬ m.hb < 1 := of_decide_eq_false (by assumption)
    have h4 : ¬ m.el ≤ m.hb := of_decide_eq_false (by assumption)
    have : ¬ (IntKind.i64.wrap (2 * m.el) ≤ m.to) := of_decide_eq_false (by assumption)
    rw [wrap64 (by omega) (by omega)] at this
    omega

theorem k9_4 {m : Mac} {b1 : Nat} (hbm : Bk w b1 (.cells m.cells 32 (0, 0))) (hm : IsMac w m) (ok : MacOk m) (fit : MacFit m) (hl : m.st.length + m.fr.length ≤ 1000000000000) (hr : RowOk m.base.i m.base.t (m.st ++ m.fr) m.term) (hbi : 1 ≤ m.base.i ∧ m.base.i ≤ 1099511627776) (hvo : m.vo.length ≤ 9) (hle : m.le.length ≤ 4)
    (h : ∀ b w', Ex w w' → (b = true → WholeP m ∧ 1 ≤ m.hb ∧ (m.hb < m.el ∧ m.el ≤ 30) ∧ (m.el ≤ m.to ∧ m.to < 2 * m.el) ∧ (m.base.i ≤ m.commit ∧ m.commit ≤ m.lasti) ∧ (m.base.i ≤ m.applied ∧ m.applied ≤ m.commit) ∧ m.tr = 0) → K (.bool b) w') :
    t9_4 w (.pointer (some ⟨b1, 0, none⟩)) K := by
  unfold t9_4
  obtain ⟨p1, p2, p3, p4, _⟩ := hm.one1
  (repeat (first | (refine go ?_; intros) | (refine goK5 ?_; intros) | (refine q_lenSl lfK5 ?_)))
  refine cl_fn (k12 hm hl fun lv w1 e1 o1 => ?_)
  refine cl_fn (k19 (n := m.nd lv) (te := some 56) o1.sl ⟨p1, p2, p3, p4⟩ fun w2 e2 => ?_)
  rw [show ((m.nd lv).log.getLast?.map (·.i)).getD (m.nd lv).base.i = m.lasti from lasti_eq hr]
  (repeat (first | (refine go ?_; intros) | (refine goK5 ?_; intros) | (refine q_lenSl lfK5 ?_) | (refine gd_sf (fun hg => ?_) (fun hg => ?_); rotate_left 1; (rw [hg]; (repeat (first | refine gd_tf ?_ | refine gd_un ?_ | refine q_pick_t ?_ | refine if_t ?_)); exact h false _ ex_ (fun hf => by cases hf)); rw [hg]) | (refine if_split (fun hg => ?_) (fun hg => ?_); (exact h false _ ex_ (fun hf => by cases hf)))))
  have hla : m.lasti = m.base.i + (m.st ++ m.fr).length := rfl
  have hrl := hr.len
  refine k9_3 bk_ (hm.ex ex_) ok fit ⟨by omega, by omega⟩ hvo hle fun b w3 e3 hb => ?_
  refine h b w3 ex_ fun hbt => ?_
  obtain ⟨h1, h2, h3, h4⟩ := hb hbt
  have g1 : ¬ m.commit < m.base.i := of_decide_eq_false (by assumption)
  have g2 : ¬ m.lasti < m.commit := of_decide_eq_false (by assumption)
  have g3 : ¬ m.applied < m.base.i := of_decide_eq_false (by assumption)
  have g4 : ¬ m.commit < m.applied := of_decide_eq_false (by assumption)
  have g5 : m.tr = 0 := by
    have := (by assumption : (!m.tr == 0) = false)
    simpa using this
  exact ⟨h1, h2, h3, h4, ⟨by omega, by omega⟩, ⟨by omega, by omega⟩, g5⟩

theorem k9 {m : Mac} (hm : IsMac w m) (ok : MacOk m) (fit : MacFit m) (hl : m.st.length + m.fr.length ≤ 1000000000000) (h : ∀ b w', Ex w w' → (b = true → Whole m) → K (.bool b) w') : CK Pr 9 #[.agg m.cells] w K := by
  refine c9 ?_
  unfold t9
  obtain ⟨o1, o2, o3, o4, o5, o6, o7, o8, o9, o10⟩ := hm.one1
  refine e_boxA fun b1 w1 e1 hb1 sa1 sa2 => ?_
  (repeat (first | (refine go ?_; intros) | (refine goK5 ?_; intros) | (refine q_lenSl lfK5 ?_)))
  refine b25_0_1 o7 o8 ?_
  refine e_allocA fun b2 w2 e2 hb2 sb1 sb2 => ?_
  refine u_stA hb2 (Nat.le_of_ble_eq_true rfl) (by rfl) (by simp only [List.all_cons, List.all_nil, o7, o8]; rfl) nmK5 fun w3 u3 hb3 z3 => ?_
  clear hb2
  (repeat (first | (refine go ?_; intros) | (refine goK5 ?_; intros) | (refine q_lenSl lfK5 ?_)))
  refine cl_fn (k20 ?_)
  (repeat (first | (refine go ?_; intros) | (refine goK5 ?_; intros) | (refine q_lenSl lfK5 ?_) | (refine gd_sf (fun hg => ?_) (fun hg => ?_); rotate_left 1; (rw [hg]; (repeat (first | refine gd_tf ?_ | refine gd_un ?_ | refine q_pick_t ?_ | refine if_t ?_)); exact h false _ ex_ (fun hf => by cases hf)); rw [hg]) | (refine if_split (fun hg => ?_) (fun hg => ?_); (exact h false _ ex_ (fun hf => by cases hf)))))
  have hcf : ∀ w', Ex w3 w' → IsCf w' m.voV m.leV (.slice none 0 0) (.slice none 0 0) m.cf := fun w' e => by
    have e' : Ex w w' := by exact ex_
    exact ⟨hm.vo.ex e', hm.le.ex e', .nil _ _, .nil _ _⟩
  refine cl_fn (k26 (c := m.cf) (hcf _ (.refl _ _ _)) (by simp [Mac.cf]) (by simp [Mac.cf]) fun bm w4 e4 fm => ?_)
  cases bm
  · (repeat (first | (refine go ?_; intros) | (refine goK5 ?_; intros) | (refine q_lenSl lfK5 ?_)))
    exact h false _ ex_ (fun hf => by cases hf)
  (repeat (first | (refine go ?_; intros) | (refine goK5 ?_; intros) | (refine q_lenSl lfK5 ?_) | (refine gd_sf (fun hg => ?_) (fun hg => ?_); rotate_left 1; (rw [hg]; (repeat (first | refine gd_tf ?_ | refine gd_un ?_ | refine q_pick_t ?_ | refine if_t ?_)); exact h false _ ex_ (fun hf => by cases hf)); rw [hg]) | (refine if_split (fun hg => ?_) (fun hg => ?_); (exact h false _ ex_ (fun hf => by cases hf)))))
  refine cl_fn (k27 (hm.ex ex_) fun w5 e5 => ?_)
  (repeat (first | (refine go ?_; intros) | (refine goK5 ?_; intros) | (refine q_lenSl lfK5 ?_) | (refine gd_sf (fun hg => ?_) (fun hg => ?_); rotate_left 1; (rw [hg]; (repeat (first | refine gd_tf ?_ | refine gd_un ?_ | refine q_pick_t ?_ | refine if_t ?_)); exact h false _ ex_ (fun hf => by cases hf)); rw [hg]) | (refine if_split (fun hg => ?_) (fun hg => ?_); (exact h false _ ex_ (fun hf => by cases hf)))))
  unfold t9_5
  refine dr_rule No [] fun w6 e6 z6 => ?_
  (repeat (first | (refine go ?_; intros) | (refine goK5 ?_; intros) | (refine q_lenSl lfK5 ?_) | (refine gd_sf (fun hg => ?_) (fun hg => ?_); rotate_left 1; (rw [hg]; (repeat (first | refine gd_tf ?_ | refine gd_un ?_ | refine q_pick_t ?_ | refine if_t ?_)); exact h false _ ex_ (fun hf => by cases hf)); rw [hg]) | (refine if_split (fun hg => ?_) (fun hg => ?_); (exact h false _ ex_ (fun hf => by cases hf)))))
  refine cl_fn (k26 (c := m.base.c) (hm.ex ex_).cf fit.cf.o fit.cf.n fun bm w7 e7 fb => ⟨e7, ?_⟩)
  cases bm
  · (repeat (first | (refine go ?_; intros) | (refine goK5 ?_; intros) | (refine q_lenSl lfK5 ?_)))
    exact h false _ ex_ (fun hf => by cases hf)
  (repeat (first | (refine go ?_; intros) | (refine goK5 ?_; intros) | (refine q_lenSl lfK5 ?_) | (refine gd_sf (fun hg => ?_) (fun hg => ?_); rotate_left 1; (rw [hg]; (repeat (first | refine gd_tf ?_ | refine gd_un ?_ | refine q_pick_t ?_ | refine if_t ?_)); exact h false _ ex_ (fun hf => by cases hf)); rw [hg]) | (refine if_split (fun hg => ?_) (fun hg => ?_); (exact h false _ ex_ (fun hf => by cases hf)))))
  refine cl_fn (k12 (hm.ex ex_) hl fun lv w8 e8 o8 => ⟨by exact ex_, ?_⟩)
  (repeat (first | (refine go ?_; intros) | (refine goK5 ?_; intros) | (refine q_lenSl lfK5 ?_) | (refine gd_sf (fun hg => ?_) (fun hg => ?_); rotate_left 1; (rw [hg]; (repeat (first | refine gd_tf ?_ | refine gd_un ?_ | refine q_pick_t ?_ | refine if_t ?_)); exact h false _ ex_ (fun hf => by cases hf)); rw [hg]) | (refine if_split (fun hg => ?_) (fun hg => ?_); (exact h false _ ex_ (fun hf => by cases hf)))))
  refine cl_fn (k28 (l := m.st ++ m.fr) (te := some 56) o8.sl ?_ fun bm w9 e9 fr => ⟨by exact ex_, ?_⟩)
  · have : ¬ m.base.i < 1 := of_decide_eq_false (by assumption)
    have : ¬ 1099511627776 < m.base.i := of_decide_eq_false (by assumption)
    omega
  cases bm
  · (repeat (first | (refine go ?_; intros) | (refine goK5 ?_; intros) | (refine q_lenSl lfK5 ?_)))
    exact h false _ ex_ (fun hf => by cases hf)
  (repeat (first | (refine go ?_; intros) | (refine goK5 ?_; intros) | (refine q_lenSl lfK5 ?_) | (refine gd_sf (fun hg => ?_) (fun hg => ?_); rotate_left 1; (rw [hg]; (repeat (first | refine gd_tf ?_ | refine gd_un ?_ | refine q_pick_t ?_ | refine if_t ?_)); exact h false _ ex_ (fun hf => by cases hf)); rw [hg]) | (refine if_split (fun hg => ?_) (fun hg => ?_); (exact h false _ ex_ (fun hf => by cases hf)))))
  have hrow := fr rfl
  have hmem := fm rfl
  have hb1' : Bk w9 b1 (.cells m.cells 32 (0, 0)) := by exact bk_
  have g1 : ¬ m.base.i < 1 := of_decide_eq_false (by assumption)
  have g2 : ¬ 1099511627776 < m.base.i := of_decide_eq_false (by assumption)
  refine k9_4 hb1' (hm.ex ex_) ok fit hl hrow ⟨by omega, by omega⟩ hmem.v9 hmem.l4 fun b w10 e10 hb => ?_
  refine h b w10 ex_ fun hbt => ?_
  obtain ⟨p, q1, q2, q3, q4, q5, q6⟩ := hb hbt
  have f1 : 0 < m.id ∧ m.id < 1099511627776 := by
    have := (by assumption : (!(decide (0 < m.id) && decide (m.id < 1099511627776))) = false)
    simpa using this
  have f2 : ¬ m.term < 1 := of_decide_eq_false (by assumption)
  have f3 : ¬ 1099511627776 < m.term := of_decide_eq_false (by assumption)
  have f4 : ¬ 1099511627776 ≤ m.vote := of_decide_eq_false (by assumption)
  have f5 : ¬ 1099511627776 ≤ m.lead := of_decide_eq_false (by assumption)
  have f6 : ¬ m.role < 0 := of_decide_eq_false (by assumption)
  have f7 : ¬ 3 < m.role := of_decide_eq_false (by assumption)
  have f8 : m.id ∈ m.vo ∨ m.id ∈ m.le := by
    have := (by assumption : (!(decide (m.id ∈ m.vo) || decide (m.id ∈ m.le))) = false)
    rcases Classical.em (m.id ∈ m.vo) with h1 | h1
    · exact .inl h1
    · rcases Classical.em (m.id ∈ m.le) with h2 | h2
      · exact .inr h2
      · simp [h1, h2] at this
  have f9 : ¬ m.base.t < 1 := of_decide_eq_false (by assumption)
  have f10 : ¬ (100 : Int) < (m.base.d.size : Nat) := of_decide_eq_false (by assumption)
  exact ⟨f1, ⟨by omega, by omega⟩, by omega, by omega, ⟨by omega, by omega⟩, hmem, f8, ⟨by omega, by omega⟩, by omega, by omega, fb rfl, hrow, q4, q5, q6, q1, q2, q3, p.pe, p.srt, p.pes, p.vs⟩

end Go.Proofs.YtmmpogfbhelioaaGreat
/-
  Contract: the law on becoming a leader: its last part.
  Conditions: the machine's numbers fit their types.
-/
namespace Go.Proofs.YtmmpogfbhelioaaGreat
set_option maxRecDepth 10000
set_option linter.unusedVariables false
set_option linter.unusedSimpArgs false
theorem nmK36 {p : Prop} (h : p := by (try simp only [List.getElem?_toArray, List.getElem?_cons_zero, List.getElem?_cons_succ, List.setIfInBounds_toArray, List.set_cons_zero, List.set_cons_succ, List.toList_toArray, List.drop_zero, List.drop_succ_cons, List.take_zero, List.take_succ_cons, Nat.zero_add, Nat.add_zero, Nat.reduceAdd, putCells, Mac.cells, Nd.cells, Mac.nd, Aft, Pe.cells]) <;> rfl) : p := h
theorem goK36 {G H : Prop} (h : H) (s : Stp G H := by (apply Stp.of; intro hS; (first | (refine q_ld bk_ nmK36 ?_) | (refine q_ldU bk_ rfl nmK36 ?_) | (refine q_ldW bk_ (by rfl) ?_) | (refine q_ldWU bk_ rfl (by rfl) ?_) | (refine q_ldP bk_ (Nat.le_of_ble_eq_true rfl) nmK36 ?_) | (refine q_ldPU bk_ rfl (Nat.le_of_ble_eq_true rfl) nmK36 ?_) | (refine q_ext nmK36 ?_) | (refine u_st bk_ (Nat.le_of_ble_eq_true rfl) (by first | rfl | assumption) nmK36 ?_) | (refine u_stA bk_ (Nat.le_of_ble_eq_true rfl) (by rfl) (by rfl) nmK36 ?_) | (refine q_field nmK36 ?_)); exact hS.out)) : G := s.f h
set_option linter.unusedVariables false
set_option linter.unusedSimpArgs false
attribute [local irreducible] Instr.box Instr.alloc Instr.loadAt Instr.storeAt Instr.fieldAt Instr.indexAt Instr.build Instr.buildSlice Instr.makeSlice Instr.makeMap Instr.mapUpdate Instr.lookup Instr.range Instr.next Instr.entry Instr.extract Instr.makeInterface Instr.makeFunc Instr.sliceAt Instr.typeAssert Instr.field Instr.index Builtin.len_ Builtin.cap_ Builtin.max_ Builtin.min_ Builtin.append_ Builtin.copy_ Builtin.delete_ convert binS pickS nilS callV callM Op.unary Own Mp It Cu


variable {K : Value → World → Prop} {w : World} {te te2 : Option Nat}

theorem Kp.new {a z : Nat} {C : Nat → Prop} {T : List Nat} {w' w'' : World} (k : Kp a z w w') (u : Up C T w' w'') (hC : ∀ b, C b → w.heap.size ≤ b) : Kp a z w w'' :=
  ⟨Nat.le_trans k.size u.size, by rw [u.os, k.os], by rw [u.tape, k.tape], by rw [u.output, k.output], fun b o hb h => u.keep b o (k.keep b o hb h) (.inr fun hc => by
    have := hC b hc
    have := hb.lt
    omega)⟩

/-- What stands ahead of a law's last part: the plain machine mo that was told out of m, the reference's node, and the worlds. -/
structure B5 (m : Mac) (mb ob nb : Nat) (mo : Mac) (v lv : Value) (ok : Bool) (l : Option Mg) (zz : Nat) (wm y1 w : World) : Prop where
  ex : Ex wm w
  hmb : Bk w mb (.cells m.cells 32 (0, 0))
  hob : Bk w ob (.cells (Aft mo (.slice none 0 0) lv ok false) 38 (0, 0))
  hnb : Bk w nb (.cells (m.nd v).cells 43 (0, 0))
  own : Own w y1.heap.size 56 4 v ((m.st ++ m.fr).map En.cells)
  wy : wm.heap.size ≤ y1.heap.size
  yw : y1.heap.size ≤ w.heap.size
  ky : Kp wm.heap.size zz y1 w
  mac : ∀ w'', Kp wm.heap.size zz y1 w'' → IsMac w'' mo ∧ PA lv l w''
  ob0 : wm.heap.size ≤ ob
  nb0 : wm.heap.size ≤ nb
  one : one m.cvV = true ∧ one m.clV = true ∧ one m.coV = true ∧ one m.cnV = true

theorem t5d {m mo : Mac} {ob mb : Nat} {lv : Value} {ok : Bool} {wm : World} (ex : Ex wm w) (hob : Bk w ob (.cells (Aft mo (.slice none 0 0) lv ok false) 38 (0, 0))) (hmb : Bk w mb (.cells m.cells 32 (0, 0))) (hm : IsMac w mo) (hl : 0 ≤ m.lasti ∧ m.lasti ≤ 2199023255552) (hpl : mo.pe.length ≤ 1000)
    (hp : ∀ p ∈ mo.pe, p.id ≠ m.id → p.ma = 0 ∧ p.ne = m.lasti + 1 ∧ p.st = 0 ∧ p.pau = false) (h : ∀ w', Ex wm w' → K (.bool true) w') :
    t5_2 w (.pointer (some ⟨ob, 0, none⟩)) (.pointer (some ⟨mb, 0, none⟩)) (.int .u64 m.lasti) K := by
  unfold t5_2
  (repeat (first | (refine go ?_; intros) | (refine goK36 ?_; intros)))
  refine q_lenSl hm.pe ?_
  rw [List.length_map]
  refine loop_n (α := Nat) (fun j τ w' => g τ 2 = .int .i64 j ∧ j ≤ mo.pe.length ∧ Ex w w') (fun j => mo.pe.length - j) 0 ⟨rfl, Nat.zero_le _, .refl _ _ _⟩ ?_
  rintro j τ w' R ⟨hj, hle, e⟩ hR
  rw [hj]
  (repeat (first | (refine go ?_; intros) | (refine goK36 ?_; intros)))
  refine if_split (fun hb => ?_) (fun hb => h _ (ex.trans e))
  have hj' : j < mo.pe.length := by simpa using hb
  obtain ⟨p, hp1⟩ : ∃ p, mo.pe[j]? = some p := ⟨_, List.getElem?_eq_getElem hj'⟩
  obtain ⟨q1, q2⟩ := hm.pes p (List.mem_of_getElem? hp1)
  have o1 := q1.one
  have o2 := q2.one
  have hpp := hp p (List.mem_of_getElem? hp1)
  unfold t5_1
  rw [hj]
  refine q_ixa j (hm.ex e).pe rfl (by rw [List.getElem?_map, hp1]; rfl) fun _ => ?_
  refine e_allocA fun b2 w2 e2 hb2 s2a s2b => ?_
  refine u_stA hb2 (Nat.le_of_ble_eq_true rfl) (by rfl) (by simp only [Pe.cells, List.all_cons, List.all_nil, o1, o2]; rfl) nmK36 fun w3 u3 hb3 z3 => ?_
  clear hb2
  have zz := e.size
  have ew3 : Ex w w3 := (e.trans e2).new u3 (by intro x hx; subst hx; omega)
  have hmb3 := ew3.at_ hmb
  (repeat (first | (refine go ?_; intros) | (refine goK36 ?_; intros)))
  by_cases hid : p.id = m.id
  · have : (!(p.id == m.id)) = false := by simp [hid]
    rw [this]
    (repeat (first | (refine go ?_; intros) | (refine goK36 ?_; intros)))
    rw [wrapS (by omega)]
    exact hR (j + 1) _ _ ⟨rfl, by omega, ew3⟩ (by omega)
  · have : (!(p.id == m.id)) = true := by simp [hid]
    rw [this]
    obtain ⟨h1, h2, h3, h4⟩ := hpp hid
    (repeat (first | (refine go ?_; intros) | (refine goK36 ?_; intros)))
    rw [h1]
    (repeat (first | (refine go ?_; intros) | (refine goK36 ?_; intros)))
    rw [h2, wrapU (n := m.lasti + 1) (by omega) (by omega), beq_self_eq_true]
    (repeat (first | (refine go ?_; intros) | (refine goK36 ?_; intros)))
    rw [h3]
    (repeat (first | (refine go ?_; intros) | (refine goK36 ?_; intros)))
    rw [h4]
    (repeat (first | (refine go ?_; intros) | (refine goK36 ?_; intros)))
    rw [wrapS (by omega)]
    exact hR (j + 1) _ _ ⟨rfl, by omega, ew3⟩ (by omega)

theorem MF.pelen {m mo : Mac} {R : Rf} {L : Lg} {ps : Ps} {vo le : List Int} (mf : MF m R L ps vo le mo) : mo.pe.length = ps.length := by
  have := mf.ids.length_eq
  simpa using this

theorem t5c {m mo : Mac} {mb ob nb : Nat} {v lv : Value} {ok : Bool} {l : Option Mg} {zz : Nat} {wm y1 : World} {R : Rf} {L : Lg} {ps : Ps} {vo le : List Int} (b : B5 m mb ob nb mo v lv ok l zz wm y1 w) (hm : IsMac wm m) (wh : Whole m) (mf : MF m R L ps vo le mo) (ph : PhL m R L ps vo le ok l)
    (h : ∀ w', Ex wm w' → K (.bool true) w') : t5_3 w (.pointer (some ⟨nb, 0, none⟩)) (.pointer (some ⟨mb, 0, none⟩)) (.pointer (some ⟨ob, 0, none⟩)) K := by
  unfold t5_3
  have hmb := b.hmb
  have hob := b.hob
  have hnb := b.hnb
  have ob0 := b.ob0
  have nb0 := b.nb0
  have wy := b.wy
  have yw := b.yw
  have bex := b.ex
  have hlen := wh.row.len
  rw [List.length_append] at hlen
  have hla : m.lasti = m.base.i + (m.st ++ m.fr).length := rfl
  rw [List.length_append] at hla
  have hbi := wh.bi
  obtain ⟨p1, p2, p3, p4⟩ := b.one
  have onv := b.own.sl.one
  (repeat (first | (refine go ?_; intros) | (refine goK36 ?_; intros)))
  refine cl_fn (k19 (n := m.nd v) (te := some 56) b.own.sl ⟨p1, p2, p3, p4⟩ fun w1 e1 => ?_)
  rw [show ((m.nd v).log.getLast?.map (·.i)).getD (m.nd v).base.i = m.lasti from lasti_eq wh.row]
  have hmb1 := e1.at_ hmb
  have hob1 := e1.at_ hob
  have hnb1 := e1.at_ hnb
  clear hmb hob hnb
  (repeat (first | (refine go ?_; intros) | (refine goK36 ?_; intros)))
  rename_i w2 u2 hnb2 z2
  have hmb2 : Bk w2 mb (.cells m.cells 32 (0, 0)) := u2.at_ hmb1 rfl
  have hob2 := u2.at_ hob1 rfl
  clear hmb1 hob1 hnb1
  (repeat (first | (refine go ?_; intros) | (refine goK36 ?_; intros)))
  rw [wrapU (n := m.lasti + 1) (by omega) (by omega)]
  (repeat (first | (refine go ?_; intros) | (refine goK36 ?_; intros) | refine b56_0_1 (by first | rfl | assumption) (by first | rfl | assumption) ?_))
  have own2 : Own w2 y1.heap.size 56 4 v ((m.st ++ m.fr).map En.cells) := (b.own.ex e1).up u2 fun _ _ => .inl rfl
  have zz1 := e1.size
  refine e_push (v := .agg #[.int .u64 m.term, .int .u64 (m.lasti + 1), .int .i64 0, .string ByteArray.empty]) own2 (by rfl) (by omega) (by
    intro x hx
    have : (Value.agg #[.int .u64 m.term, .int .u64 (m.lasti + 1), .int .i64 0, .string ByteArray.empty]).cells.toList.all one = true := by rfl
    exact List.all_eq_true.1 this x hx) (by simp; omega) (by simp; omega) (by omega) fun s3 v3 w3 u3 own3 hbl3 z3 => ?_
  have lt2 := own2.lt
  have hmb3 : Bk w3 mb (.cells m.cells 32 (0, 0)) := u3.at_ hmb2 rfl
  have hob3 := u3.at_ hob2 rfl
  have hnb3 := u3.at_ hnb2 rfl
  have onv3 := own3.sl.one
  clear hmb2 hob2 hnb2
  (repeat (first | (refine go ?_; intros) | (refine goK36 ?_; intros)))
  rename_i w4 u4 hnb4 z4
  have hmb4 : Bk w4 mb (.cells m.cells 32 (0, 0)) := u4.at_ hmb3 rfl
  have hob4 := u4.at_ hob3 rfl
  clear hmb3 hob3 hnb3
  have own4 := own3.up u4 fun _ _ => .inl rfl
  have ex4 : Ex wm w4 := (((bex.trans e1).new u2 (by intro x hx; omega)).new u3 (by intro x hx; have := (lt2 x hx).1; omega)).new u4 (by intro x hx; omega)
  have kb : ∀ {a c : World}, Up (fun x => x = nb) [45] a c → Kp wm.heap.size zz a c := fun u => Up.kp (u.mono (fun y _ hy => by subst hy; exact nb0) (fun k hk => by simp at hk; simp [hk]))
  have k2 : Kp wm.heap.size zz y1 w2 := (b.ky.trans (Up.kp (Up.of_ex e1))).trans (kb u2)
  have k4 : Kp wm.heap.size zz y1 w4 := (k2.new u3 fun x hx => (lt2 x hx).1).trans (kb u4)
  obtain ⟨hmo, hpa⟩ := b.mac w4 k4
  have hmo5 : ∀ w', Ex w4 w' → IsMac w' mo := fun w' e => hmo.ex e
  have e_id : mo.id = m.id := by rw [mf.id, ph.id]
  have e_st : mo.st = m.st := by rw [mf.st, if_pos ph.us]
  have e_fr : mo.fr = m.fr ++ [⟨m.term, m.lasti + 1, 0, ByteArray.empty⟩] := by rw [mf.fr, ph.un]
  have e_base : mo.base = m.base := by rw [mf.base, ph.us]; rfl
  have hpl : mo.pe.length = m.pe.length := by
    rw [mf.pelen, wh.pes]
    have := congrArg List.length ph.keys
    simpa using this
  (repeat (first | (refine go ?_; intros) | (refine goK36 ?_; intros)))
  refine cl_fn (k14 (mo := mo) (n := { m.nd v with lead := m.id, logV := v3, log := (m.st ++ m.fr) ++ [⟨m.term, m.lasti + 1, 0, ByteArray.empty⟩] }) (te := some 56) (role := 2) hmo (by rw [e_st, e_fr]; simp; omega) (by
    have := own4.sl
    rw [show ((m.st ++ m.fr).map En.cells ++ [(Value.agg #[.int .u64 m.term, .int .u64 (m.lasti + 1), .int .i64 0, .string ByteArray.empty]).cells.toList]) = ((m.st ++ m.fr) ++ [(⟨m.term, m.lasti + 1, 0, ByteArray.empty⟩ : En)]).map En.cells by simp [En.cells, Value.cells]] at this
    exact this) ⟨p1, p2, p3, p4⟩ (by rw [mf.role, ph.st]) (by rw [mf.lead, ph.lead]) (by rw [mf.term, ph.term]; rfl) (by rw [mf.vote, ph.vote]; rfl) (by rw [mf.commit, ph.cm]; rfl) (by rw [e_base]; rfl) (by rw [e_base]; rfl) (by rw [e_st, e_fr]; simp) fun w5 e5 => ?_)
  have hob5 := e5.at_ hob4
  have hmb5 := e5.at_ hmb4
  clear hob4 hmb4
  have hm5 : IsMac w5 m := hm.ex (ex4.trans e5)
  (repeat (first | (refine go ?_; intros) | (refine goK36 ?_; intros)))
  refine q_lenSl (hmo.ex e5).pe ?_
  (repeat (first | (refine go ?_; intros) | (refine goK36 ?_; intros)))
  refine q_lenSl hm5.pe ?_
  rw [List.length_map, List.length_map, hpl]
  (repeat (first | (refine go ?_; intros) | (refine goK36 ?_; intros)))
  rw [beq_self_eq_true]
  (repeat (first | (refine go ?_; intros) | (refine goK36 ?_; intros)))
  refine t5d (ex4.trans e5) hob5 hmb5 (hmo.ex e5) ⟨by omega, by omega⟩ (by rw [hpl]; have := wh.pes; have := wh.mem.v9; have := wh.mem.l4; have h1 : m.vo.length ≤ 9 := wh.mem.v9; have h2 : m.le.length ≤ 4 := wh.mem.l4; omega) ?_ h
  intro p hp hne
  obtain ⟨x, hx, rfl⟩ := mf.pe p hp
  obtain ⟨g1, g2, g3, g4⟩ := ph.ps x hx hne
  exact ⟨g1, g2, by show IntKind.i64.wrap x.2.2.st = 0; rw [g3]; rfl, g4⟩

end Go.Proofs.YtmmpogfbhelioaaGreat
