/-
  PARTS: K17 K18 K19 K20 K21 K22 K23 Gd K24 K25 Eq K26 K5.
-/
import Derived.Test.YtmmpogfbhelioaaGreatFbh
import Derived.Test.YtmmpogfbhelioaaGreatFbi
import Derived.Test.YtmmpogfbhelioaaGreatFba
import Derived.Test.YtmmpogfbhelioaaGreatFbb
import Derived.Defers
import Derived.Recover
import Derived.Tactics
import Derived.Tactics2
import Derived.Laws.Pointers
/-
  Contracts: sets as lists; the visit of all progress.
  Conditions: at most 13 members.
-/
namespace Go.Proofs.YtmmpogfbhelioaaGreat
set_option maxRecDepth 10000
set_option linter.unusedVariables false
set_option linter.unusedSimpArgs false
theorem nmK17 {p : Prop} (h : p := by (try simp only [List.getElem?_toArray, List.getElem?_cons_zero, List.getElem?_cons_succ, List.setIfInBounds_toArray, List.set_cons_zero, List.set_cons_succ, List.toList_toArray, List.drop_zero, List.drop_succ_cons, List.take_zero, List.take_succ_cons, Nat.zero_add, Nat.add_zero, Nat.reduceAdd, putCells, Rf.cells]) <;> rfl) : p := h
theorem goK17 {G H : Prop} (h : H) (s : Stp G H := by (apply Stp.of; intro hS; (first | (refine q_ld bk_ nmK17 ?_) | (refine q_ldU bk_ rfl nmK17 ?_) | (refine q_ldW bk_ (by rfl) ?_) | (refine q_ldWU bk_ rfl (by rfl) ?_) | (refine q_ldP bk_ (Nat.le_of_ble_eq_true rfl) nmK17 ?_) | (refine q_ldPU bk_ rfl (Nat.le_of_ble_eq_true rfl) nmK17 ?_) | (refine q_ext nmK17 ?_) | (refine u_st bk_ (Nat.le_of_ble_eq_true rfl) (by first | rfl | assumption) nmK17 ?_) | (refine u_stA bk_ (Nat.le_of_ble_eq_true rfl) (by rfl) (by rfl) nmK17 ?_) | (refine q_field nmK17 ?_)); exact hS.out)) : G := s.f h
set_option linter.unusedVariables false
set_option linter.unusedSimpArgs false
attribute [local irreducible] Instr.box Instr.alloc Instr.loadAt Instr.storeAt Instr.fieldAt Instr.indexAt Instr.build Instr.buildSlice Instr.makeSlice Instr.makeMap Instr.mapUpdate Instr.lookup Instr.range Instr.next Instr.entry Instr.extract Instr.makeInterface Instr.makeFunc Instr.sliceAt Instr.typeAssert Instr.field Instr.index Builtin.len_ Builtin.cap_ Builtin.max_ Builtin.min_ Builtin.append_ Builtin.copy_ Builtin.delete_ convert binS pickS nilS callV callM Op.unary Own Mp It Cu

attribute [local irreducible] Nm

variable {K : Value → World → Prop} {w : World} {te : Option Nat}

theorem Own.sb {base e n : Nat} {v : Value} {xs : List (List Value)} (h : Own w base e n v xs) : ∀ b, sb v b → base ≤ b := by
  unfold Own at h
  obtain ⟨⟨hl, hx⟩, hn⟩ := h
  intro b hb
  rcases hx with ⟨rfl, h0⟩ | ⟨g, cap, cur, rfl, h1, _⟩
  · cases hb
  · cases hb; exact h1

theorem k87 {o : Option Nat} {l : KV} (hm : MpO w o l) (hl : l.length ≤ 13) (h : ∀ v w' xs, Ex w w' → xs.Perm (l.map (·.1)) → Sl w' (some 22) 1 v (nums xs) → K v w') : CK Pr 87 #[.map o] w K := by
  refine c87 ?_
  unfold t87
  cases o with
  | none =>
    cases (show l = [] from hm)
    refine e_range0 fun w1 e1 i1 s1 => ?_
    refine loop_n (α := Unit) (fun _ τ w' => g τ 0 = .slice none 0 0 ∧ w' = w1) (fun _ => 0) () ⟨rfl, rfl⟩ ?_
    rintro _ τ w' R ⟨hg, rfl⟩ hR
    refine e_next0 i1 ?_
    (repeat (first | (refine go ?_; intros) | (refine goK17 ?_; intros)))
    rw [hg]
    refine cl_fn (k131 (te := 22) (xs := []) (Own.nm (Own.nil w' 0 22 1)) (by simp) fun w2 xs s2 => ?_)
    have hp := s2.2.2.1
    have : xs = [] := List.perm_nil.1 hp
    subst this
    refine h _ _ [] (e1.new s2.1 (by intro b hb; cases hb)) (.refl _) (.nil _ _)
  | some b =>
    refine e_range hm fun w1 e1 i1 s1 => ?_
    refine loop_n (α := KV × List Int) (fun a τ w' => It w' w.heap.size b l a.1 ∧ Own w' (w.heap.size + 1) 22 1 (g τ 0) (nums a.2) ∧ (a.2 ++ a.1.map (·.1)).Perm (l.map (·.1)) ∧ Ex w w' ∧ w.heap.size + 1 ≤ w'.heap.size) (fun a => a.1.length) (l, []) ⟨i1, Own.nil _ _ _ _, .refl _, e1, by omega⟩ ?_
    rintro ⟨rem, acc⟩ τ w' R ⟨hi, ho, hp, ex, hz⟩ hR
    simp only at hi ho hp hR
    have hlen := hp.length_eq
    simp only [List.length_append, List.length_map] at hlen
    refine e_next hi (fun h0 => ?_) (fun p l1 l2 w2 hrem u2 hi2 hc hpl hz2 => ?_)
    · (repeat (first | (refine go ?_; intros) | (refine goK17 ?_; intros)))
      subst h0
      refine cl_fn (k131 (te := 22) (xs := acc) ho.nm (by omega) fun w3 xs s3 => ?_)
      have hp3 := s3.2.2.1
      refine h _ _ xs (ex.new s3.1 fun b hb => by have := ho.sb b hb; omega) (hp3.trans (by simpa using hp)) s3.nm.sl
    · (repeat (first | (refine go ?_; intros) | (refine goK17 ?_; intros)))
      refine q_entry hc ?_
      (repeat (first | (refine go ?_; intros) | (refine goK17 ?_; intros)))
      have ho2 : Own w2 (w.heap.size + 1) 22 1 (g τ 0) (nums acc) := ho.up u2 fun _ _ => .inl rfl
      refine e_push1 ho2 rfl (by simp [nums]; omega) (by simp [nums]; omega) (by omega) fun s3 v3 w3 u3 ho3 hb3 hz3 => ?_
      have hrl : rem.length = l1.length + l2.length + 1 := by rw [hrem]; simp; omega
      refine hR (l1 ++ l2, acc ++ [p.1]) _ _ ⟨?_, ?_, ?_, ?_, by omega⟩ (by simp; omega)
      · exact hi2.up u3 (.inl rfl) (.inl rfl)
      · show Own w3 _ 22 1 v3 _
        simpa [nums] using ho3
      · refine List.Perm.trans ?_ hp
        rw [hrem]
        simp only [List.map_append, List.map_cons, List.append_assoc, List.singleton_append]
        exact List.Perm.append_left _ List.perm_middle.symm
      · refine (ex.new u2 (by intro x hx; subst hx; exact Nat.le_refl _)).new u3 ?_
        intro x hx
        have := (ho2.lt x hx).1
        omega

theorem k88 {o : Option Nat} {l : KV} (hm : MpO w o l) (hl : l.length ≤ 13) (h : ∀ v w' xs, Ex w w' → xs.Perm (l.map (·.1)) → Sl w' (some 22) 1 v (nums xs) → K v w') : CK Pr 88 #[.map o] w K := by
  refine c88 ?_
  unfold t88
  exact cl_fn (k87 hm hl h)

theorem lk_mem {l : KV} {x : Int} (h : x ∈ l.map (·.1)) : ∃ v, lk l x = some v := by
  induction l with
  | nil => cases h
  | cons p r ih =>
    obtain ⟨k, v⟩ := p
    simp only [lk]
    by_cases hk : k = x
    · exact ⟨v, by simp [hk]⟩
    · rw [if_neg hk]
      refine ih ?_
      simp only [List.map_cons, List.mem_cons] at h
      exact h.resolve_left fun e => hk e.symm

theorem drop_set {xs : List Int} {k : Nat} {y : Int} (h : k < xs.length) : (xs.set k y).drop k = y :: xs.drop (k + 1) := by
  induction xs generalizing k with
  | nil => simp at h
  | cons x r ih =>
    cases k with
    | zero => rfl
    | succ k => simpa using ih (by simpa using h)

theorem k91 {b : Nat} {R : Rf} {l : KV} (hb : Bk w b (.cells R.cells 187 (0, 0))) (hm : Mp w R.pm l) (hnd : (l.map (·.1)).Nodup) (hl : l.length ≤ 13) {fn : Nat} [TFn Pr fn] {cap : Array Value} {C : Nat → Prop} {T : List Nat}
    (I : List Int → World → Prop) (h0 : ∀ w', Ex w w' → I [] w') (hI : ∀ done w', I done w' → Bk w' b (.cells R.cells 187 (0, 0)) ∧ Mp w' R.pm l) (hT1 : T.contains 24 = false) (hT2 : T.contains 240 = false)
    (hc : ∀ done x v w1 (K' : Value → World → Prop), I done w1 → lk l x = some v → x ∉ done → (∀ w2, I (done ++ [x]) w2 → Up C T w1 w2 → K' (.tuple #[]) w2) → CK Pr fn (#[.int .u64 x, v] ++ cap) w1 K')
    (h : ∀ done w', I done w' → done.Perm (l.map (·.1)) → K (.tuple #[]) w') : CK Pr 91 #[.pointer (some ⟨b, 7, none⟩), .func (.func fn) #[] cap] w K := by
  refine c91 ?_
  unfold t91
  (repeat (first | (refine go ?_; intros) | (refine goK17 ?_; intros)))
  refine q_lenM (b := R.pm) (l := l) (fun w' hw => by cases hw; exact hm) ?_
  refine e_allocA fun ab w1 e1 hb1 s1 s2 => ?_
  refine q_geq ?_
  have hb' : ∀ w', Ex w w' → Bk w' b (.cells R.cells 187 (0, 0)) := fun w' e => e.at_ hb
  refine jo_rule (fun J => ∀ te v (xs : List Int) w2, (te = 22 ∨ te = 238) → Ex w w2 → Nm te v xs w2 → xs.length = l.length → (∀ x, sb v x → w.heap.size ≤ x) → J v w2) ?_ ?_
  rotate_left
  · intro J hJ
    refine if_split (fun h7 => ?_) (fun h7 => ?_)
    · have h7 := of_decide_eq_true h7
      refine q_slArr l.length rfl (by omega) (by omega) ?_
      refine hJ 238 _ (List.replicate l.length 0) w1 (.inr rfl) e1 ?_ (by simp) (by intro x hx; cases hx; omega)
      unfold Nm
      refine ⟨_, 7, by simp, by simp [maxLen]; omega, by simp; omega, .inr ⟨ab, 0, _, rfl, hb1, by simp; omega, ?_⟩⟩
      have : l.length = 0 ∨ l.length = 1 ∨ l.length = 2 ∨ l.length = 3 ∨ l.length = 4 ∨ l.length = 5 ∨ l.length = 6 ∨ l.length = 7 := by omega
      rcases this with h | h | h | h | h | h | h | h <;> rw [h] <;> rfl
    · refine e_make (m := l.length) rfl rfl rfl (by omega) (by omega) fun w2 e2 ho z2 => ?_
      refine hJ 22 _ (List.replicate l.length 0) w2 (.inl rfl) (e1.trans e2) ?_ (by simp) (by intro x hx; have := ho.sb x hx; omega)
      refine Own.nm (base := w1.heap.size) ?_
      have : nums (List.replicate l.length 0) = List.replicate l.length [Value.int .u64 0] := by simp [nums]
      rw [this]; exact ho
  · intro te v xs w2 hte e2 hn hxl hsb
    have hb2 := hb' w2 e2
    (repeat (first | (refine go ?_; intros) | (refine goK17 ?_; intros)))
    refine e_range (hm.ex e2) fun w3 e3 i3 s3 => ?_
    refine loop_n (α := KV × List Int) (fun a τ w' => g τ 0 = .int .i64 (a.1.length : Nat) ∧ It w' w2.heap.size R.pm l a.1 ∧ Nm te v a.2 w' ∧ a.2.length = l.length ∧ (a.1.map (·.1) ++ a.2.drop a.1.length).Perm (l.map (·.1)) ∧ Ex w w') (fun a => a.1.length) (l, xs)
      ⟨rfl, i3, hn.ex e3, hxl, by rw [← hxl, List.drop_length, List.append_nil], e2.trans e3⟩ ?_
    rintro ⟨rem, ys⟩ τ w' R1 ⟨hτ, hi, hny, hyl, hp, ex⟩ hR
    simp only at hτ hi hny hyl hp hR
    have hlen := hp.length_eq
    simp only [List.length_append, List.length_map, List.length_drop] at hlen
    refine e_next hi (fun h0' => ?_) (fun p l1 l2 w4 hrem u4 hi4 hcu hpl hz4 => ?_)
    · (repeat (first | (refine go ?_; intros) | (refine goK17 ?_; intros)))
      subst h0'
      refine cl_fn (k131 (te := te) (xs := ys) hny (by omega) fun w5 zs s5 => ?_)
      have hpz : zs.Perm (l.map (·.1)) := s5.2.2.1.trans (by simpa using hp)
      have hzl : zs.length = l.length := by simpa using hpz.length_eq
      have hzn : zs.Nodup := hpz.nodup_iff.2 hnd
      have ex5 : Ex w w5 := ex.new s5.1 hsb
      have hn5 : Nm te v zs w5 := s5.nm
      refine q_lenSl hn5.sl ?_
      rw [nums_len, hzl]
      refine loop_n (α := Nat) (fun j τ w' => g τ 1 = .int .i64 j ∧ j ≤ l.length ∧ I (zs.take j) w' ∧ Nm te v zs w') (fun j => l.length - j) 0 ⟨rfl, Nat.zero_le _, h0 _ ex5, hn5⟩ ?_
      rintro j τ2 w6 R2 ⟨hj, hle, hi6, hn6⟩ hR2
      rw [hj]
      (repeat (first | (refine go ?_; intros) | (refine goK17 ?_; intros)))
      refine if_split (fun hbj => ?_) (fun hbj => ?_)
      · have hj' : j < zs.length := by
          have := of_decide_eq_true hbj
          omega
        obtain ⟨x, hx⟩ : ∃ x, zs[j]? = some x := ⟨_, List.getElem?_eq_getElem hj'⟩
        obtain ⟨hb6, hm6⟩ := hI _ _ hi6
        refine q_ixs (x := .int .u64 x) j hn6.sl rfl (by simp [nums, hx]) fun _ => ?_
        (repeat (first | (refine go ?_; intros) | (refine goK17 ?_; intros)))
        obtain ⟨y, hy⟩ := lk_mem (hpz.mem_iff.1 (List.mem_of_getElem? hx))
        refine q_look hm6 ?_
        rw [hy]
        refine cl_clo (hc _ x y w6 _ hi6 hy (notin_take hzn hx) fun w7 hi7 u7 => ?_)
        (repeat (first | (refine go ?_; intros) | (refine goK17 ?_; intros)))
        rw [wrapS (by omega)]
        refine hR2 (j + 1) _ _ ⟨rfl, by omega, by rw [take_snoc hx]; exact hi7, ?_⟩ (by omega)
        refine hn6.up u7 (.inl ?_)
        rcases hte with rfl | rfl
        · exact hT1
        · exact hT2
      · refine h zs w6 ?_ hpz
        have : j = zs.length := by
          have := of_decide_eq_false hbj
          omega
        rw [this, List.take_length] at hi6
        exact hi6
    · (repeat (first | (refine go ?_; intros) | (refine goK17 ?_; intros)))
      refine q_entry hcu ?_
      (repeat (first | (refine go ?_; intros) | (refine goK17 ?_; intros)))
      rw [hτ]
      have hrl : rem.length = l1.length + l2.length + 1 := by rw [hrem]; simp; omega
      (repeat (first | (refine go ?_; intros) | (refine goK17 ?_; intros)))
      have hw1 : IntKind.i64.wrap ((rem.length : Int) - 1) = ((rem.length - 1 : Nat) : Int) := by rw [wrap64 (by omega) (by omega)]; omega
      rw [hw1]
      have hn4 : Nm te v ys w4 := hny.up u4 (.inl (by rcases hte with rfl | rfl <;> rfl))
      refine q_ixN (rem.length - 1) hn4 rfl (by omega) ?_
      refine u_stN hn4 (by omega) fun w5 u5 n5 z5 => ?_
      refine hR (l1 ++ l2, _) _ _ ⟨?_, ?_, n5, by simp; omega, ?_, ?_⟩ (by simp; omega)
      · show Value.int .i64 ((rem.length - 1 : Nat) : Int) = _
        simp
        omega
      · refine hi4.up u5 (.inl ?_) (.inl ?_) <;> rcases hte with rfl | rfl <;> rfl
      · refine List.Perm.trans ?_ hp
        have h1 : (l1 ++ l2).length = rem.length - 1 := by simp; omega
        have h2 : rem.length - 1 + 1 = rem.length := by omega
        simp only [h1]
        rw [drop_set (by omega), h2, hrem]
        simp only [List.map_append, List.map_cons]
        rw [List.append_assoc, List.append_assoc]
        refine List.Perm.append_left _ ?_
        simp only [List.cons_append]
        exact List.perm_middle
      · have := e2.size
        exact (ex.new u4 (by intro x hx; subst hx; omega)).new u5 hsb

end Go.Proofs.YtmmpogfbhelioaaGreat
/-
  Contracts: the machine's parts as plain data.
  Conditions: each one's own.
-/
namespace Go.Proofs.YtmmpogfbhelioaaGreat
set_option maxRecDepth 10000
set_option linter.unusedVariables false
set_option linter.unusedSimpArgs false
theorem nmK18 {p : Prop} (h : p := by (try simp only [List.getElem?_toArray, List.getElem?_cons_zero, List.getElem?_cons_succ, List.setIfInBounds_toArray, List.set_cons_zero, List.set_cons_succ, List.toList_toArray, List.drop_zero, List.drop_succ_cons, List.take_zero, List.take_succ_cons, Nat.zero_add, Nat.add_zero, Nat.reduceAdd, putCells, Rf.cells, Pg.cells, Mac.cells, Pe.pcells]) <;> rfl) : p := h
theorem goK18 {G H : Prop} (h : H) (s : Stp G H := by (apply Stp.of; intro hS; (first | (refine q_ld bk_ nmK18 ?_) | (refine q_ldU bk_ rfl nmK18 ?_) | (refine q_ldW bk_ (by rfl) ?_) | (refine q_ldWU bk_ rfl (by rfl) ?_) | (refine q_ldP bk_ (Nat.le_of_ble_eq_true rfl) nmK18 ?_) | (refine q_ldPU bk_ rfl (Nat.le_of_ble_eq_true rfl) nmK18 ?_) | (refine q_ext nmK18 ?_) | (refine u_st bk_ (Nat.le_of_ble_eq_true rfl) (by first | rfl | assumption) nmK18 ?_) | (refine u_stA bk_ (Nat.le_of_ble_eq_true rfl) (by rfl) (by rfl) nmK18 ?_) | (refine q_field nmK18 ?_)); exact hS.out)) : G := s.f h
set_option linter.unusedVariables false
set_option linter.unusedSimpArgs false
attribute [local irreducible] Instr.box Instr.alloc Instr.loadAt Instr.storeAt Instr.fieldAt Instr.indexAt Instr.build Instr.buildSlice Instr.makeSlice Instr.makeMap Instr.mapUpdate Instr.lookup Instr.range Instr.next Instr.entry Instr.extract Instr.makeInterface Instr.makeFunc Instr.sliceAt Instr.typeAssert Instr.field Instr.index Builtin.len_ Builtin.cap_ Builtin.max_ Builtin.min_ Builtin.append_ Builtin.copy_ Builtin.delete_ convert binS pickS nilS callV callM Op.unary Own Mp It Cu


variable {K : Value → World → Prop} {w : World} {te : Option Nat}

theorem RM.ex {base b : Nat} {R : Rf} {L : Lg} {ps : Ps} {vo le : List Int} {w' : World} (e : Ex w w') (r : RM base b R L ps vo le w) : RM base b R L ps vo le w' :=
  ⟨e.at_ r.bk, r.b0, r.lg.ex e, r.lok, r.pr.ex e, r.vo.ex e, r.le.ex e, r.vt.ex e, r.ro.ex e⟩
theorem k81 {b : Nat} {R : Rf} (hb : Bk w b (.cells R.cells 187 (0, 0)))
    (h : ∀ w', Ex w w' → K (.agg #[.int .u64 R.id, .int .u64 R.term, .int .u64 R.vote, .int .u64 R.lead, .int .u64 R.tr, .int .u64 R.st, .bool R.il, .bool R.pv, .bool R.cq, .int .i64 R.et, .int .i64 R.ht, .int .i64 R.rt, .int .i64 R.ee, .int .i64 R.he, .int .u64 R.mm, .int .u64 R.mu, .int .u64 R.us]) w') : CK Pr 81 #[.pointer (some ⟨b, 0, none⟩)] w K := by
  refine c81 ?_
  unfold t81
  refine e_allocA fun b1 w1 e1 hb1 s1 s2 => ?_
  refine dr_rule (fun x => x = b1) [163] fun w2 e2 z2 => ?_
  have hb2 : Bk w2 b _ := e2.at_ (e1.at_ hb)
  have hb12 := e2.at_ hb1
  (repeat (first | (refine go ?_; intros) | (refine goK18 ?_; intros) | refine b161_0_1_2_3_4_5_6_7_8_9_10_11_12_13_14_15_16 (by first | rfl | assumption) (by first | rfl | assumption) (by first | rfl | assumption) (by first | rfl | assumption) (by first | rfl | assumption) (by first | rfl | assumption) (by first | rfl | assumption) (by first | rfl | assumption) (by first | rfl | assumption) (by first | rfl | assumption) (by first | rfl | assumption) (by first | rfl | assumption) (by first | rfl | assumption) (by first | rfl | assumption) (by first | rfl | assumption) (by first | rfl | assumption) (by first | rfl | assumption) ?_))
  rename_i w3 u3 hb3 z3
  refine ⟨u3, ?_⟩
  (repeat (first | (refine go ?_; intros) | (refine goK18 ?_; intros)))
  exact h w3 ((e1.trans e2).new u3 (by intro x hx; subst hx; omega))

theorem k82 {b : Nat} {R : Rf} (hb : Bk w b (.cells R.cells 187 (0, 0))) (h : K (.pointer (some ⟨R.lb, 0, none⟩)) w) : CK Pr 82 #[.pointer (some ⟨b, 0, none⟩)] w K := by
  refine c82 ?_
  unfold t82
  (repeat (first | (refine go ?_; intros) | (refine goK18 ?_; intros)))
  exact h

theorem k83 {b : Nat} (h : K (.pointer (some ⟨b, 7, none⟩)) w) : CK Pr 83 #[.pointer (some ⟨b, 0, none⟩)] w K := by
  refine c83 ?_
  unfold t83
  (repeat (first | (refine go ?_; intros) | (refine goK18 ?_; intros)))
  exact h

theorem k134 {ib : Nat} {size mx : Int} (hi : Inf ib size mx w) (h : ∀ w', Ex w w' → w'.heap.size = w.heap.size → K (.tuple #[.int .i64 size, .int .u64 mx, .slice none 0 0, .slice none 0 0]) w') : CK Pr 134 #[.pointer (some ⟨ib, 0, none⟩)] w K := by
  refine c134 ?_
  unfold t134
  refine loop_n (α := Unit) (fun _ τ w' => g τ 0 = .slice none 0 0 ∧ g τ 1 = .slice none 0 0 ∧ g τ 2 = .int .i64 0 ∧ w' = w) (fun _ => 0) () ⟨rfl, rfl, rfl, rfl⟩ ?_
  rintro _ τ w' R ⟨h0, h1, h2, rfl⟩ hR
  unfold Inf at hi
  rw [h0, h1, h2]
  (repeat (first | (refine go ?_; intros) | (refine goK18 ?_; intros)))
  refine dr_rule No [] fun w1 e1 z1 => ?_
  have hi1 : Bk w1 ib _ := e1.at_ hi
  (repeat (first | (refine go ?_; intros) | (refine goK18 ?_; intros)))
  exact h w1 e1 z1

def peOf (id : Int) (q : Pg) : Pe := ⟨id, q.ma, q.ne, IntKind.i64.wrap q.st, q.pend, q.act, q.pau, q.le, q.size, q.mx, .slice none 0 0, .slice none 0 0, [], []⟩

theorem k93 {base pb : Nat} {q : Pg} (hp : PG base pb q w) (id : Int) (h : ∀ w', Ex w w' → K (.agg (peOf id q).pcells.toArray) w') : CK Pr 93 #[.pointer (some ⟨pb, 0, none⟩)] w K := by
  refine c93 ?_
  unfold t93
  obtain ⟨_, ib, _, hpb, hinf⟩ := hp
  refine e_allocA fun b1 w1 e1 hb1 s1 s2 => ?_
  refine dr_rule No [] fun w2 e2 z2 => ?_
  have hp2 : Bk w2 pb _ := e2.at_ (e1.at_ hpb)
  have hb12 := e2.at_ hb1
  (repeat (first | (refine go ?_; intros) | (refine goK18 ?_; intros) | refine b58_0_1_2_3_4_5_6 (by first | rfl | assumption) (by first | rfl | assumption) (by first | rfl | assumption) (by first | rfl | assumption) (by first | rfl | assumption) (by first | rfl | assumption) (by first | rfl | assumption) ?_))
  rename_i b3 w3 e3 hb3 s3 s4
  refine ⟨e3, ?_⟩
  have hp3 := e3.at_ hp2
  refine u_stA hb3 (Nat.le_of_ble_eq_true rfl) (by rfl) (by rfl) nmK18 fun w4 u4 hb4 z4 => ⟨e3.new u4 (by intro x hx; subst hx; omega), ?_⟩
  have hp4 := u4.at_ hp3 rfl
  have hb14 := u4.off (e3.at_ hb12) (by intro h; have := e3.size; omega)
  have hinf4 : Inf ib q.size q.mx w4 := u4.at_ (e3.at_ (e2.at_ (e1.at_ hinf))) rfl
  clear hb3 hp2 hp3 hb12
  have z13 := e3.size
  have z12 := e1.size
  have ew4 : Ex w w4 := ((e1.trans e2).trans e3).new u4 (by intro x hx; subst hx; omega)
  (repeat (first | (refine go ?_; intros) | (refine goK18 ?_; intros)))
  refine cl_fn (k134 hinf4 fun w5 e5 z5 => ?_)
  have hb5 := e5.at_ hb4
  have hb15 := e5.at_ hb14
  clear hb4 hb14 hp4
  (repeat (first | (refine go ?_; intros) | (refine goK18 ?_; intros)))
  rename_i wa ua ba za wb ub bb zb wc uc bc zc wd ud bd zd we ue be ze
  refine h we ?_
  have x5 := ew4.trans e5
  have x9 : Ex w wd := x5.new (((ua.trans ub).trans uc).trans ud) (by intro x hx; subst hx; omega)
  exact x9.new ue (by intro x hx; subst hx; omega)

theorem k92 {base pb ob bb : Nat} {q : Pg} {mo : Mac} {id : Int} {pl : List Pe} (hb : Bk w ob (.cells mo.cells 32 (0, 0))) (hp : PG base pb q w) (ho : Own w bb 60 12 mo.peV (pl.map Pe.cells)) (hl : pl.length ≤ 100) (hbb : bb ≤ w.heap.size)
    (h : ∀ v w', Up (fun x => x = ob ∨ bb ≤ x) [34, 62] w w' → Bk w' ob (.cells { mo with peV := v }.cells 32 (0, 0)) → Own w' bb 60 12 v ((pl ++ [peOf id q]).map Pe.cells) → K (.tuple #[]) w') : CK Pr 92 #[.int .u64 id, .pointer (some ⟨pb, 0, none⟩), .pointer (some ⟨ob, 0, none⟩)] w K := by
  refine c92 ?_
  unfold t92
  refine dr2_rule (fun x => bb ≤ x) [62] (fun x => x = ob ∨ bb ≤ x) [34, 62] fun w1 e1 z1 => ?_
  have hb1 := e1.at_ hb
  have ho1 := ho.ex e1
  (repeat (first | (refine go ?_; intros) | (refine goK18 ?_; intros)))
  have up : ∀ {w'}, Up (fun x => bb ≤ x) [62] w1 w' → Up (fun x => x = ob ∨ bb ≤ x) [34, 62] w1 w' := fun u => u.mono (fun _ _ h => .inr h) (fun k hk => by simp at hk; simp [hk])
  refine cl_fn (k93 (hp.ex e1) id fun w2 e2 => ⟨⟨.of_ex e2, .of_ex e2⟩, ?_⟩)
  refine b60_0_1 rfl ?_
  have z2 := e2.size
  refine e_bs1 (n := 12) (by rfl) (by omega) fun w3 e3 o3 z3 => ⟨⟨(Up.of_ex e2).ex e3, (Up.of_ex e2).ex e3⟩, ?_⟩
  have lt1 := ho1.lt
  refine e_app (base := bb) ((ho1.ex e2).ex e3) o3.sl (by
    intro y hy u hu
    rw [List.mem_singleton.1 hy] at hu
    have : (Value.agg #[.int .u64 id, .int .u64 q.ma, .int .u64 q.ne, .int .i64 (IntKind.i64.wrap q.st), .int .u64 q.pend, .bool q.act, .bool q.pau, .bool q.le, .int .i64 q.size, .int .u64 q.mx, .slice none 0 0, .slice none 0 0]).cells.toList.all one = true := by rfl
    exact List.all_eq_true.1 this u hu) (by simp; omega) (by simp; omega) (by omega) fun v4 w4 u4 o4 hbl z4 => ?_
  have U4 : Up (fun x => bb ≤ x) [62] w1 w4 := ((Up.of_ex e2).ex e3).step u4 (fun y _ hy => (lt1 y hy).1) (fun k hk => by simp at hk; simp [hk])
  refine ⟨⟨U4, up U4⟩, ?_⟩
  have hb4 : Bk w4 ob (.cells mo.cells 32 (0, 0)) := U4.at_ hb1 rfl
  have o44 := o4.sl.one
  (repeat (first | (refine go ?_; intros) | (refine goK18 ?_; intros)))
  rename_i w5 u5 hb5 z5
  have U5 : Up (fun x => x = ob ∨ bb ≤ x) [34, 62] w1 w5 := (up U4).step u5 (fun y _ hy => .inl hy) (fun k hk => by simp at hk; simp [hk])
  refine ⟨U5, ?_⟩
  refine h v4 w5 ((Up.of_ex e1).trans U5) hb5 ?_
  have o5 : Own w5 bb 60 12 v4 _ := o4.up u5 fun _ _ => .inl rfl
  rw [List.map_append]
  exact o5

end Go.Proofs.YtmmpogfbhelioaaGreat
/-
  Contract: a machine as plain data again.
  Conditions: at most 13 members.
-/
namespace Go.Proofs.YtmmpogfbhelioaaGreat
set_option maxRecDepth 10000
set_option linter.unusedVariables false
set_option linter.unusedSimpArgs false
theorem nmK19 {p : Prop} (h : p := by (try simp only [List.getElem?_toArray, List.getElem?_cons_zero, List.getElem?_cons_succ, List.setIfInBounds_toArray, List.set_cons_zero, List.set_cons_succ, List.toList_toArray, List.drop_zero, List.drop_succ_cons, List.take_zero, List.take_succ_cons, Nat.zero_add, Nat.add_zero, Nat.reduceAdd, putCells, Mac.cells, Rf.cells, snCells, En.cells]) <;> rfl) : p := h
theorem goK19 {G H : Prop} (h : H) (s : Stp G H := by (apply Stp.of; intro hS; (first | (refine q_ld bk_ nmK19 ?_) | (refine q_ldU bk_ rfl nmK19 ?_) | (refine q_ldW bk_ (by rfl) ?_) | (refine q_ldWU bk_ rfl (by rfl) ?_) | (refine q_ldP bk_ (Nat.le_of_ble_eq_true rfl) nmK19 ?_) | (refine q_ldPU bk_ rfl (Nat.le_of_ble_eq_true rfl) nmK19 ?_) | (refine q_ext nmK19 ?_) | (refine u_st bk_ (Nat.le_of_ble_eq_true rfl) (by first | rfl | assumption) nmK19 ?_) | (refine u_stA bk_ (Nat.le_of_ble_eq_true rfl) (by rfl) (by rfl) nmK19 ?_) | (refine q_field nmK19 ?_)); exact hS.out)) : G := s.f h
set_option linter.unusedVariables false
set_option linter.unusedSimpArgs false
attribute [local irreducible] Instr.box Instr.alloc Instr.loadAt Instr.storeAt Instr.fieldAt Instr.indexAt Instr.build Instr.buildSlice Instr.makeSlice Instr.makeMap Instr.mapUpdate Instr.lookup Instr.range Instr.next Instr.entry Instr.extract Instr.makeInterface Instr.makeFunc Instr.sliceAt Instr.typeAssert Instr.field Instr.index Builtin.len_ Builtin.cap_ Builtin.max_ Builtin.min_ Builtin.append_ Builtin.copy_ Builtin.delete_ convert binS pickS nilS callV callM Op.unary Own Mp It Cu


variable {K : Value → World → Prop} {w : World} {te : Option Nat}

theorem RM.mt {base b : Nat} {R : Rf} {L : Lg} {ps : Ps} {vo le : List Int} {w' : World} {C : Nat → Prop} {T : List Nat} (o : okT T = true) (hT : (T.contains 189 || T.contains 198 || T.contains 227 || T.contains 214 || T.contains 0 || T.contains 154 || T.contains 232 || T.contains 267) = false) (u : Up C T w w') (r : RM base b R L ps vo le w) : RM base b R L ps vo le w' := by
  simp only [Bool.or_eq_false_iff] at hT
  obtain ⟨⟨⟨⟨⟨⟨⟨h1, h2⟩, h3⟩, h4⟩, h5⟩, h6⟩, h7⟩, h8⟩ := hT
  exact ⟨u.at_ r.bk h1, r.b0, r.lg.mt o h2 h3 h4 u, r.lok, r.pr.up u (.inl h5) (.inl h6) h7, r.vo.up u (.inl h5), r.le.up u (.inl h5), r.vt.up u (.inl h5), r.ro.mt u h8⟩

theorem kvP_keys (ps : Ps) : (kvP ps).map (·.1) = ps.map (·.1) := by simp [kvP]
theorem lk_kvP {ps : Ps} {x : Int} {v : Value} (h : lk (kvP ps) x = some v) : ∃ y ∈ ps, y.1 = x ∧ v = .pointer (some ⟨y.2.1, 0, none⟩) := by
  induction ps with
  | nil => cases h
  | cons y l ih =>
    simp only [kvP, List.map_cons, lk] at h ih
    by_cases hy : y.1 = x
    · rw [if_pos hy] at h
      cases h
      exact ⟨y, List.mem_cons_self .., hy, rfl⟩
    · rw [if_neg hy] at h
      obtain ⟨z, hz, h1, h2⟩ := ih h
      exact ⟨z, List.mem_cons_of_mem _ hz, h1, h2⟩

theorem nodup_len : ∀ {l m : List Int}, l.Nodup → (∀ x ∈ l, x ∈ m) → l.length ≤ m.length
  | [], _, _, _ => Nat.zero_le _
  | x :: l, m, hn, hs => by
    have hn' := List.nodup_cons.1 hn
    have hx := hs x (List.mem_cons_self ..)
    have := nodup_len (l := l) (m := m.erase x) hn'.2 (fun y hy => by
      have hne : y ≠ x := fun e => hn'.1 (e ▸ hy)
      exact (List.mem_erase_of_ne hne).2 (hs y (List.mem_cons_of_mem _ hy)))
    rw [List.length_erase_of_mem hx] at this
    have hpos : 0 < m.length := List.length_pos_of_mem hx
    simp only [List.length_cons]
    omega

theorem putCells_tl : ∀ (l : List Value) (pre : List Value) (cs : Array Value), cs.size = pre.length + l.length → cs.toList.take pre.length = pre → (putCells cs pre.length l).toList = pre ++ l := by
  intro l
  induction l with
  | nil =>
    intro pre cs hs ht
    rw [putCells, List.append_nil, ← ht, List.take_of_length_le]
    simpa using hs ▸ Nat.le_refl _
  | cons x l ih =>
    intro pre cs hs ht
    simp only [List.length_cons] at hs
    have := ih (pre ++ [x]) (cs.setIfInBounds pre.length x) (by simp; omega) (by
      rw [Array.toList_setIfInBounds, List.length_append, List.length_singleton]
      have hl : pre.length < cs.toList.length := by simp; omega
      rw [List.take_add_one, List.take_set, List.getElem?_set_self hl, List.set_eq_of_length_le (by simp; omega), ht]
      rfl)
    simpa [putCells] using this
theorem putCells_all {zs : Array Value} {l : List Value} (h : zs.size = l.length) : putCells zs 0 l = l.toArray := by
  have := putCells_tl l [] zs (by simpa using h) rfl
  exact Array.toList_inj.1 (by simpa using this)

theorem mf_1 {base b : Nat} {R : Rf} {L : Lg} {ps : Ps} {vo le : List Int} {ob rb : Nat} {mo : Mac} {zs : Array Value} {w0 : World} (r : RM base b R L ps vo le w) (ex : Ex w0 w) (hob : w0.heap.size ≤ ob) (hrb : w0.heap.size ≤ rb) (hb : Bk w ob (.cells mo.cells 32 (0, 0))) (hr : Bk w rb (.cells zs 32 (0, 0))) (hzs : zs.size = 32) (hne : ob ≠ rb)
    (hps : ps.length ≤ 13) (hnd : (ps.map (·.1)).Nodup) (hpe : mo.peV = .slice none 0 0) (o1 : one mo.cvV = true ∧ one mo.clV = true ∧ one mo.coV = true ∧ one mo.cnV = true ∧ one mo.stV = true ∧ one mo.frV = true ∧ one mo.voV = true ∧ one mo.leV = true ∧ one mo.vsV = true)
    (h : ∀ (v : Value) (pl : List Pe) (w' : World), Up (fun x => w0.heap.size ≤ x) [34, 62] w w' → Ex w0 w' → Own w' w.heap.size 60 12 v (pl.map Pe.cells) → (pl.map (·.id)).Perm (ps.map (·.1)) → (∀ p ∈ pl, ∃ x ∈ ps, p = peOf x.1 x.2.2) → RM base b R L ps vo le w' → K (.agg { mo with peV := v }.cells) w') :
    t51_1 w (.pointer (some ⟨ob, 0, none⟩)) (.pointer (some ⟨b, 7, none⟩)) (.pointer (some ⟨rb, 0, none⟩)) K := by
  unfold t51_1
  (repeat (first | (refine go ?_; intros) | (refine goK19 ?_; intros)))
  have zw := ex.size
  refine cl_fn (k91 (R := R) (l := kvP ps) r.bk r.pr.mp (by rw [kvP_keys]; exact hnd) (by simpa [kvP] using hps) (C := fun x => x = ob ∨ w.heap.size ≤ x) (T := [34, 62])
    (fun done w' => ∃ (pl : List Pe) (v : Value), pl.map (·.id) = done ∧ pl.length ≤ ps.length ∧ Bk w' ob (.cells { mo with peV := v }.cells 32 (0, 0)) ∧ Bk w' rb (.cells zs 32 (0, 0)) ∧ Own w' w.heap.size 60 12 v (pl.map Pe.cells) ∧ (∀ p ∈ pl, ∃ x ∈ ps, p = peOf x.1 x.2.2) ∧ RM base b R L ps vo le w' ∧ Ex w0 w' ∧ Up (fun x => w0.heap.size ≤ x) [34, 62] w w' ∧ done.Nodup ∧ ∀ x ∈ done, x ∈ ps.map (·.1))
    ?_ ?_ rfl rfl ?_ ?_)
  · intro w' e
    refine ⟨[], .slice none 0 0, rfl, Nat.zero_le _, ?_, e.at_ hr, Own.nil _ _ _ _, (by intro p hp; cases hp), r.ex e, ex.trans e, .of_ex e, List.nodup_nil, (by intro x hx; cases hx)⟩
    have : { mo with peV := .slice none 0 0 } = mo := by rw [← hpe]
    rw [this]
    exact e.at_ hb
  · rintro done w' ⟨pl, v, _, _, _, _, _, _, r', _⟩
    exact ⟨r'.bk, r'.pr.mp⟩
  · rintro done x y w1 K' ⟨pl, v, hd, hl, hb1, hr1, ho1, hp1, r1, ex1, u1, hdn, hdk⟩ hy hx hk
    obtain ⟨z, hz, hzx, rfl⟩ := lk_kvP hy
    have zz := ex1.size
    have hrl := hr.lt
    refine k92 (base := base) (mo := { mo with peV := v }) (pl := pl) (q := z.2.2) (bb := w.heap.size) hb1 (r1.pr.pg z hz) ho1 (by omega) u1.size fun v' w2 u2 hb2 ho2 => ?_
    have u2' : Up (fun x => w0.heap.size ≤ x) [34, 62] w1 w2 := u2.mono (fun y _ hy => by rcases hy with rfl | hy <;> omega) (fun k hk => hk)
    have hdn' : (done ++ [x]).Nodup := by
      rw [List.nodup_append]
      refine ⟨hdn, by simp, ?_⟩
      intro a ha b hb
      rw [List.mem_singleton.1 hb]
      rintro rfl
      exact hx ha
    have hdk' : ∀ y ∈ done ++ [x], y ∈ ps.map (·.1) := by
      intro y hy
      rcases List.mem_append.1 hy with hy | hy
      · exact hdk y hy
      · rw [List.mem_singleton.1 hy, ← hzx]
        exact List.mem_map.2 ⟨z, hz, rfl⟩
    have hlen : (done ++ [x]).length ≤ (ps.map (·.1)).length := nodup_len hdn' hdk'
    refine hk w2 ⟨pl ++ [peOf x z.2.2], v', ?_, ?_, hb2, ?_, ho2, ?_, ?_, ?_, u1.trans u2', hdn', hdk'⟩ u2
    · rw [List.map_append, hd]; rfl
    · simp only [List.length_append, List.length_map, List.length_singleton] at hlen ⊢
      rw [← hd, List.length_map] at hlen
      exact hlen
    · exact u2.off hr1 (by rintro (h | h) <;> omega)
    · intro p hp
      rcases List.mem_append.1 hp with hp | hp
      · exact hp1 p hp
      · rw [List.mem_singleton.1 hp, ← hzx]
        exact ⟨z, hz, rfl⟩
    · exact r1.mt rfl rfl u2'
    · exact ex1.new u2' (fun _ h => h)
  · rintro done w1 ⟨pl, v, hd, hl, hb1, hr1, ho1, hp1, r1, ex1, u1, hdn, hdk⟩ hperm
    refine e_mkmap (by intro v hv; cases hv) fun w2 e2 m2 s2 => ?_
    have r2 := r1.ex e2
    have rb2 := r2.bk
    (repeat (first | (refine go ?_; intros) | (refine goK19 ?_; intros)))
    refine e_range r2.vt fun w3 e3 i3 s3 => ?_
    refine loop_n (α := Unit) (fun _ τ w' => w' = w3) (fun _ => 0) () rfl ?_
    rintro _ τ w' R' rfl hR
    refine e_next i3 (fun _ => ?_) (fun p l1 l2 w2 hrem _ _ _ _ _ => by cases l1 <;> cases hrem)
    (repeat (first | (refine go ?_; intros) | (refine goK19 ?_; intros)))
    refine cl_fn (k88 (o := some w1.heap.size) (l := []) (show Mp _ _ _ from m2.ex e3) (by simp) fun v4 w4 xs e4 hp hs => ?_)
    have hx : xs = [] := List.perm_nil.1 hp
    subst hx
    refine q_lenSl hs ?_
    refine loop_n (α := Unit) (fun _ τ w' => g τ 1 = .int .i64 0 ∧ w' = w4) (fun _ => 0) () ⟨rfl, rfl⟩ ?_
    rintro _ τ' w'' R'' ⟨hj, rfl⟩ hR'
    rw [hj]
    refine q_lss ?_
    refine if_f ?_
    have hb4 : Bk w'' ob _ := e4.at_ (e3.at_ (e2.at_ hb1))
    have hr4 : Bk w'' rb _ := e4.at_ (e3.at_ (e2.at_ hr1))
    refine q_ldW hb4 (by rfl) ?_
    have o4 := ho1.sl.one
    obtain ⟨p1, p2, p3, p4, p5, p6, p7, p8, p9⟩ := o1
    refine u_stA hr4 (by omega) (by rfl) (by simp only [Mac.cells, List.toList_toArray, List.all_cons, List.all_nil, p1, p2, p3, p4, p5, p6, p7, p8, p9, o4]; rfl) (putCells_all (by rw [hzs]; rfl)) fun w5 u5 hb5 z5 => ?_
    refine q_ldW hb5 (by simp; rfl) ?_
    have eW : Ex w1 w'' := (e2.trans e3).trans e4
    have u5' : Up (fun x => w0.heap.size ≤ x) [34, 62] w'' w5 := u5.mono (fun y _ hy => by subst hy; exact hrb) (fun k hk => by simp at hk; simp [hk])
    refine h v pl w5 ((u1.ex eW).trans u5') ((ex1.trans eW).new u5' (fun _ h => h)) ((ho1.ex eW).up u5 fun _ _ => .inl rfl) (hd ▸ (by rw [kvP_keys] at hperm; exact hperm)) hp1 ((r1.ex eW).mt rfl rfl u5')


theorem IsCf.up {v1 v2 v3 v4 : Value} {c : Cf} {C : Nat → Prop} {T : List Nat} {w' : World} (u : Up C T w w') (hT : T.contains 24 = false) (h1 : Sl w (some 22) 1 v1 (nums c.v)) (h2 : Sl w (some 22) 1 v2 (nums c.l)) (h3 : Sl w (some 22) 1 v3 (nums c.o)) (h4 : Sl w (some 22) 1 v4 (nums c.n)) : IsCf w' v1 v2 v3 v4 c :=
  ⟨(h1.typ u hT).any, (h2.typ u hT).any, (h3.typ u hT).any, (h4.typ u hT).any⟩

/-- What the last parts of machineFrom give. -/
def MF1 (wm w0 w : World) (base b : Nat) (R : Rf) (L : Lg) (ps : Ps) (vo le : List Int) (mo : Mac) (K : Value → World → Prop) : Prop :=
  ∀ (v : Value) (pl : List Pe) (w' : World) (c1 c2 c3 c4 : Value), Up (fun x => w0.heap.size ≤ x) [34, 62] w w' → Ex w0 w' → Own w' w.heap.size 60 12 v (pl.map Pe.cells) → (pl.map (·.id)).Perm (ps.map (·.1)) → (∀ p ∈ pl, ∃ x ∈ ps, p = peOf x.1 x.2.2) → RM base b R L ps vo le w' →
    (∀ w'', Up (fun x => wm.heap.size ≤ x) [40, 6, 45] w' w'' → IsCf w'' c1 c2 c3 c4 (L.us.getD mo.base).c) → K (.agg { mo with base := L.us.getD mo.base, cvV := c1, clV := c2, coV := c3, cnV := c4, peV := v }.cells) w'

theorem mf_2 {base b : Nat} {R : Rf} {L : Lg} {ps : Ps} {vo le : List Int} {ob rb : Nat} {mo : Mac} {zs : Array Value} {w0 : World} {vu : Value} (hu : US vu L.us w) (hsm : ∀ s, L.us = some s → CfSm s.c) {wm : World} (em : Ex wm w0) (hcf : IsCf wm mo.cvV mo.clV mo.coV mo.cnV mo.base.c) (r : RM base b R L ps vo le w) (ex : Ex w0 w) (hob : w0.heap.size ≤ ob) (hrb : w0.heap.size ≤ rb) (hb : Bk w ob (.cells mo.cells 32 (0, 0))) (hr : Bk w rb (.cells zs 32 (0, 0))) (hzs : zs.size = 32) (hne : ob ≠ rb)
    (hps : ps.length ≤ 13) (hnd : (ps.map (·.1)).Nodup) (hpe : mo.peV = .slice none 0 0) (o1 : one mo.cvV = true ∧ one mo.clV = true ∧ one mo.coV = true ∧ one mo.cnV = true ∧ one mo.stV = true ∧ one mo.frV = true ∧ one mo.voV = true ∧ one mo.leV = true ∧ one mo.vsV = true)
    (h : MF1 wm w0 w base b R L ps vo le mo K) : t51_2 w vu (.pointer (some ⟨ob, 0, none⟩)) (.pointer (some ⟨b, 7, none⟩)) (.pointer (some ⟨rb, 0, none⟩)) K := by
  unfold t51_2
  cases hus : L.us with
  | none =>
    rw [hus] at hu
    cases (show vu = .pointer none from hu)
    unfold Jo
    (repeat (first | (refine go ?_; intros) | (refine goK19 ?_; intros)))
    refine mf_1 r ex hob hrb hb hr hzs hne hps hnd hpe o1 fun v pl w' u e o p1 p2 r' => ?_
    have := h v pl w' mo.cvV mo.clV mo.coV mo.cnV u e o p1 p2 r' (by rw [hus]; exact fun w'' u'' => hcf.ex ((em.trans e).new u'' (fun _ h => h)))
    rw [hus] at this
    exact this
  | some sn =>
    rw [hus] at hu
    have hu' : PS vu sn w := hu
    obtain ⟨a, hva, _⟩ := US.sh (o := some sn) hu
    have hu2 := hu'
    obtain ⟨ba, _, _, hva2, _⟩ := hu2
    subst hva2
    unfold Jo
    (repeat (first | (refine go ?_; intros) | (refine goK19 ?_; intros)))
    have sm := hsm sn hus
    refine cl_fn (k90 hu' sm.v sm.l sm.o sm.n fun v1 v2 v3 v4 w1 e1 q1 q2 q3 q4 => ?_)
    have hb1 := e1.at_ hb
    have hr1 := e1.at_ hr
    have n1 := q1.sl.one
    have n2 := q2.sl.one
    have n3 := q3.sl.one
    have n4 := q4.sl.one
    (repeat (first | (refine go ?_; intros) | (refine goK19 ?_; intros)))
    refine u_stA hb1 (Nat.le_of_ble_eq_true rfl) (by rfl) (by simp only [snCells, List.toList_toArray, List.all_cons, List.all_nil, n1, n2, n3, n4]; rfl) nmK19 fun w2 u2 hb2' z2 => ?_
    have hb2 : Bk w2 ob (.cells ({ mo with base := sn, cvV := v1, clV := v2, coV := v3, cnV := v4 } : Mac).cells 32 (0, 0)) := hb2'
    have hr2 := u2.off hr1 (fun h => hne h.symm)
    have u2' : Up (fun x => w0.heap.size ≤ x) [34, 62] w1 w2 := u2.mono (fun y _ hy => by subst hy; exact hob) (fun k hk => by simp at hk; simp [hk])
    have e2 : Ex w0 w2 := (ex.trans e1).new u2' (fun _ h => h)
    have z1 := e1.size
    refine mf_1 ((r.ex e1).mt rfl rfl u2') e2 hob hrb hb2 hr2 hzs hne hps hnd hpe ⟨n1, n2, n3, n4, o1.2.2.2.2⟩ fun v pl w' u e o p1 p2 r' => ?_
    have U : Up (fun x => w0.heap.size ≤ x) [34, 62] w w' := ((Up.of_ex e1).trans u2').trans u
    have := h v pl w' v1 v2 v3 v4 U e (o.mono (by omega)) p1 p2 r' (by
      rw [hus]
      have U2 := u2'.trans u
      exact fun w'' u'' => IsCf.up u'' rfl (q1.sl.typ U2 rfl) (q2.sl.typ U2 rfl) (q3.sl.typ U2 rfl) (q4.sl.typ U2 rfl))
    rw [hus] at this
    exact this

theorem mf_3 {base b : Nat} {R : Rf} {L : Lg} {ps : Ps} {vo le : List Int} {ob rb b2 : Nat} {m mo : Mac} {zs : Array Value} {w0 : World} {vu : Value}
    (hm : IsMac w0 m) (hml : m.st.length ≤ 1000) (hb2 : Bk w b2 (.cells m.cells 32 (0, 0))) (hne2 : b2 ≠ ob) (hoff : L.us = none → ∀ e ∈ m.st, e.i < L.off) (hob2 : ob < w.heap.size)
    (hu : US vu L.us w) (hsm : ∀ s, L.us = some s → CfSm s.c) {wm : World} (em : Ex wm w0) (hcf : IsCf wm mo.cvV mo.clV mo.coV mo.cnV mo.base.c) (r : RM base b R L ps vo le w) (ex : Ex w0 w) (hob : w0.heap.size ≤ ob) (hrb : w0.heap.size ≤ rb) (hb : Bk w ob (.cells mo.cells 32 (0, 0))) (hr : Bk w rb (.cells zs 32 (0, 0))) (hzs : zs.size = 32) (hne : ob ≠ rb)
    (hps : ps.length ≤ 13) (hnd : (ps.map (·.1)).Nodup) (hpe : mo.peV = .slice none 0 0) (hst : mo.stV = .slice none 0 0) (o1 : one mo.cvV = true ∧ one mo.clV = true ∧ one mo.coV = true ∧ one mo.cnV = true ∧ one mo.stV = true ∧ one mo.frV = true ∧ one mo.voV = true ∧ one mo.leV = true ∧ one mo.vsV = true)
    (h : ∀ (v : Value) w1, Up (fun x => w0.heap.size ≤ x) [34] w w1 → Sl w1 (some 56) 4 v ((if L.us = none then m.st else []).map En.cells) → MF1 wm w0 w1 base b R L ps vo le { mo with commit := L.cm, applied := L.ap, stV := v } K) :
    t51_3 (.pointer (some ⟨R.lb, 0, none⟩)) w (.pointer (some ⟨ob, 0, none⟩)) (.pointer (some ⟨b2, 0, none⟩)) vu (.int .u64 L.off) (.pointer (some ⟨b, 7, none⟩)) (.pointer (some ⟨rb, 0, none⟩)) K := by
  unfold t51_3
  refine cl_fn (k89 r.lg fun w1 e1 z1 => ?_)
  have hb1 := e1.at_ hb
  (repeat (first | (refine go ?_; intros) | (refine goK19 ?_; intros)))
  rename_i wa ua hba za wb ub hbb zb
  have U : Up (fun x => x = ob) [34] w wb := ((Up.of_ex e1).trans ua).trans ub
  have hbm : Bk wb b2 (.cells m.cells 32 (0, 0)) := U.off hb2 hne2
  clear hb1 hba
  have up' : ∀ {a c : World}, Up (fun x => x = ob) [34] a c → Up (fun x => w0.heap.size ≤ x) [34] a c := fun u => u.mono (fun y _ hy => by subst hy; exact hob) (fun k hk => hk)
  have up2 : ∀ {a c : World}, Up (fun x => x = ob) [34] a c → Up (fun x => w0.heap.size ≤ x) [34, 62] a c := fun u => u.mono (fun y _ hy => by subst hy; exact hob) (fun k hk => by simp at hk; simp [hk])
  have exb : Ex w0 wb := ex.new (up' U) (fun _ h => h)
  have hmb := (hm.ex exb).st
  refine q_lenSl hmb ?_
  rw [List.length_map]
  refine loop_n (α := Nat × Value) (fun a τ w' => g τ 1 = .int .i64 (a.1 : Nat) ∧ a.1 ≤ m.st.length ∧ Up (fun x => x = ob) [34] wb w' ∧ Bk w' ob (.cells ({ mo with commit := L.cm, applied := L.ap, stV := a.2 } : Mac).cells 32 (0, 0)) ∧ Own w' wb.heap.size 56 4 a.2 ((if L.us = none then m.st.take a.1 else []).map En.cells)) (fun a => m.st.length - a.1) (0, .slice none 0 0)
    ⟨rfl, Nat.zero_le _, .refl _ _ _, ?_, ?_⟩ ?_
  · have : ({ mo with commit := L.cm, applied := L.ap, stV := .slice none 0 0 } : Mac) = { mo with commit := L.cm, applied := L.ap } := by rw [← hst]
    rw [this]
    exact hbb
  · have : (if L.us = none then m.st.take 0 else []) = [] := by split <;> rfl
    simp only [this]
    exact Own.nil _ _ _ _
  clear hbb
  rintro ⟨j, v⟩ τ w' R' ⟨hj, hle, u, hbo, ho⟩ hR
  simp only at hj hle hbo ho hR
  rw [hj]
  (repeat (first | (refine go ?_; intros) | (refine goK19 ?_; intros)))
  have zu := u.size
  have zU := U.size
  have exw : Ex w0 w' := exb.new (up' u) (fun _ h => h)
  refine if_split (fun hbj => ?_) (fun hbj => ?_)
  · have hj' : j < m.st.length := by simpa using hbj
    obtain ⟨e, he⟩ : ∃ e, m.st[j]? = some e := ⟨_, List.getElem?_eq_getElem hj'⟩
    refine q_ixa j (hm.ex exw).st rfl (by rw [List.getElem?_map, he]; rfl) fun _ => ?_
    refine e_allocA fun b3 w3 e3 hb3 s3a s3b => ?_
    refine u_stA hb3 (Nat.le_of_ble_eq_true rfl) (by rfl) (by rfl) nmK19 fun w4 u4 hb4 z4 => ?_
    clear hb3
    have ew4 : Ex w' w4 := by exact ex_
    have hbo4 := ew4.at_ hbo
    have ho4 := ho.ex ew4
    clear hbo ho
    have z3 := e3.size
    unfold Jo
    cases hus : L.us with
    | none =>
      rw [hus] at hu
      cases (show vu = .pointer none from hu)
      have hlt := hoff hus e (List.mem_of_getElem? he)
      (repeat (first | (refine go ?_; intros) | (refine goK19 ?_; intros)))
      rw [decide_eq_true hlt]
      (repeat (first | (refine go ?_; intros) | (refine goK19 ?_; intros)))
      simp only [hus, if_true] at ho4
      refine e_push (v := .agg #[.int .u64 e.t, .int .u64 e.i, .int .i64 e.k, .string e.d]) ho4 (by rfl) (by omega) (by
        intro x hx
        have : (Value.agg #[.int .u64 e.t, .int .u64 e.i, .int .i64 e.k, .string e.d]).cells.toList.all one = true := by rfl
        exact List.all_eq_true.1 this x hx) (by simp; omega) (by simp; omega) (by omega) fun s5 v5 w5 u5 ho5 hown5 z5 => ?_
      have lt4 := ho4.lt
      have e5 : Up (fun x => x = ob) [34] wb w5 := (u.ex ew4).new u5 (fun x hx => (lt4 x hx).1)
      have hbo5 : Bk w5 ob (.cells ({ mo with commit := L.cm, applied := L.ap, stV := v } : Mac).cells 32 (0, 0)) := u5.at_ hbo4 rfl
      clear hbo4
      have hv5 := ho5.sl.one
      (repeat (first | (refine go ?_; intros) | (refine goK19 ?_; intros)))
      rename_i w6 u6 hb6 z6
      rw [wrapS (by omega)]
      refine hR (j + 1, v5) _ _ ⟨rfl, by simp; omega, e5.trans u6, hb6, ?_⟩ (by simp; omega)
      have : (if L.us = none then m.st.take (j + 1) else []).map En.cells = (m.st.take j).map En.cells ++ [e.cells] := by
        rw [if_pos hus, take_snoc he, List.map_append]; rfl
      simp only [this]
      exact ho5.up u6 fun _ _ => .inl rfl
    | some sn =>
      have hu2 := hu
      rw [hus] at hu2
      obtain ⟨ba, _, _, hva2, _⟩ := (show PS vu sn w from hu2)
      subst hva2
      (repeat (first | (refine go ?_; intros) | (refine goK19 ?_; intros)))
      rw [wrapS (by omega)]
      have hne0 : ¬ L.us = none := by rw [hus]; intro h; cases h
      refine hR (j + 1, v) _ _ ⟨rfl, by simp; omega, u.ex ew4, hbo4, ?_⟩ (by simp; omega)
      simp only [if_neg hne0] at ho4 ⊢
      exact ho4
  · have hjl : j = m.st.length := by
      have := of_decide_eq_false hbj
      omega
    subst hjl
    have U2 := U.trans u
    have hrl := hr.lt
    have hr' : Bk w' rb (.cells zs 32 (0, 0)) := U2.off hr (fun h => hne h.symm)
    have ho' := ho.sl
    have hv5 := ho'.one
    refine mf_2 (mo := { mo with commit := L.cm, applied := L.ap, stV := v }) (hu.mt rfl U2) hsm em hcf (r.mt rfl rfl U2) exw hob hrb hbo hr' hzs hne hps hnd hpe ⟨o1.1, o1.2.1, o1.2.2.1, o1.2.2.2.1, hv5, o1.2.2.2.2.2⟩ ?_
    refine h v w' (up' U2) ?_
    have : (if L.us = none then m.st.take m.st.length else []) = (if L.us = none then m.st else []) := by rw [List.take_length]
    rw [this] at ho'
    exact ho'

end Go.Proofs.YtmmpogfbhelioaaGreat
/-
  Contract: a machine as plain data again.
  Conditions: at most 13 members.
-/
namespace Go.Proofs.YtmmpogfbhelioaaGreat
set_option maxRecDepth 10000
set_option linter.unusedVariables false
set_option linter.unusedSimpArgs false
theorem nmK20 {p : Prop} (h : p := by (try simp only [List.getElem?_toArray, List.getElem?_cons_zero, List.getElem?_cons_succ, List.setIfInBounds_toArray, List.set_cons_zero, List.set_cons_succ, List.toList_toArray, List.drop_zero, List.drop_succ_cons, List.take_zero, List.take_succ_cons, Nat.zero_add, Nat.add_zero, Nat.reduceAdd, putCells, Mac.cells, Rf.cells]) <;> rfl) : p := h
theorem goK20 {G H : Prop} (h : H) (s : Stp G H := by (apply Stp.of; intro hS; (first | (refine q_ld bk_ nmK20 ?_) | (refine q_ldU bk_ rfl nmK20 ?_) | (refine q_ldW bk_ (by rfl) ?_) | (refine q_ldWU bk_ rfl (by rfl) ?_) | (refine q_ldP bk_ (Nat.le_of_ble_eq_true rfl) nmK20 ?_) | (refine q_ldPU bk_ rfl (Nat.le_of_ble_eq_true rfl) nmK20 ?_) | (refine q_ext nmK20 ?_) | (refine u_st bk_ (Nat.le_of_ble_eq_true rfl) (by first | rfl | assumption) nmK20 ?_) | (refine u_stA bk_ (Nat.le_of_ble_eq_true rfl) (by rfl) (by rfl) nmK20 ?_) | (refine q_field nmK20 ?_)); exact hS.out)) : G := s.f h
set_option linter.unusedVariables false
set_option linter.unusedSimpArgs false
attribute [local irreducible] Instr.box Instr.alloc Instr.loadAt Instr.storeAt Instr.fieldAt Instr.indexAt Instr.build Instr.buildSlice Instr.makeSlice Instr.makeMap Instr.mapUpdate Instr.lookup Instr.range Instr.next Instr.entry Instr.extract Instr.makeInterface Instr.makeFunc Instr.sliceAt Instr.typeAssert Instr.field Instr.index Builtin.len_ Builtin.cap_ Builtin.max_ Builtin.min_ Builtin.append_ Builtin.copy_ Builtin.delete_ convert binS pickS nilS callV callM Op.unary Own Mp It Cu


variable {K : Value → World → Prop} {w : World} {te : Option Nat}

/-- What the machine as plain data says of the one in memory; m is what it was made of. -/
structure MF (m : Mac) (R : Rf) (L : Lg) (ps : Ps) (vo le : List Int) (mo : Mac) : Prop where
  id : mo.id = R.id
  term : mo.term = R.term
  vote : mo.vote = R.vote
  lead : mo.lead = R.lead
  role : mo.role = R.st
  base : mo.base = L.us.getD m.base
  st : mo.st = if L.us = none then m.st else []
  fr : mo.fr = L.un
  commit : mo.commit = L.cm
  vo : mo.vo.Perm vo
  le : mo.le.Perm le
  ids : (mo.pe.map (·.id)).Perm (ps.map (·.1))
  pe : ∀ p ∈ mo.pe, ∃ x ∈ ps, p = peOf x.1 x.2.2
  vs : mo.vs = []

set_option maxHeartbeats 2000000 in
theorem k51 {m : Mac} {base b : Nat} {R : Rf} {L : Lg} {ps : Ps} {vo le : List Int} {wm : World} (hm0 : IsMac wm m) (em : Ex wm w) (r : RM base b R L ps vo le w) (hml : m.st.length ≤ 1000) (hoff : L.us = none → ∀ e ∈ m.st, e.i < L.off) (hst : 0 ≤ R.st ∧ R.st ≤ 3)
    (hkk : ∀ e ∈ L.un, i64 e.k) (hsm : ∀ s, L.us = some s → CfSm s.c) (hps : ps.length ≤ 13) (hnd : (ps.map (·.1)).Nodup) (hvo : vo.length ≤ 13) (hle : le.length ≤ 13)
    (h : ∀ mo w', Ex w w' → MF m R L ps vo le mo → (∀ w'', Up (fun x => wm.heap.size ≤ x) [40, 6, 45] w' w'' → IsMac w'' mo) → K (.agg mo.cells) w') : CK Pr 51 #[.agg m.cells, .pointer (some ⟨b, 0, none⟩)] w K := by
  refine c51 ?_
  unfold t51
  have hm := hm0.ex em
  refine e_boxA fun b2 w1 e1 hb1 s1 s2 => ?_
  refine e_allocA fun rb w2 e2 hb2 s3 s4 => ?_
  refine cl_fn (k81 ((r.ex e1).ex e2).bk fun w3 e3 => ?_)
  refine e_allocA fun sb w4 e4 hb4 s5 s6 => ?_
  refine u_stA hb4 (Nat.le_of_ble_eq_true rfl) (by rfl) (by rfl) nmK20 fun w5 u5 hb5 z5 => ?_
  clear hb4
  have z1 := e1.size
  have z2 := e2.size
  have z3 := e3.size
  have z4 := e4.size
  have e5 : Ex w w5 := ((((e1.trans e2).trans e3).trans e4)).new u5 (by intro x hx; subst hx; omega)
  have r5 := r.ex e5
  refine cl_fn (k82 r5.bk ?_)
  refine cl_fn (k83 ?_)
  refine cl_fn (k85 ?_)
  refine cl_fn (k84 r5.lg fun vu ve qs w6 e6 z6 hu hve hqs => ?_)
  have r6 := r5.ex e6
  have hbm : Bk w6 b2 (.cells m.cells 32 (0, 0)) := e6.at_ (u5.at_ (e4.at_ (e3.at_ (e2.at_ hb1))) rfl)
  have hbr := e6.at_ (u5.at_ (e4.at_ (e3.at_ hb2)) rfl)
  have hbs := e6.at_ hb5
  have ew6 := e5.trans e6
  clear hb1 hb2 hb5 r5
  (repeat (first | (refine go ?_; intros) | (refine goK20 ?_; intros)))
  refine jo_rule (fun J => ∀ ob v1 v2 v3 xs ys w', Ex w6 w' → w6.heap.size ≤ ob → ob < w'.heap.size → Sl w' (some 56) 4 v1 (L.un.map En.cells) → Sl w' (some 22) 1 v2 (nums xs) → Sl w' (some 22) 1 v3 (nums ys) → xs.Perm vo → ys.Perm le →
      Bk w' ob (.cells (Mac.cells ⟨R.id, R.term, R.vote, R.lead, R.st, m.base, m.cvV, m.clV, m.coV, m.cnV, .slice none 0 0, v1, [], L.un, 0, 0, v2, v3, .slice none 0 0, .slice none 0 0, xs, ys, [], [], R.pv, R.cq, R.et, R.ht, R.rt, R.ee, R.he, R.mm, R.mu, R.us, R.tr⟩) 32 (0, 0)) → J (.pointer (some ⟨ob, 0, none⟩)) w') ?_ ?_
  · intro ob v1 v2 v3 xs ys w' ex hob hobl h1 h2 h3 px py hbo
    have o1 := hm.one1
    have n1 := h1.one
    have n2 := h2.one
    have n3 := h3.one
    have zex := ex.size
    refine mf_3 (mo := ⟨R.id, R.term, R.vote, R.lead, R.st, m.base, m.cvV, m.clV, m.coV, m.cnV, .slice none 0 0, v1, [], L.un, 0, 0, v2, v3, .slice none 0 0, .slice none 0 0, xs, ys, [], [], R.pv, R.cq, R.et, R.ht, R.rt, R.ee, R.he, R.mm, R.mu, R.us, R.tr⟩)
      (w0 := w) (b2 := b2) hm hml (ex.at_ hbm) (by omega) hoff hobl (hu.ex ex) hsm em hm0.cf (r6.ex ex) (ew6.trans ex) (by omega) (by omega) hbo (ex.at_ hbr) (by rfl) (by omega) hps hnd rfl rfl ⟨o1.1, o1.2.1, o1.2.2.1, o1.2.2.2.1, rfl, n1, n2, n3, rfl⟩ ?_
    intro v w7 u7 hs7 pv pl w8 c1 c2 c3 c4 u8 e8 ho8 hpi hpp r8 hcf
    refine h ⟨R.id, R.term, R.vote, R.lead, R.st, L.us.getD m.base, c1, c2, c3, c4, v, v1, (if L.us = none then m.st else []), L.un, L.cm, L.ap, v2, v3, pv, .slice none 0 0, xs, ys, pl, [], R.pv, R.cq, R.et, R.ht, R.rt, R.ee, R.he, R.mm, R.mu, R.us, R.tr⟩ w8 e8
      ⟨rfl, rfl, rfl, rfl, rfl, rfl, rfl, rfl, rfl, px, py, hpi, hpp, rfl⟩ ?_
    intro w9 u9
    refine ⟨hcf w9 u9, ((hs7.typ u8 rfl).typ u9 rfl).any, (((h1.typ u7 rfl).typ u8 rfl).typ u9 rfl).any, (((h2.typ u7 rfl).typ u8 rfl).typ u9 rfl).any, (((h3.typ u7 rfl).typ u8 rfl).typ u9 rfl).any, (ho8.sl.typ u9 rfl).any, fun p hp => ?_, .nil _ _⟩
    obtain ⟨x, _, rfl⟩ := hpp p hp
    exact ⟨.nil _ _, .nil _ _⟩
  · intro J hJ
    refine dr_rule No [] fun wA eA zA => ?_
    have hbmA := eA.at_ hbm
    have hbsA := eA.at_ hbs
    have rA := r6.ex eA
    have rbA := rA.bk
    have hveA := hve.ex eA
    have hqsA := hqs.ex eA
    have o1 := hm.one1
    (repeat (first | (refine go ?_; intros) | (refine goK20 ?_; intros)))
    refine q_ia 0 rfl (by omega) ?_
    (repeat (first | (refine go ?_; intros) | (refine goK20 ?_; intros)))
    rw [wrap64 (n := R.st) (by omega) (by omega)]
    have hmvo := rA.vo
    have hmle := rA.le
    have hkv : (ms vo).length ≤ 13 := by simpa [ms] using hvo
    have hkl : (ms le).length ≤ 13 := by simpa [ms] using hle
    have keyv : (ms vo).map (·.1) = vo := by simp [ms, Function.comp_def]
    have keyl : (ms le).map (·.1) = le := by simp [ms, Function.comp_def]
    have hunl := r.lok.un
    have al : ∀ (w' : World) (v1 v2 v3 : Value) xs ys, Ex wA w' → Sl w' (some 56) 4 v1 (L.un.map En.cells) → Sl w' (some 22) 1 v2 (nums xs) → Sl w' (some 22) 1 v3 (nums ys) → xs.Perm vo → ys.Perm le → ∀ ob w2, Ex w' w2 → wA.heap.size ≤ ob → 
      Bk w2 ob (.cells (Mac.cells ⟨R.id, R.term, R.vote, R.lead, R.st, m.base, m.cvV, m.clV, m.coV, m.cnV, .slice none 0 0, v1, [], L.un, 0, 0, v2, v3, .slice none 0 0, .slice none 0 0, xs, ys, [], [], R.pv, R.cq, R.et, R.ht, R.rt, R.ee, R.he, R.mm, R.mu, R.us, R.tr⟩) 32 (0, 0)) → J (.pointer (some ⟨ob, 0, none⟩)) w2 := by
      intro w' v1 v2 v3 xs ys e q1 q2 q3 p1 p2 ob w2 e2 hob hbo
      exact hJ ob v1 v2 v3 xs ys w2 ((eA.trans e).trans e2) (by omega) hbo.lt (q1.ex e2) (q2.ex e2) (q3.ex e2) p1 p2 hbo
    refine ⟨cl_fn (k86 hveA hqsA (by omega) hkk fun v1 wB eB oB => ⟨eB, ⟨cl_fn (k87 (hmvo.ex eB) hkv fun v2 wC xs eC px q2 => ⟨eB.trans eC, ⟨?_, ?_⟩⟩), ?_⟩⟩), ?_⟩
    · have q1 := oB.sl
      have n1 := q1.one
      rw [keyv] at px
      have n2 := q2.one
      have zB := eB.size
      have zC := eC.size
      refine cl_fn (k88 (hmle.ex (eB.trans eC)) hkl fun v3 wP1 ys eP1 py q3 => ⟨(eB.trans eC).trans eP1, ?_⟩)
      rw [keyl] at py
      have n3 := q3.one
      have zz1 := eP1.size
      refine b32_0_1_2_3_4_5_7_10_11_14_15_16_17_18_19_20_21_22_23_24 rfl rfl rfl rfl rfl (by exact n1) (by exact n2) (by exact n3) rfl rfl rfl rfl rfl rfl rfl rfl rfl rfl rfl ?_
      refine e_allocA fun ob wP3 eP3 hb3 sa sb' => ⟨((eB.trans eC).trans eP1).trans eP3, ?_⟩
      have zz3 := eP3.size
      refine u_stA hb3 (Nat.le_of_ble_eq_true rfl) (by rfl) (by simp only [List.all_cons, List.all_nil, o1.1, o1.2.1, o1.2.2.1, o1.2.2.2.1, n1, n2, n3]; rfl) nmK20 fun wF uF hbF zF => ⟨(((eB.trans eC).trans eP1).trans eP3).new uF (by intro x hx; subst hx; have := (((eB.trans eC).trans eP1).trans eP3).size; omega), ?_⟩
      exact al wF v1 v2 v3 xs ys ((((eB.trans eC).trans eP1).trans eP3).new uF (by intro x hx; subst hx; have := (((eB.trans eC).trans eP1).trans eP3).size; omega)) (((((q1.ex eC).ex eP1).ex eP3).typ uF rfl)) (((q2.ex eP1).ex eP3).typ uF rfl) ((q3.ex eP3).typ uF rfl) px py ob wF (.refl _ _ _) (by omega) hbF
    · have q1 := oB.sl
      have n1 := q1.one
      rw [keyv] at px
      have n2 := q2.one
      have zB := eB.size
      have zC := eC.size
      refine e_allocA fun ob wP1 eP1 hb1 sa sb' => ⟨(eB.trans eC).trans eP1, ?_⟩
      have zz1 := eP1.size
      refine cl_fn (k88 (hmle.ex ((eB.trans eC).trans eP1)) hkl fun v3 wP2 ys eP2 py q3 => ⟨((eB.trans eC).trans eP1).trans eP2, ?_⟩)
      rw [keyl] at py
      have n3 := q3.one
      have hb2 := eP2.at_ hb1
      have zz2 := eP2.size
      refine b32_0_1_2_3_4_5_7_10_11_14_15_16_17_18_19_20_21_22_23_24 rfl rfl rfl rfl rfl (by exact n1) (by exact n2) (by exact n3) rfl rfl rfl rfl rfl rfl rfl rfl rfl rfl rfl ?_
      refine u_stA hb2 (Nat.le_of_ble_eq_true rfl) (by rfl) (by simp only [List.all_cons, List.all_nil, o1.1, o1.2.1, o1.2.2.1, o1.2.2.2.1, n1, n2, n3]; rfl) nmK20 fun wF uF hbF zF => ⟨(((eB.trans eC).trans eP1).trans eP2).new uF (by intro x hx; subst hx; have := (((eB.trans eC).trans eP1).trans eP2).size; omega), ?_⟩
      exact al wF v1 v2 v3 xs ys ((((eB.trans eC).trans eP1).trans eP2).new uF (by intro x hx; subst hx; have := (((eB.trans eC).trans eP1).trans eP2).size; omega)) (((((q1.ex eC).ex eP1).ex eP2).typ uF rfl)) (((q2.ex eP1).ex eP2).typ uF rfl) (q3.typ uF rfl) px py ob wF (.refl _ _ _) (by omega) hbF
    · have q1 := oB.sl
      have n1 := q1.one
      have zB := eB.size
      refine e_allocA fun ob wP1 eP1 hb1 sa sb' => ⟨(eB).trans eP1, ?_⟩
      have zz1 := eP1.size
      refine cl_fn (k87 (hmvo.ex ((eB).trans eP1)) hkv fun v2 wP2 xs eP2 px q2 => ⟨((eB).trans eP1).trans eP2, ?_⟩)
      rw [keyv] at px
      have n2 := q2.one
      have hb2 := eP2.at_ hb1
      have zz2 := eP2.size
      refine cl_fn (k88 (hmle.ex (((eB).trans eP1).trans eP2)) hkl fun v3 wP3 ys eP3 py q3 => ⟨(((eB).trans eP1).trans eP2).trans eP3, ?_⟩)
      rw [keyl] at py
      have n3 := q3.one
      have hb3 := eP3.at_ hb2
      have zz3 := eP3.size
      refine b32_0_1_2_3_4_5_7_10_11_14_15_16_17_18_19_20_21_22_23_24 rfl rfl rfl rfl rfl (by exact n1) (by exact n2) (by exact n3) rfl rfl rfl rfl rfl rfl rfl rfl rfl rfl rfl ?_
      refine u_stA hb3 (Nat.le_of_ble_eq_true rfl) (by rfl) (by simp only [List.all_cons, List.all_nil, o1.1, o1.2.1, o1.2.2.1, o1.2.2.2.1, n1, n2, n3]; rfl) nmK20 fun wF uF hbF zF => ⟨((((eB).trans eP1).trans eP2).trans eP3).new uF (by intro x hx; subst hx; have := ((((eB).trans eP1).trans eP2).trans eP3).size; omega), ?_⟩
      exact al wF v1 v2 v3 xs ys (((((eB).trans eP1).trans eP2).trans eP3).new uF (by intro x hx; subst hx; have := ((((eB).trans eP1).trans eP2).trans eP3).size; omega)) (((((q1.ex eP1).ex eP2).ex eP3).typ uF rfl)) ((q2.ex eP3).typ uF rfl) (q3.typ uF rfl) px py ob wF (.refl _ _ _) (by omega) hbF
    · refine e_allocA fun ob wP1 eP1 hb1 sa sb' => ⟨(Up.refl No [] wA).trans eP1, ?_⟩
      have zz1 := eP1.size
      refine cl_fn (k86 (hveA.ex ((Up.refl No [] wA).trans eP1)) (hqsA.ex ((Up.refl No [] wA).trans eP1)) (by omega) hkk fun v1 wP2 eP2 oP => ⟨((Up.refl No [] wA).trans eP1).trans eP2, ?_⟩)
      have q1 := oP.sl
      have n1 := q1.one
      have hb2 := eP2.at_ hb1
      have zz2 := eP2.size
      refine cl_fn (k87 (hmvo.ex (((Up.refl No [] wA).trans eP1).trans eP2)) hkv fun v2 wP3 xs eP3 px q2 => ⟨(((Up.refl No [] wA).trans eP1).trans eP2).trans eP3, ?_⟩)
      rw [keyv] at px
      have n2 := q2.one
      have hb3 := eP3.at_ hb2
      have zz3 := eP3.size
      refine cl_fn (k88 (hmle.ex ((((Up.refl No [] wA).trans eP1).trans eP2).trans eP3)) hkl fun v3 wP4 ys eP4 py q3 => ⟨((((Up.refl No [] wA).trans eP1).trans eP2).trans eP3).trans eP4, ?_⟩)
      rw [keyl] at py
      have n3 := q3.one
      have hb4 := eP4.at_ hb3
      have zz4 := eP4.size
      refine b32_0_1_2_3_4_5_7_10_11_14_15_16_17_18_19_20_21_22_23_24 rfl rfl rfl rfl rfl (by exact n1) (by exact n2) (by exact n3) rfl rfl rfl rfl rfl rfl rfl rfl rfl rfl rfl ?_
      refine u_stA hb4 (Nat.le_of_ble_eq_true rfl) (by rfl) (by simp only [List.all_cons, List.all_nil, o1.1, o1.2.1, o1.2.2.1, o1.2.2.2.1, n1, n2, n3]; rfl) nmK20 fun wF uF hbF zF => ⟨(((((Up.refl No [] wA).trans eP1).trans eP2).trans eP3).trans eP4).new uF (by intro x hx; subst hx; have := (((((Up.refl No [] wA).trans eP1).trans eP2).trans eP3).trans eP4).size; omega), ?_⟩
      exact al wF v1 v2 v3 xs ys ((((((Up.refl No [] wA).trans eP1).trans eP2).trans eP3).trans eP4).new uF (by intro x hx; subst hx; have := (((((Up.refl No [] wA).trans eP1).trans eP2).trans eP3).trans eP4).size; omega)) (((q1.ex eP3).ex eP4).typ uF rfl) ((q2.ex eP4).typ uF rfl) (q3.typ uF rfl) px py ob wF (.refl _ _ _) (by omega) hbF

end Go.Proofs.YtmmpogfbhelioaaGreat
/-
  Contracts: the machine is set back.
  Conditions: each one's own.
-/
namespace Go.Proofs.YtmmpogfbhelioaaGreat
set_option maxRecDepth 10000
set_option linter.unusedVariables false
set_option linter.unusedSimpArgs false
theorem nmK21 {p : Prop} (h : p := by (try simp only [List.getElem?_toArray, List.getElem?_cons_zero, List.getElem?_cons_succ, List.setIfInBounds_toArray, List.set_cons_zero, List.set_cons_succ, List.toList_toArray, List.drop_zero, List.drop_succ_cons, List.take_zero, List.take_succ_cons, Nat.zero_add, Nat.add_zero, Nat.reduceAdd, putCells, Rf.cells, Pg.cells]) <;> rfl) : p := h
theorem goK21 {G H : Prop} (h : H) (s : Stp G H := by (apply Stp.of; intro hS; (first | (refine q_ld bk_ nmK21 ?_) | (refine q_ldU bk_ rfl nmK21 ?_) | (refine q_ldW bk_ (by rfl) ?_) | (refine q_ldWU bk_ rfl (by rfl) ?_) | (refine q_ldP bk_ (Nat.le_of_ble_eq_true rfl) nmK21 ?_) | (refine q_ldPU bk_ rfl (Nat.le_of_ble_eq_true rfl) nmK21 ?_) | (refine q_ext nmK21 ?_) | (refine u_st bk_ (Nat.le_of_ble_eq_true rfl) (by first | rfl | assumption) nmK21 ?_) | (refine u_stA bk_ (Nat.le_of_ble_eq_true rfl) (by rfl) (by rfl) nmK21 ?_) | (refine q_field nmK21 ?_)); exact hS.out)) : G := s.f h
set_option linter.unusedVariables false
set_option linter.unusedSimpArgs false
attribute [local irreducible] Instr.box Instr.alloc Instr.loadAt Instr.storeAt Instr.fieldAt Instr.indexAt Instr.build Instr.buildSlice Instr.makeSlice Instr.makeMap Instr.mapUpdate Instr.lookup Instr.range Instr.next Instr.entry Instr.extract Instr.makeInterface Instr.makeFunc Instr.sliceAt Instr.typeAssert Instr.field Instr.index Builtin.len_ Builtin.cap_ Builtin.max_ Builtin.min_ Builtin.append_ Builtin.copy_ Builtin.delete_ convert binS pickS nilS callV callM Op.unary Own Mp It Cu


variable {K : Value → World → Prop} {w : World} {te : Option Nat}

/-- A drawn region that keeps more than its world's blocks. -/
theorem dr_ruleG (C : Nat → Prop) (T : List Nat) (G : World → Prop) {F : (World → Prop) → World → Prop} (hG : ∀ w1, Ex w w1 → G w1) (h : ∀ w1, Ex w w1 → w1.heap.size = w.heap.size → F (fun x => Up C T w1 x ∧ G x) w1) : Dr w F :=
  .mk (fun x => Up C T w.drew x ∧ G x) ⟨Up.refl _ _ _, hG _ (Up.drew _ _ _)⟩ (h _ (Up.drew _ _ _) rfl)
theorem q_ldG {P : Program} {G : World → Prop} {K : Value → Prop} {C : Nat → Prop} {T : List Nat} {t b o : Nat} {cs : Array Value} {et : TypeId} {fz : Nat × Nat} {x : Value} [TCell P t] (hb : Bk w b (.cells cs et fz)) (hT : T.contains (et + 2) = false) (hx : cs[o]? = some x) (k : K x) :
    Qu P (fun x => Up C T w x ∧ G x) (Instr.loadAt t (.pointer (some ⟨b, o, none⟩))) K := q_ldS (fun w' s => s.1.at_ hb hT) hx k
theorem q_ldX {P : Program} {S : World → Prop} {K : Value → Prop} {t b o : Nat} {x : Value} [TCell P t] (hb : ∀ w, S w → ∃ cs et fz, Bk w b (.cells cs et fz) ∧ cs[o]? = some x) (k : K x) : Qu P S (Instr.loadAt t (.pointer (some ⟨b, o, none⟩))) K := by
  refine .mk x (fun w' hw => ?_) k
  obtain ⟨cs, et, fz, h1, h2⟩ := hb w' hw
  simp only [Instr.loadAt, Instr.sureAddr]
  refine run_loadVar_cell ?_
  rw [h1.cell]; exact h2

theorem k116 {base b : Nat} {R : Rf} (hb : Bk w b (.cells R.cells 187 (0, 0))) (h : ∀ vt w', Up (fun x => x = b) [189] w w' → w.heap.size ≤ vt → Mp w' vt [] → Bk w' b (.cells { R with vt := vt }.cells 187 (0, 0)) → K (.tuple #[]) w') : CK Pr 116 #[.pointer (some ⟨b, 7, none⟩)] w K := by
  refine c116 ?_
  unfold t116
  refine e_mkmap (by intro v hv; cases hv) fun w1 e1 m1 s1 => ?_
  have hb1 := e1.at_ hb
  (repeat (first | (refine go ?_; intros) | (refine goK21 ?_; intros)))
  rename_i w2 u2 hb2 z2
  exact h w.heap.size w2 ((Up.of_ex e1).trans u2) (Nat.le_refl _) (m1.up u2 (.inl rfl)) hb2

theorem k166 {b : Nat} {R : Rf} (hb : Bk w b (.cells R.cells 187 (0, 0))) (h : ∀ w', Up (fun x => x = b) [189] w w' → Bk w' b (.cells { R with tr := 0 }.cells 187 (0, 0)) → K (.tuple #[]) w') : CK Pr 166 #[.pointer (some ⟨b, 0, none⟩)] w K := by
  refine c166 ?_
  unfold t166
  (repeat (first | (refine go ?_; intros) | (refine goK21 ?_; intros)))
  rename_i w2 u2 hb2 z2
  exact h w2 u2 hb2

theorem k241 {b : Nat} {R : Rf} {n : Int} (hb : Bk w b (.cells R.cells 187 (0, 0))) (h : K (.int .i64 0) w) : CK Pr 241 #[.pointer (some ⟨b, 0, none⟩), .int .i64 n] w K := by
  refine c241 ?_
  unfold t241
  (repeat (first | (refine go ?_; intros) | (refine goK21 ?_; intros)))
  exact h

theorem k170 {b : Nat} {R : Rf} (hb : Bk w b (.cells R.cells 187 (0, 0))) (he : i64 R.et) (h : ∀ w', Up (fun x => x = b) [189] w w' → Bk w' b (.cells { R with rt := R.et }.cells 187 (0, 0)) → K (.tuple #[]) w') : CK Pr 170 #[.pointer (some ⟨b, 0, none⟩)] w K := by
  refine c170 ?_
  unfold t170
  refine dr_ruleG (fun x => x = b) [189] (fun x => ∃ cs et fz, Bk x b (.cells cs et fz) ∧ cs[31]? = some (.int .i64 R.et)) (fun w1 e => ⟨_, _, _, e.at_ hb, rfl⟩) fun w1 e1 z1 => ?_
  have hb1 := e1.at_ hb
  have hG : ∃ cs et fz, Bk w1 b (.cells cs et fz) ∧ cs[31]? = some (.int .i64 R.et) := ⟨_, _, _, hb1, rfl⟩
  (repeat (first | (refine go ?_; intros) | (refine goK21 ?_; intros)))
  refine q_ldX (fun w' s => s.2) ?_
  (repeat (first | (refine go ?_; intros) | (refine goK21 ?_; intros)))
  refine q_ldX (fun w' s => s.2) ?_
  refine cl_fn (k241 hb1 ⟨⟨.refl _ _ _, hG⟩, ?_⟩)
  (repeat (first | (refine go ?_; intros) | (refine goK21 ?_; intros)))
  rename_i w2 u2 hb2 z2
  rw [show IntKind.i64.wrap (R.et + 0) = R.et by rw [show R.et + 0 = R.et by omega, wrap64 he.1 he.2]] at hb2
  exact ⟨⟨u2, _, _, _, hb2, rfl⟩, h w2 ((Up.of_ex e1).trans u2) hb2⟩

/-- A progress that is set back. -/
def nq (id : Int) (last mi mb : Int) (x : Int × Nat × Pg) : Int × Nat × Pg := (x.1, x.2.1, ⟨if x.1 = id then last else 0, last + 1, 0, 0, 0, false, false, x.2.2.le, mi, mb⟩)
def rs (id last mi mb : Int) (done : List Int) (ps : Ps) : Ps := ps.map fun x => if x.1 ∈ done then nq id last mi mb x else x
theorem rs_kv {id last mi mb : Int} {done : List Int} {ps : Ps} : kvP (rs id last mi mb done ps) = kvP ps := by
  simp only [kvP, rs, List.map_map]
  apply List.map_congr_left
  intro x _
  simp only [Function.comp_def]
  split <;> rfl
theorem rs_keys {id last mi mb : Int} {done : List Int} {ps : Ps} : (rs id last mi mb done ps).map (·.1) = ps.map (·.1) := by
  simp only [rs, List.map_map]
  apply List.map_congr_left
  intro x _
  simp only [Function.comp_def]
  split <;> rfl
theorem rs_blocks {id last mi mb : Int} {done : List Int} {ps : Ps} : (rs id last mi mb done ps).map (·.2.1) = ps.map (·.2.1) := by
  simp only [rs, List.map_map]
  apply List.map_congr_left
  intro x _
  simp only [Function.comp_def]
  split <;> rfl

theorem k171 {base pb b vb : Nat} {R : Rf} {L : Lg} {ps : Ps} {vo le : List Int} {q : Pg} {id : Int} (r : RM base b R L ps vo le w) (hv : Bk w vb (.cells #[.pointer (some ⟨b, 0, none⟩)] 73 (0, 0))) (hp : PG base pb q w)
    (h : ∀ w', Up (fun x => x = L.sb ∨ x = pb) [227, 154] w w' → LG base R.lb L w' → PG base pb ⟨if id = R.id then L.last else 0, L.last + 1, 0, 0, 0, false, false, q.le, R.mi, R.mb⟩ w' → K (.tuple #[]) w') :
    CK Pr 171 #[.int .u64 id, .pointer (some ⟨pb, 0, none⟩), .pointer (some ⟨vb, 0, none⟩)] w K := by
  refine c171 ?_
  unfold t171
  obtain ⟨hb0, ib, hib, hpb, hinf⟩ := hp
  refine dr_ruleG (fun x => x = L.sb ∨ x = pb) [227, 154] (fun x => ∃ cs et fz, Bk x pb (.cells cs et fz) ∧ cs[8]? = some (.bool q.le)) (fun w1 e => ⟨_, _, _, e.at_ hpb, rfl⟩) fun w1 e1 z1 => ?_
  have r1 := r.ex e1
  have rb1 := r1.bk
  have hv1 := e1.at_ hv
  have hp1 := e1.at_ hpb
  (repeat (first | (refine go ?_; intros) | (refine goK21 ?_; intros) | refine q_ldG bk_ rfl nmK21 ?_ | refine q_ldGW bk_ rfl (by rfl) ?_))
  have hmono : ∀ {a c : World}, Up (fun x => x = L.sb) [227] a c → Up (fun x => x = L.sb ∨ x = pb) [227, 154] a c := fun u => u.mono (fun _ _ h => .inl h) (fun k hk => by simp at hk; simp [hk])
  have hmono2 : ∀ {a c : World}, Up (fun x => x = pb) [154] a c → Up (fun x => x = L.sb ∨ x = pb) [227, 154] a c := fun u => u.mono (fun _ _ h => .inr h) (fun k hk => by simp at hk; simp [hk])
  refine cl_fn (k104 r1.lg r1.lok fun w2 u2 z2 lg2 => ⟨⟨hmono u2, _, _, _, u2.at_ hp1 rfl, rfl⟩, ?_⟩)
  have hp2 := u2.at_ hp1 rfl
  have rb2 := u2.at_ rb1 rfl
  have hv2 := u2.at_ hv1 rfl
  (repeat (first | (refine go ?_; intros) | (refine goK21 ?_; intros) | refine q_ldG bk_ rfl nmK21 ?_ | refine q_ldGW bk_ rfl (by rfl) ?_))
  have hlast := r.lok.last
  rw [wrapU (n := L.last + 1) (by omega) (by omega)]
  (repeat (first | (refine go ?_; intros) | (refine goK21 ?_; intros) | refine q_ldG bk_ rfl nmK21 ?_ | refine q_ldGW bk_ rfl (by rfl) ?_))
  refine cl_fn (k78 fun ib3 w3 e3 s3 hinf3 => ⟨⟨(hmono u2).ex e3, _, _, _, e3.at_ hp2, rfl⟩, ?_⟩)
  have hp3 := e3.at_ hp2
  have rb3 := e3.at_ rb2
  have hv3 := e3.at_ hv2
  (repeat (first | (refine go ?_; intros) | (refine goK21 ?_; intros) | refine q_ldG bk_ rfl nmK21 ?_ | refine q_ldGW bk_ rfl (by rfl) ?_))
  refine q_ldX (fun w' s => s.2) ?_
  (repeat (first | (refine go ?_; intros) | (refine goK21 ?_; intros) | refine b152_0_1_7_8 (by first | rfl | assumption) (by first | rfl | assumption) (by first | rfl | assumption) (by first | rfl | assumption) ?_))
  rename_i w4 u4 hb4 z4
  have U4 : Up (fun x => x = L.sb ∨ x = pb) [227, 154] w1 w4 := ((hmono u2).ex e3).trans (hmono2 u4)
  refine ⟨⟨U4, _, _, _, hb4, rfl⟩, ?_⟩
  have rb4 := u4.at_ rb3 rfl
  have hv4 := u4.at_ hv3 rfl
  have lg4 : LG base R.lb L w4 := (lg2.ex e3).mt rfl rfl rfl rfl u4
  have hinf4 : Inf ib3 R.mi R.mb w4 := u4.at_ hinf3 rfl
  clear hp1 hp2 hp3 rb1 rb2 rb3 hv1 hv2 hv3
  have z0 := e1.size
  have hbase : base ≤ ib3 := by
    have := r1.pr.mp.lt
    have := r1.pr.b0
    have := u2.size
    omega
  (repeat (first | (refine go ?_; intros) | (refine goK21 ?_; intros)))
  unfold Jo
  have heq : (id == R.id) = decide (id = R.id) := by by_cases h : id = R.id <;> simp [h]
  rw [heq]
  refine if_split (fun hid => ?_) (fun hid => ?_)
  · have hid := of_decide_eq_true hid
    (repeat (first | (refine go ?_; intros) | (refine goK21 ?_; intros)))
    refine cl_fn (k104 lg4 r.lok fun w5 u5 z5 lg5 => ?_)
    have hb5 := u5.at_ hb4 rfl
    (repeat (first | (refine go ?_; intros) | (refine goK21 ?_; intros)))
    rename_i w6 u6 hb6 z6
    refine h w6 (((Up.of_ex e1).trans U4).trans ((hmono u5).trans (hmono2 u6))) (lg5.mt rfl rfl rfl rfl u6) ⟨hb0, ib3, hbase, ?_, u6.at_ (u5.at_ hinf4 rfl) rfl⟩
    rw [if_pos hid]
    exact hb6
  · have hid := of_decide_eq_false hid
    refine h w4 ((Up.of_ex e1).trans U4) lg4 ⟨hb0, ib3, hbase, ?_, hinf4⟩
    rw [if_neg hid]
    exact hb4

end Go.Proofs.YtmmpogfbhelioaaGreat
/-
  Contracts: the machine is set back; it becomes a follower, a candidate, a candidate ahead of the vote.
  Conditions: each one's own.
-/
namespace Go.Proofs.YtmmpogfbhelioaaGreat
set_option maxRecDepth 10000
set_option linter.unusedVariables false
set_option linter.unusedSimpArgs false
theorem nmK22 {p : Prop} (h : p := by (try simp only [List.getElem?_toArray, List.getElem?_cons_zero, List.getElem?_cons_succ, List.setIfInBounds_toArray, List.set_cons_zero, List.set_cons_succ, List.toList_toArray, List.drop_zero, List.drop_succ_cons, List.take_zero, List.take_succ_cons, Nat.zero_add, Nat.add_zero, Nat.reduceAdd, putCells, Rf.cells]) <;> rfl) : p := h
theorem goK22 {G H : Prop} (h : H) (s : Stp G H := by (apply Stp.of; intro hS; (first | (refine q_ld bk_ nmK22 ?_) | (refine q_ldU bk_ rfl nmK22 ?_) | (refine q_ldW bk_ (by rfl) ?_) | (refine q_ldWU bk_ rfl (by rfl) ?_) | (refine q_ldP bk_ (Nat.le_of_ble_eq_true rfl) nmK22 ?_) | (refine q_ldPU bk_ rfl (Nat.le_of_ble_eq_true rfl) nmK22 ?_) | (refine q_ext nmK22 ?_) | (refine u_st bk_ (Nat.le_of_ble_eq_true rfl) (by first | rfl | assumption) nmK22 ?_) | (refine u_stA bk_ (Nat.le_of_ble_eq_true rfl) (by rfl) (by rfl) nmK22 ?_) | (refine q_field nmK22 ?_)); exact hS.out)) : G := s.f h
set_option linter.unusedVariables false
set_option linter.unusedSimpArgs false
attribute [local irreducible] Instr.box Instr.alloc Instr.loadAt Instr.storeAt Instr.fieldAt Instr.indexAt Instr.build Instr.buildSlice Instr.makeSlice Instr.makeMap Instr.mapUpdate Instr.lookup Instr.range Instr.next Instr.entry Instr.extract Instr.makeInterface Instr.makeFunc Instr.sliceAt Instr.typeAssert Instr.field Instr.index Builtin.len_ Builtin.cap_ Builtin.max_ Builtin.min_ Builtin.append_ Builtin.copy_ Builtin.delete_ convert binS pickS nilS callV callM Op.unary Own Mp It Cu


variable {K : Value → World → Prop} {w : World} {te : Option Nat}

theorem nodup_inj {α β : Type} {f : α → β} {l : List α} (hn : (l.map f).Nodup) {x y : α} (hx : x ∈ l) (hy : y ∈ l) (h : f x = f y) : x = y := by
  induction l with
  | nil => cases hx
  | cons a l ih =>
    rw [List.map_cons, List.nodup_cons] at hn
    rcases List.mem_cons.1 hx with hx | hx <;> rcases List.mem_cons.1 hy with hy | hy
    · rw [hx, hy]
    · exact absurd (List.mem_map.2 ⟨y, hy, by rw [← h, hx]⟩) hn.1
    · exact absurd (List.mem_map.2 ⟨x, hx, by rw [h, hy]⟩) hn.1
    · exact ih hn.2 hx hy

theorem LG.sbk {base lb : Nat} {L : Lg} (h : LG base lb L w) : ∃ cs, Bk w L.sb (.cells cs 225 (0, 0)) := by
  obtain ⟨_, _, _, _, _, h2, _⟩ := h
  obtain ⟨_, _, _, _, _, _, _, _, _, h1, _⟩ := h2
  exact ⟨_, h1⟩
theorem LG.b1 {base lb : Nat} {L : Lg} (h : LG base lb L w) : base ≤ L.sb ∧ base ≤ lb := by
  obtain ⟨_, _, _, _, _, _, _, _, _, _, _, h8, h9, _⟩ := h
  exact ⟨h9, h8⟩

/-- A field of the machine that is no pointer turned. -/
theorem RM.put {base b : Nat} {R R' : Rf} {L : Lg} {ps : Ps} {vo le : List Int} {w' : World} (r : RM base b R L ps vo le w) (u : Up (fun x => x = b) [189] w w') (hb : Bk w' b (.cells R'.cells 187 (0, 0)))
    (h : R'.lb = R.lb ∧ R'.pm = R.pm ∧ R'.vb = R.vb ∧ R'.lm = R.lm ∧ R'.vt = R.vt ∧ R'.ro = R.ro) : RM base b R' L ps vo le w' := by
  obtain ⟨h1, h2, h3, h4, h5, h6⟩ := h
  refine ⟨hb, r.b0, ?_, r.lok, ?_, ?_, ?_, ?_, ?_⟩
  · rw [h1]; exact r.lg.mt rfl rfl rfl rfl u
  · rw [h2]; exact r.pr.up u (.inl rfl) (.inl rfl) rfl
  · rw [h3]; exact r.vo.up u (.inl rfl)
  · rw [h4]; exact r.le.up u (.inl rfl)
  · rw [h5]; exact r.vt.up u (.inl rfl)
  · rw [h6]; exact r.ro.mt u rfl

theorem rs_congr {id last mi mb : Int} {d d' : List Int} {ps : Ps} (h : ∀ x, x ∈ d ↔ x ∈ d') : rs id last mi mb d ps = rs id last mi mb d' ps := by
  simp only [rs]
  apply List.map_congr_left
  intro x _
  by_cases hx : x.1 ∈ d
  · rw [if_pos hx, if_pos ((h _).1 hx)]
  · rw [if_neg hx, if_neg (fun h' => hx ((h _).2 h'))]
theorem rs_nil {id last mi mb : Int} {ps : Ps} : rs id last mi mb [] ps = ps := by
  simp [rs]
theorem rs_in {id last mi mb : Int} {d : List Int} {ps : Ps} {z : Int × Nat × Pg} (hz : z ∈ ps) (hd : z.1 ∉ d) : z ∈ rs id last mi mb d ps := by
  refine List.mem_map.2 ⟨z, hz, ?_⟩
  rw [if_neg hd]
theorem rs_mem {id last mi mb : Int} {d : List Int} {ps : Ps} {y : Int × Nat × Pg} (h : y ∈ rs id last mi mb d ps) : ∃ z ∈ ps, y = if z.1 ∈ d then nq id last mi mb z else z := by
  obtain ⟨z, hz, rfl⟩ := List.mem_map.1 h
  exact ⟨z, hz, rfl⟩

theorem rset_1 {base b vb : Nat} {R : Rf} {L : Lg} {ps : Ps} {vo le : List Int} (r : RM base b R L ps vo le w) (hv : Bk w vb (.cells #[.pointer (some ⟨b, 0, none⟩)] 73 (0, 0))) (he : i64 R.et) (hps : ps.length ≤ 13) (hnd : (ps.map (·.1)).Nodup)
    (h : ∀ vt ro w', Up (fun x => base ≤ x) [189, 227, 154] w w' → RM base b { R with lead := 0, ee := 0, he := 0, rt := R.et, tr := 0, vt := vt, pc := 0, us := 0, ro := ro } L (rs R.id L.last R.mi R.mb (ps.map (·.1)) ps) vo le w' → K (.tuple #[]) w') :
    t109_1 w (.pointer (some ⟨vb, 0, none⟩)) K := by
  unfold t109_1
  have rb := r.bk
  have hb0 := r.b0
  (repeat (first | (refine go ?_; intros) | (refine goK22 ?_; intros)))
  rename_i w1 u1 hb1 z1
  have hv1 := u1.at_ hv rfl
  (repeat (first | (refine go ?_; intros) | (refine goK22 ?_; intros)))
  rename_i w2 u2 hb2 z2
  have hv2 := u2.at_ hv1 rfl
  (repeat (first | (refine go ?_; intros) | (refine goK22 ?_; intros)))
  rename_i w3 u3 hb3 z3
  have U3 : Up (fun x => x = b) [189] w w3 := (u1.trans u2).trans u3
  have r3 : RM base b { R with lead := 0, ee := 0, he := 0 } L ps vo le w3 := r.put U3 hb3 ⟨rfl, rfl, rfl, rfl, rfl, rfl⟩
  have hv3 := u3.at_ hv2 rfl
  (repeat (first | (refine go ?_; intros) | (refine goK22 ?_; intros)))
  clear rb hv hv1 hv2 hb1 hb2 hb3
  refine cl_fn (k170 (R := { R with lead := 0, ee := 0, he := 0 }) r3.bk he fun w4 u4 hb4 => ?_)
  have r4 : RM base b { R with lead := 0, ee := 0, he := 0, rt := R.et } L ps vo le w4 := r3.put u4 hb4 ⟨rfl, rfl, rfl, rfl, rfl, rfl⟩
  have hv4 := u4.at_ hv3 rfl
  clear hv3 hb4
  (repeat (first | (refine go ?_; intros) | (refine goK22 ?_; intros)))
  refine cl_fn (k166 (R := { R with lead := 0, ee := 0, he := 0, rt := R.et }) r4.bk fun w5 u5 hb5 => ?_)
  have r5 : RM base b { R with lead := 0, ee := 0, he := 0, rt := R.et, tr := 0 } L ps vo le w5 := r4.put u5 hb5 ⟨rfl, rfl, rfl, rfl, rfl, rfl⟩
  have hv5 := u5.at_ hv4 rfl
  clear hv4 hb5
  (repeat (first | (refine go ?_; intros) | (refine goK22 ?_; intros)))
  refine cl_fn (k116 (base := base) (R := { R with lead := 0, ee := 0, he := 0, rt := R.et, tr := 0 }) r5.bk fun vt w6 u6 hvt mvt hb6 => ?_)
  have r6 : RM base b { R with lead := 0, ee := 0, he := 0, rt := R.et, tr := 0, vt := vt } L ps vo le w6 :=
    ⟨hb6, hb0, r5.lg.mt rfl rfl rfl rfl u6, r5.lok, r5.pr.up u6 (.inl rfl) (.inl rfl) rfl, r5.vo.up u6 (.inl rfl), r5.le.up u6 (.inl rfl), mvt, r5.ro.mt u6 rfl⟩
  have hv6 := u6.at_ hv5 rfl
  clear hv5 hb6
  have U6 : Up (fun x => x = b) [189] w w6 := (((U3.trans u4).trans u5).trans u6)
  (repeat (first | (refine go ?_; intros) | (refine goK22 ?_; intros)))
  refine cl_fn (k91 (R := { R with lead := 0, ee := 0, he := 0, rt := R.et, tr := 0, vt := vt }) (l := kvP ps) r6.bk r6.pr.mp (by rw [kvP_keys]; exact hnd) (by simpa [kvP] using hps) (C := fun x => base ≤ x) (T := [227, 154])
    (fun done w' => RM base b { R with lead := 0, ee := 0, he := 0, rt := R.et, tr := 0, vt := vt } L (rs R.id L.last R.mi R.mb done ps) vo le w' ∧ Bk w' vb (.cells #[.pointer (some ⟨b, 0, none⟩)] 73 (0, 0)) ∧ Up (fun x => base ≤ x) [227, 154] w6 w') ?_ ?_ rfl rfl ?_ ?_)
  · intro w' e
    exact ⟨by rw [rs_nil]; exact r6.ex e, e.at_ hv6, .of_ex e⟩
  · rintro done w' ⟨r', _, _⟩
    refine ⟨r'.bk, ?_⟩
    have := r'.pr.mp
    rw [rs_kv] at this
    exact this
  · rintro done x y w7 K' ⟨r7, hv7, u7⟩ hy hx hk
    obtain ⟨z, hz, hzx, rfl⟩ := lk_kvP hy
    have hzr : z ∈ rs R.id L.last R.mi R.mb done ps := rs_in hz (by rw [hzx]; exact hx)
    have hpz := r7.pr.pg z hzr
    refine k171 (R := { R with lead := 0, ee := 0, he := 0, rt := R.et, tr := 0, vt := vt }) r7 hv7 hpz fun w8 u8 lg8 pg8 => ?_
    have hsb := r7.lg.b1.1
    have u8' : Up (fun x => base ≤ x) [227, 154] w7 w8 := u8.mono (fun y _ hy => by rcases hy with rfl | rfl; exact hsb; exact hpz.1) (fun k hk => hk)
    refine hk w8 ⟨⟨u8.at_ r7.bk rfl, hb0, lg8, r7.lok, ⟨?_, ?_, ?_, r7.pr.b0⟩, r7.vo.up u8 (.inl rfl), r7.le.up u8 (.inl rfl), r7.vt.up u8 (.inl rfl), r7.ro.mt u8 rfl⟩, u8.at_ hv7 rfl, u7.trans u8'⟩ u8'
    · rw [rs_kv]
      have := r7.pr.mp
      rw [rs_kv] at this
      exact this.up u8 (.inl rfl)
    · rw [rs_blocks]
      have := r7.pr.nd
      rw [rs_blocks] at this
      exact this
    · intro y hy
      obtain ⟨a, ha, rfl⟩ := rs_mem hy
      have hbn := r7.pr.nd
      rw [rs_blocks] at hbn
      by_cases hax : a.1 = x
      · have : a = z := nodup_inj hnd ha hz (by rw [hax, hzx])
        subst this
        rw [if_pos (by rw [hax]; simp)]
        show PG base a.2.1 _ w8
        rw [← hzx] at pg8
        exact pg8
      · have hne : a.2.1 ≠ z.2.1 := fun e => by
          have := nodup_inj hbn ha hz e
          exact hax (this ▸ hzx)
        have hsame : (if a.1 ∈ done ++ [x] then nq R.id L.last R.mi R.mb a else a) = (if a.1 ∈ done then nq R.id L.last R.mi R.mb a else a) := by
          by_cases hd : a.1 ∈ done
          · rw [if_pos hd, if_pos (List.mem_append_left _ hd)]
          · rw [if_neg hd, if_neg (by simp [hd, hax])]
        rw [hsame]
        have hin : (if a.1 ∈ done then nq R.id L.last R.mi R.mb a else a) ∈ rs R.id L.last R.mi R.mb done ps := List.mem_map.2 ⟨a, ha, rfl⟩
        have hpa := r7.pr.pg _ hin
        have hblk : (if a.1 ∈ done then nq R.id L.last R.mi R.mb a else a).2.1 = a.2.1 := by split <;> rfl
        refine hpa.up u8 (.inr ?_) rfl
        rw [hblk]
        rintro (e | e)
        · obtain ⟨cs, hcs⟩ := r7.lg.sbk
          obtain ⟨_, ib, _, hbk, _⟩ := hpa
          rw [hblk, e] at hbk
          have := hcs.one hbk
          simp at this
        · exact hne e
  · rintro done w7 ⟨r7, hv7, u7⟩ hperm
    rw [rs_congr (fun x => hperm.mem_iff), kvP_keys] at r7
    have rb7 := r7.bk
    (repeat (first | (refine go ?_; intros) | (refine goK22 ?_; intros)))
    rename_i w8 u8 hb8 z8
    have hv8 := u8.at_ hv7 rfl
    (repeat (first | (refine go ?_; intros) | (refine goK22 ?_; intros)))
    rename_i w9 u9 hb9 z9
    have U9 : Up (fun x => x = b) [189] w7 w9 := u8.trans u9
    have r9 : RM base b { R with lead := 0, ee := 0, he := 0, rt := R.et, tr := 0, vt := vt, pc := 0, us := 0 } L (rs R.id L.last R.mi R.mb (ps.map (·.1)) ps) vo le w9 := r7.put U9 hb9 ⟨rfl, rfl, rfl, rfl, rfl, rfl⟩
    have hv9 := U9.at_ hv7 rfl
    clear rb7 hb8 hb9 hv7 hv8
    refine dr2_rule No [] (fun x => x = b) [189] fun w10 e10 z10 => ?_
    have r10 := r9.ex e10
    have rb10 := r10.bk
    have hv10 := e10.at_ hv9
    obtain ⟨rdb, hro⟩ := r10.ro
    have hro' : Bk w10 R.ro _ := hro
    (repeat (first | (refine go ?_; intros) | (refine goK22 ?_; intros)))
    refine cl_fn (k127 fun ro rdb2 w11 e11 s11 hro11 => ⟨⟨e11, .of_ex e11⟩, ?_⟩)
    have rb11 := e11.at_ rb10
    have hv11 := e11.at_ hv10
    clear rb10 hv10
    (repeat (first | (refine go ?_; intros) | (refine goK22 ?_; intros)))
    rename_i w12 u12 hb12 z12
    refine ⟨(Up.of_ex e11).trans u12, ?_⟩
    have r11 := r10.ex e11
    have mono1 : ∀ {a c : World}, Up (fun x => x = b) [189] a c → Up (fun x => base ≤ x) [189, 227, 154] a c := fun u => u.mono (fun y _ hy => by subst hy; exact hb0) (fun k hk => by simp at hk; simp [hk])
    have mono2 : ∀ {a c : World}, Up (fun x => base ≤ x) [227, 154] a c → Up (fun x => base ≤ x) [189, 227, 154] a c := fun u => u.mono (fun _ _ h => h) (fun k hk => by simp at hk; rcases hk with rfl | rfl <;> simp)
    refine h vt ro w12 (((((mono1 U6).trans (mono2 u7)).trans (mono1 U9)).ex e10).ex e11 |>.trans (mono1 u12)) ⟨hb12, hb0, ?_, r11.lok, ?_, ?_, ?_, ?_, ?_⟩
    · exact r11.lg.mt rfl rfl rfl rfl u12
    · exact r11.pr.up u12 (.inl rfl) (.inl rfl) rfl
    · exact r11.vo.up u12 (.inl rfl)
    · exact r11.le.up u12 (.inl rfl)
    · exact r11.vt.up u12 (.inl rfl)
    · exact ⟨_, u12.at_ hro11 rfl⟩

/-- What reset leaves. -/
def Rf.back (R : Rf) (t : Int) (vt ro : Nat) : Rf := { R with term := t, vote := if R.term = t then R.vote else 0, lead := 0, ee := 0, he := 0, rt := R.et, tr := 0, vt := vt, pc := 0, us := 0, ro := ro }

theorem k109 {base b : Nat} {R : Rf} {L : Lg} {ps : Ps} {vo le : List Int} {t : Int} (r : RM base b R L ps vo le w) (he : i64 R.et) (hps : ps.length ≤ 13) (hnd : (ps.map (·.1)).Nodup)
    (h : ∀ vt ro w', Up (fun x => base ≤ x) [189, 227, 154] w w' → RM base b (R.back t vt ro) L (rs R.id L.last R.mi R.mb (ps.map (·.1)) ps) vo le w' → K (.tuple #[]) w') :
    CK Pr 109 #[.pointer (some ⟨b, 0, none⟩), .int .u64 t] w K := by
  refine c109 ?_
  unfold t109
  refine e_box1 rfl fun vb w1 e1 hv1 s1 s2 => ?_
  have r1 := r.ex e1
  have rb1 := r1.bk
  have hb0 := r.b0
  have hneq : (R.term == t) = decide (R.term = t) := by by_cases h : R.term = t <;> simp [h]
  (repeat (first | (refine go ?_; intros) | (refine goK22 ?_; intros)))
  unfold Jo
  rw [hneq]
  by_cases hrt : R.term = t
  · rw [decide_eq_true hrt]
    (repeat (first | (refine go ?_; intros) | (refine goK22 ?_; intros)))
    refine rset_1 r1 hv1 he hps hnd fun vt ro w' u r' => h vt ro w' ((Up.of_ex e1).trans u) ?_
    have : R.back t vt ro = { R with lead := 0, ee := 0, he := 0, rt := R.et, tr := 0, vt := vt, pc := 0, us := 0, ro := ro } := by
      unfold Rf.back
      rw [if_pos hrt, ← hrt]
    rw [this]
    exact r'
  · rw [decide_eq_false hrt]
    (repeat (first | (refine go ?_; intros) | (refine goK22 ?_; intros)))
    rename_i w2 u2 hb2 z2
    have hv2 := u2.at_ hv1 rfl
    (repeat (first | (refine go ?_; intros) | (refine goK22 ?_; intros)))
    rename_i w3 u3 hb3 z3
    have U3 : Up (fun x => x = b) [189] w1 w3 := u2.trans u3
    have r3 : RM base b { R with term := t, vote := 0 } L ps vo le w3 := r1.put U3 hb3 ⟨rfl, rfl, rfl, rfl, rfl, rfl⟩
    refine rset_1 (R := { R with term := t, vote := 0 }) r3 (U3.at_ hv1 rfl) he hps hnd fun vt ro w' u r' => h vt ro w' (((Up.of_ex e1).trans (U3.mono (fun y _ hy => by subst hy; exact hb0) (fun k hk => by simp at hk; simp [hk]))).trans u) ?_
    have : R.back t vt ro = { R with term := t, vote := 0, lead := 0, ee := 0, he := 0, rt := R.et, tr := 0, vt := vt, pc := 0, us := 0, ro := ro } := by
      unfold Rf.back
      rw [if_neg hrt]
    rw [this]
    exact r'

end Go.Proofs.YtmmpogfbhelioaaGreat
/-
  Contracts: the machine becomes a follower, a candidate, a candidate ahead of the vote.
  Conditions: each one's own.
-/
namespace Go.Proofs.YtmmpogfbhelioaaGreat
set_option maxRecDepth 10000
set_option linter.unusedVariables false
set_option linter.unusedSimpArgs false
theorem nmK23 {p : Prop} (h : p := by (try simp only [List.getElem?_toArray, List.getElem?_cons_zero, List.getElem?_cons_succ, List.setIfInBounds_toArray, List.set_cons_zero, List.set_cons_succ, List.toList_toArray, List.drop_zero, List.drop_succ_cons, List.take_zero, List.take_succ_cons, Nat.zero_add, Nat.add_zero, Nat.reduceAdd, putCells, Rf.cells]) <;> rfl) : p := h
theorem goK23 {G H : Prop} (h : H) (s : Stp G H := by (apply Stp.of; intro hS; (first | (refine q_ld bk_ nmK23 ?_) | (refine q_ldU bk_ rfl nmK23 ?_) | (refine q_ldW bk_ (by rfl) ?_) | (refine q_ldWU bk_ rfl (by rfl) ?_) | (refine q_ldP bk_ (Nat.le_of_ble_eq_true rfl) nmK23 ?_) | (refine q_ldPU bk_ rfl (Nat.le_of_ble_eq_true rfl) nmK23 ?_) | (refine q_ext nmK23 ?_) | (refine u_st bk_ (Nat.le_of_ble_eq_true rfl) (by first | rfl | assumption) nmK23 ?_) | (refine u_stA bk_ (Nat.le_of_ble_eq_true rfl) (by rfl) (by rfl) nmK23 ?_) | (refine q_field nmK23 ?_)); exact hS.out)) : G := s.f h
set_option linter.unusedVariables false
set_option linter.unusedSimpArgs false
attribute [local irreducible] Instr.box Instr.alloc Instr.loadAt Instr.storeAt Instr.fieldAt Instr.indexAt Instr.build Instr.buildSlice Instr.makeSlice Instr.makeMap Instr.mapUpdate Instr.lookup Instr.range Instr.next Instr.entry Instr.extract Instr.makeInterface Instr.makeFunc Instr.sliceAt Instr.typeAssert Instr.field Instr.index Builtin.len_ Builtin.cap_ Builtin.max_ Builtin.min_ Builtin.append_ Builtin.copy_ Builtin.delete_ convert binS pickS nilS callV callM Op.unary Own Mp It Cu


variable {K : Value → World → Prop} {w : World} {te : Option Nat}

theorem mono1 {base b : Nat} {a c : World} (hb0 : base ≤ b) (u : Up (fun x => x = b) [189] a c) : Up (fun x => base ≤ x) [189, 227, 154] a c := u.mono (fun y _ hy => by subst hy; exact hb0) (fun k hk => by simp at hk; simp [hk])

/-- A machine that became a follower. -/
def Rf.follow (R : Rf) (b : Nat) (t l : Int) (vt ro : Nat) : Rf := { (({ R with step := fn 108 } : Rf).back t vt ro) with tick := .func (.func 110) #[.pointer (some ⟨b, 0, none⟩)] #[], lead := l, st := 0 }

theorem k59 {base b : Nat} {R : Rf} {L : Lg} {ps : Ps} {vo le : List Int} {t l : Int} (r : RM base b R L ps vo le w) (he : i64 R.et) (hps : ps.length ≤ 13) (hnd : (ps.map (·.1)).Nodup)
    (h : ∀ vt ro w', Up (fun x => base ≤ x) [189, 227, 154] w w' → RM base b (R.follow b t l vt ro) L (rs R.id L.last R.mi R.mb (ps.map (·.1)) ps) vo le w' → K (.tuple #[]) w') :
    CK Pr 59 #[.pointer (some ⟨b, 0, none⟩), .int .u64 t, .int .u64 l] w K := by
  refine c59 ?_
  unfold t59
  have rb := r.bk
  have hb0 := r.b0
  (repeat (first | (refine go ?_; intros) | (refine goK23 ?_; intros)))
  rename_i w1 u1 hb1 z1
  have r1 : RM base b { R with step := fn 108 } L ps vo le w1 := r.put u1 hb1 ⟨rfl, rfl, rfl, rfl, rfl, rfl⟩
  clear rb hb1
  refine cl_fn (k109 r1 he hps hnd fun vt ro w2 u2 r2 => ?_)
  have rb2 := r2.bk
  unfold Rf.back at rb2
  (repeat (first | (refine go ?_; intros) | (refine goK23 ?_; intros)))
  rename_i w3 u3 hb3 z3 w4 u4 hb4 z4 w5 u5 hb5 z5
  have U : Up (fun x => x = b) [189] w2 w5 := (u3.trans u4).trans u5
  exact h vt ro w5 (((mono1 hb0 u1).trans u2).trans (mono1 hb0 U)) (r2.put U hb5 ⟨rfl, rfl, rfl, rfl, rfl, rfl⟩)

/-- A machine that became a candidate. -/
def Rf.cand (R : Rf) (b : Nat) (t : Int) (vt ro : Nat) : Rf := { (({ R with step := fn 111 } : Rf).back t vt ro) with tick := .func (.func 110) #[.pointer (some ⟨b, 0, none⟩)] #[], vote := R.id, st := 1 }

theorem k60 {base b : Nat} {R : Rf} {L : Lg} {ps : Ps} {vo le : List Int} (r : RM base b R L ps vo le w) (he : i64 R.et) (hst : R.st ≠ 2) (ht : 0 ≤ R.term ∧ R.term ≤ 1000000000000000) (hps : ps.length ≤ 13) (hnd : (ps.map (·.1)).Nodup)
    (h : ∀ vt ro w', Up (fun x => base ≤ x) [189, 227, 154] w w' → RM base b (R.cand b (R.term + 1) vt ro) L (rs R.id L.last R.mi R.mb (ps.map (·.1)) ps) vo le w' → K (.tuple #[]) w') :
    CK Pr 60 #[.pointer (some ⟨b, 0, none⟩)] w K := by
  refine c60 ?_
  unfold t60
  have rb := r.bk
  have hb0 := r.b0
  have heq : (R.st == 2) = false := by simpa using hst
  (repeat (first | (refine go ?_; intros) | (refine goK23 ?_; intros)))
  rw [heq]
  (repeat (first | (refine go ?_; intros) | (refine goK23 ?_; intros)))
  rename_i w1 u1 hb1 z1
  have r1 : RM base b { R with step := fn 111 } L ps vo le w1 := r.put u1 hb1 ⟨rfl, rfl, rfl, rfl, rfl, rfl⟩
  clear rb hb1
  rw [wrapU (n := R.term + 1) (by omega) (by omega)]
  refine cl_fn (k109 r1 he hps hnd fun vt ro w2 u2 r2 => ?_)
  have rb2 := r2.bk
  unfold Rf.back at rb2
  (repeat (first | (refine go ?_; intros) | (refine goK23 ?_; intros)))
  rename_i w3 u3 hb3 z3 w4 u4 hb4 z4 w5 u5 hb5 z5
  have U : Up (fun x => x = b) [189] w2 w5 := (u3.trans u4).trans u5
  exact h vt ro w5 (((mono1 hb0 u1).trans u2).trans (mono1 hb0 U)) (r2.put U hb5 ⟨rfl, rfl, rfl, rfl, rfl, rfl⟩)

/-- A machine that became a candidate ahead of the vote. -/
def Rf.pre (R : Rf) (b : Nat) (vt : Nat) : Rf := { R with step := fn 111, vt := vt, tick := .func (.func 110) #[.pointer (some ⟨b, 0, none⟩)] #[], lead := 0, st := 3 }

theorem k62 {base b : Nat} {R : Rf} {L : Lg} {ps : Ps} {vo le : List Int} (r : RM base b R L ps vo le w) (hst : R.st ≠ 2)
    (h : ∀ vt w', Up (fun x => base ≤ x) [189, 227, 154] w w' → RM base b (R.pre b vt) L ps vo le w' → K (.tuple #[]) w') :
    CK Pr 62 #[.pointer (some ⟨b, 0, none⟩)] w K := by
  refine c62 ?_
  unfold t62
  have rb := r.bk
  have hb0 := r.b0
  have heq : (R.st == 2) = false := by simpa using hst
  (repeat (first | (refine go ?_; intros) | (refine goK23 ?_; intros)))
  rw [heq]
  (repeat (first | (refine go ?_; intros) | (refine goK23 ?_; intros)))
  rename_i w1 u1 hb1 z1
  have r1 : RM base b { R with step := fn 111 } L ps vo le w1 := r.put u1 hb1 ⟨rfl, rfl, rfl, rfl, rfl, rfl⟩
  clear rb hb1
  refine cl_fn (k116 (base := base) r1.bk fun vt w2 u2 hvt mvt hb2 => ?_)
  have r2 : RM base b { R with step := fn 111, vt := vt } L ps vo le w2 :=
    ⟨hb2, hb0, r1.lg.mt rfl rfl rfl rfl u2, r1.lok, r1.pr.up u2 (.inl rfl) (.inl rfl) rfl, r1.vo.up u2 (.inl rfl), r1.le.up u2 (.inl rfl), mvt, r1.ro.mt u2 rfl⟩
  (repeat (first | (refine go ?_; intros) | (refine goK23 ?_; intros)))
  rename_i w3 u3 hb3 z3 w4 u4 hb4 z4 w5 u5 hb5 z5
  have U : Up (fun x => x = b) [189] w2 w5 := (u3.trans u4).trans u5
  exact h vt w5 (mono1 hb0 ((u1.trans u2).trans U)) (r2.put U hb5 ⟨rfl, rfl, rfl, rfl, rfl, rfl⟩)

theorem k38 {base b : Nat} {R : Rf} {L : Lg} {ps : Ps} {vo le : List Int} {t l : Int} (r : RM base b R L ps vo le w) (he : i64 R.et) (hps : ps.length ≤ 13) (hnd : (ps.map (·.1)).Nodup)
    (h : ∀ vt ro w', Up (fun x => base ≤ x) [189, 227, 154] w w' → RM base b (R.follow b t l vt ro) L (rs R.id L.last R.mi R.mb (ps.map (·.1)) ps) vo le w' → K (.tuple #[]) w') :
    CK Pr 38 #[.pointer (some ⟨b, 0, none⟩), .int .u64 t, .int .u64 l] w K := by
  refine c38 ?_
  unfold t38
  exact cl_fn (k59 r he hps hnd h)
theorem k39 {base b : Nat} {R : Rf} {L : Lg} {ps : Ps} {vo le : List Int} (r : RM base b R L ps vo le w) (he : i64 R.et) (hst : R.st ≠ 2) (ht : 0 ≤ R.term ∧ R.term ≤ 1000000000000000) (hps : ps.length ≤ 13) (hnd : (ps.map (·.1)).Nodup)
    (h : ∀ vt ro w', Up (fun x => base ≤ x) [189, 227, 154] w w' → RM base b (R.cand b (R.term + 1) vt ro) L (rs R.id L.last R.mi R.mb (ps.map (·.1)) ps) vo le w' → K (.tuple #[]) w') :
    CK Pr 39 #[.pointer (some ⟨b, 0, none⟩)] w K := by
  refine c39 ?_
  unfold t39
  exact cl_fn (k60 r he hst ht hps hnd h)
theorem k41 {base b : Nat} {R : Rf} {L : Lg} {ps : Ps} {vo le : List Int} (r : RM base b R L ps vo le w) (hst : R.st ≠ 2)
    (h : ∀ vt w', Up (fun x => base ≤ x) [189, 227, 154] w w' → RM base b (R.pre b vt) L ps vo le w' → K (.tuple #[]) w') :
    CK Pr 41 #[.pointer (some ⟨b, 0, none⟩)] w K := by
  refine c41 ?_
  unfold t41
  exact cl_fn (k62 r hst h)

end Go.Proofs.YtmmpogfbhelioaaGreat
/-
  Contract: guarded: a function is called, and nothing panicked.
  Conditions: the function returns.
-/
namespace Go.Proofs.YtmmpogfbhelioaaGreat
set_option maxRecDepth 10000
set_option linter.unusedVariables false
set_option linter.unusedSimpArgs false
set_option linter.unusedVariables false

theorem gd_67 (p : Addr) (w : World) (v0 : Value) (hc : w.cell? p = some v0) (hz : w.frozen? p = false) (hv0 : one v0 = true) :
    CallsD Tryz.prog 67 #[.pointer (some p)] .returning w fun e u' w' => e = .returned (.tuple #[]) ∧ u' = .returning ∧ w' = w.setCell p (.bool false) := by
  refine callsD_of_wpS Tryz.func67 rfl fun c₀ cs hu => ?_
  apply wpS_region
  simp [wpOpsS, go_sem, recoverD, hu, Tryz.ntmps67, Exit.thenS]
  simp [hc, hz, Oper.upon, bodyPostS, results, Tryz.results67, Act.put]
  cases c₀
  simp_all

theorem k48 {C : Nat → Prop} {T : List Nat} {K : Value → World → Prop} {w : World} {fn : Nat} [TFn Pr fn] {cap : Array Value} {Q : World → World → Prop} (hT : T.contains 6 = false)
    (hf : ∀ w1, Ex w w1 → CK Pr fn cap w1 fun _ w2 => Up C T w1 w2 ∧ Q w1 w2)
    (h : ∀ w1 w2 w3, Ex w w1 → Up C T w1 w2 → Q w1 w2 → Up (fun x => x = w.heap.size) [6] w2 w3 → K (.bool false) w3) : CK Pr 48 #[.func (.func fn) #[] cap] w K := by
  have hmf : ∀ (fn : Fn) (first cap : Array Value) (w : World), (Instr.makeFunc fn first cap).run Tryz.prog w = .ok (.func fn first cap) w := fun _ _ _ _ => rfl
  unfold CK
  go_enter_defers Tryz.func48, Tryz.ntmps48
  go_wp2
  have e1 : Ex w (w.alloc (.cells #[.bool false] 4)) := Up.alloc _ _
  have hb : Bk (w.alloc (.cells #[.bool false] 4)) w.heap.size (.cells #[.bool false] 4 (0, 0)) := Bk.alloc_new _ _
  rw [run_callFunc]
  simp only [Oper.upon]
  refine Calls.mono (hf _ e1) ?_
  rintro e w2 ⟨v, rfl, u, q⟩
  have hb2 := u.at_ hb hT
  have hc : w2.cell? ⟨w.heap.size, 0, none⟩ = some (.bool false) := by rw [hb2.cell]; rfl
  have hz : w2.frozen? ⟨w.heap.size, 0, none⟩ = false := hb2.frozen 0
  rename_i K1 h1 K2 h2
  refine h2 _ _ ?_
  go_wp2
  have hb3 := hb2.setCell 0 (.bool false)
  have u3 : Up (fun x => x = w.heap.size) [6] w2 _ := Up.setCell hb2 0 (.bool false)
  generalize w2.setCell ⟨w.heap.size, 0, none⟩ (.bool false) = w3 at hb3 u3 ⊢
  have hc3 : w3.cell? ⟨w.heap.size, 0, none⟩ = some (.bool false) := by rw [hb3.cell]; rfl
  have hz3 : w3.frozen? ⟨w.heap.size, 0, none⟩ = false := hb3.frozen 0
  have hb4 := hb3.setCell 0 (.bool false)
  have u4 : Up (fun x => x = w.heap.size) [6] w3 _ := Up.setCell hb3 0 (.bool false)
  simp only [bodyPostD]
  refine leaves_cons (f := 67) (args := #[.pointer (some ⟨w.heap.size, 0, none⟩)]) (by simp) (by simp [go_sem]) ?_
  refine (gd_67 _ _ (.bool false) hc3 hz3 rfl).mono ?_
  rintro e u' w4 ⟨rfl, rfl, rfl⟩
  have hc4 : (w3.setCell ⟨w.heap.size, 0, none⟩ (.bool false)).cell? ⟨w.heap.size, 0, none⟩ = some (.bool false) := by rw [hb4.cell]; rfl
  have hh := h _ w2 _ e1 u q (u3.trans u4)
  simp [Leaves, settle, results, Tryz.results48, go_sem, hc4]
  exact hh

end Go.Proofs.YtmmpogfbhelioaaGreat
/-
  Contract: a machine is made, something is called on it, and what it is then is told.
  Conditions: the data is whole; no messages.
-/
namespace Go.Proofs.YtmmpogfbhelioaaGreat
set_option maxRecDepth 10000
set_option linter.unusedVariables false
set_option linter.unusedSimpArgs false
theorem nmK24 {p : Prop} (h : p := by (try simp only [List.getElem?_toArray, List.getElem?_cons_zero, List.getElem?_cons_succ, List.setIfInBounds_toArray, List.set_cons_zero, List.set_cons_succ, List.toList_toArray, List.drop_zero, List.drop_succ_cons, List.take_zero, List.take_succ_cons, Nat.zero_add, Nat.add_zero, Nat.reduceAdd, putCells, Rf.cells, Mac.cells, Aft0]) <;> rfl) : p := h
theorem goK24 {G H : Prop} (h : H) (s : Stp G H := by (apply Stp.of; intro hS; (first | (refine q_ld bk_ nmK24 ?_) | (refine q_ldU bk_ rfl nmK24 ?_) | (refine q_ldW bk_ (by rfl) ?_) | (refine q_ldWU bk_ rfl (by rfl) ?_) | (refine q_ldP bk_ (Nat.le_of_ble_eq_true rfl) nmK24 ?_) | (refine q_ldPU bk_ rfl (Nat.le_of_ble_eq_true rfl) nmK24 ?_) | (refine q_ext nmK24 ?_) | (refine u_st bk_ (Nat.le_of_ble_eq_true rfl) (by first | rfl | assumption) nmK24 ?_) | (refine u_stA bk_ (Nat.le_of_ble_eq_true rfl) (by rfl) (by rfl) nmK24 ?_) | (refine q_field nmK24 ?_)); exact hS.out)) : G := s.f h
set_option linter.unusedVariables false
set_option linter.unusedSimpArgs false
attribute [local irreducible] Instr.box Instr.alloc Instr.loadAt Instr.storeAt Instr.fieldAt Instr.indexAt Instr.build Instr.buildSlice Instr.makeSlice Instr.makeMap Instr.mapUpdate Instr.lookup Instr.range Instr.next Instr.entry Instr.extract Instr.makeInterface Instr.makeFunc Instr.sliceAt Instr.typeAssert Instr.field Instr.index Builtin.len_ Builtin.cap_ Builtin.max_ Builtin.min_ Builtin.append_ Builtin.copy_ Builtin.delete_ convert binS pickS nilS callV callM Op.unary Own Mp It Cu


variable {K : Value → World → Prop} {w : World} {te : Option Nat}

/-- The zero one of what is told. -/
def Aft0 (ok : Bool) : Array Value := #[.int .u64 0, .int .u64 0, .int .u64 0, .int .u64 0, .int .i64 0, .string ByteArray.empty, .int .u64 0, .int .u64 0, .slice none 0 0, .slice none 0 0, .slice none 0 0, .slice none 0 0, .bool false, .slice none 0 0, .slice none 0 0, .int .u64 0, .int .u64 0, .slice none 0 0, .slice none 0 0, .slice none 0 0, .slice none 0 0, .bool false, .bool false, .int .i64 0, .int .i64 0, .int .i64 0, .int .i64 0, .int .i64 0, .int .u64 0, .int .u64 0, .int .u64 0, .int .u64 0, .slice none 0 0, .slice none 0 0, .bool ok, .bool false]
/-- What is told. -/
def Aft (m : Mac) (sv lv : Value) (ok pn : Bool) : Array Value := #[.int .u64 m.id, .int .u64 m.term, .int .u64 m.vote, .int .u64 m.lead, .int .i64 m.role, .string m.base.d, .int .u64 m.base.i, .int .u64 m.base.t, m.cvV, m.clV, m.coV, m.cnV, .bool m.base.c.a, m.stV, m.frV, .int .u64 m.commit, .int .u64 m.applied, m.voV, m.leV, m.peV, m.vsV, .bool m.pv, .bool m.cq, .int .i64 m.el, .int .i64 m.hb, .int .i64 m.to, .int .i64 m.ep, .int .i64 m.be, .int .u64 m.ms, .int .u64 m.mu, .int .u64 m.un, .int .u64 m.tr, sv, lv, .bool ok, .bool pn]

/-- What the machine in memory must be, so that it can be told. -/
structure Fine (m : Mac) (R : Rf) (L : Lg) (ps : Ps) (vo le : List Int) : Prop where
  st : 0 ≤ R.st ∧ R.st ≤ 3
  off : L.us = none → ∀ e ∈ m.st, e.i < L.off
  kk : ∀ e ∈ L.un, i64 e.k
  sm : ∀ s, L.us = some s → CfSm s.c
  len : ps.length ≤ 13
  nd : (ps.map (·.1)).Nodup
  vo : vo.length ≤ 13
  le : le.length ≤ 13

theorem k52 {b : Nat} {R : Rf} (hb : Bk w b (.cells R.cells 187 (0, 0))) (h : ∀ w', Ex w w' → K (.tuple #[R.ms, R.af]) w') : CK Pr 52 #[.pointer (some ⟨b, 0, none⟩)] w K := by
  refine c52 ?_
  unfold t52
  refine dr_rule No [] fun w1 e1 z1 => ?_
  have hb1 := e1.at_ hb
  (repeat (first | (refine go ?_; intros) | (refine goK24 ?_; intros)))
  exact h w1 e1

theorem k53n (h : K (.slice none 0 0) w) : CK Pr 53 #[.slice none 0 0] w K := by
  refine c53 ?_
  unfold t53
  (repeat (first | (refine go ?_; intros) | (refine goK24 ?_; intros)))
  refine loop_n (α := Unit) (fun _ τ w' => g τ 0 = .slice none 0 0 ∧ g τ 2 = .int .i64 0 ∧ w' = w) (fun _ => 0) () ⟨rfl, rfl, rfl⟩ ?_
  rintro _ τ w' R ⟨h0, h2, rfl⟩ hR
  rw [h0, h2]
  (repeat (first | (refine go ?_; intros) | (refine goK24 ?_; intros)))
  exact h

theorem k49 {m : Mac} {mb cb ob fnc : Nat} [TFn Pr fnc] {cap : Array Value} {wm : World} {Φ : Rf → Lg → Ps → List Int → List Int → Bool → Prop} (hm : IsMac wm m) (em : Ex wm w) (hob0 : wm.heap.size ≤ ob) (wh : Whole m) (hpl : m.pe.length ≤ 2147483647)
    (hmb : Bk w mb (.cells m.cells 32 (0, 0))) (hcb : Bk w cb (.cells #[.func (.func fnc) #[] cap] 77 (0, 0))) (hob : Bk w ob (.cells (Aft0 false) 38 (0, 0)))
    (hcall : ∀ base b lb vb lm pm vt ro most sb ps w1 (K' : Value → World → Prop), Ex w w1 → w.heap.size ≤ base → ps.map (·.1) = m.vo ++ m.le → RM base b (mkR m lb vb lm pm vt ro most) (mkL m sb) ps m.vo m.le w1 →
      (∀ ok R L ps vo le w2 T, Up (fun x => base ≤ x) T w1 w2 → RM base b R L ps vo le w2 → Fine m R L ps vo le → R.ms = .slice none 0 0 → R.af = .slice none 0 0 → Φ R L ps vo le ok → K' (.bool ok) w2) → CK Pr fnc (#[.pointer (some ⟨b, 0, none⟩)] ++ cap) w1 K')
    (h : ∀ mo ok R L ps vo le w', Up (fun x => x = ob) [40] w w' → Bk w' ob (.cells (Aft mo (.slice none 0 0) (.slice none 0 0) ok false) 38 (0, 0)) → MF m R L ps vo le mo → (∀ w'', Up (fun x => wm.heap.size ≤ x) [40, 6, 45] w' w'' → IsMac w'' mo) → Φ R L ps vo le ok → K (.tuple #[]) w') :
    CK Pr 49 #[.pointer (some ⟨mb, 0, none⟩), .pointer (some ⟨cb, 0, none⟩), .pointer (some ⟨ob, 0, none⟩)] w K := by
  refine c49 ?_
  unfold t49
  (repeat (first | (refine go ?_; intros) | (refine goK24 ?_; intros)))
  refine cl_fn (k50 (hm.ex em) wh hpl fun base b lb vb lm pm vt ro most sb ps w1 e1 hbase hk r1 => ?_)
  have hmb1 := e1.at_ hmb
  have hcb1 := e1.at_ hcb
  have hob1 := e1.at_ hob
  (repeat (first | (refine go ?_; intros) | (refine goK24 ?_; intros)))
  refine cl_clo (hcall base b lb vb lm pm vt ro most sb ps w1 _ e1 hbase hk r1 fun ok R L ps2 vo le w2 T u2 r2 fin hms haf hΦ => ?_)
  have z1 := e1.size
  have z2 := u2.size
  have ob1 := hob1.lt
  have e12 : Ex w w2 := e1.new u2 (fun x hx => by omega)
  have hb2 := e12.at_ hob
  have hmb2 := e12.at_ hmb
  clear hmb1 hcb1 hob1 hcb hob hmb
  (repeat (first | (refine go ?_; intros) | (refine goK24 ?_; intros)))
  rename_i w3 u3 hb3 z3
  have hmb3 := u3.at_ hmb2 rfl
  clear hmb2 hb2
  have r3 := r2.mt (w' := w3) rfl rfl u3
  have em3 : Ex wm w3 := (em.trans e12).new u3 (by intro x hx; subst hx; exact hob0)
  (repeat (first | (refine go ?_; intros) | (refine goK24 ?_; intros)))
  refine cl_fn (k51 hm em3 r3 (by have := wh.row.len; rw [List.length_append] at this; omega) fin.off fin.st fin.kk fin.sm fin.len fin.nd fin.vo fin.le fun mo w4 e4 mf hmo => ?_)
  have hb4 := e4.at_ hb3
  have r4 := r3.ex e4
  clear hb3 hmb3
  have hz : Up (fun x => wm.heap.size ≤ x) [40, 6, 45] w4 w4 := .refl _ _ _
  have o1 := (hmo w4 hz).one1
  (repeat (first | (refine go ?_; intros) | (refine goK24 ?_; intros)))
  refine u_stA hb4 (Nat.le_of_ble_eq_true rfl) (by rfl) (by simp only [Mac.cells, List.all_cons, List.all_nil, o1.1, o1.2.1, o1.2.2.1, o1.2.2.2.1, o1.2.2.2.2.1, o1.2.2.2.2.2.1, o1.2.2.2.2.2.2.1, o1.2.2.2.2.2.2.2.1, o1.2.2.2.2.2.2.2.2.1, o1.2.2.2.2.2.2.2.2.2]; rfl) nmK24 fun w5 u5 hb5 z5 => ?_
  have r5 := r4.mt (w' := w5) rfl rfl u5
  clear hb4
  refine cl_fn (k52 r5.bk fun w6 e6 => ?_)
  have hb6 := e6.at_ hb5
  clear hb5
  (repeat (first | (refine go ?_; intros) | (refine goK24 ?_; intros)))
  rw [hms, haf]
  refine cl_fn (k53n ?_)
  refine cl_fn (k53n ?_)
  (repeat (first | (refine go ?_; intros) | (refine goK24 ?_; intros)))
  rename_i w7 u7 hb7 z7 w8 u8 hb8 z8
  have U3 : Up (fun x => x = ob) [40] w w3 := (Up.of_ex e12).trans u3
  have U48 : Up (fun x => x = ob) [40] w4 w8 := ((u5.ex e6).trans u7).trans u8
  refine h mo ok R L ps2 vo le w8 ((U3.ex e4).trans U48) hb8 mf (fun w9 u9 => hmo w9 ((U48.mono (fun y _ hy => by subst hy; exact hob0) (fun k hk => by simp at hk; simp [hk])).trans u9)) hΦ

theorem Up.idx {C : Nat → Prop} {T : List Nat} {w' : World} (u : Up C T w w') : w.heap.size ≤ w'.heap.size := u.size

theorem k29 {m : Mac} {fnc : Nat} [TFn Pr fnc] {cap : Array Value} {Φ : Rf → Lg → Ps → List Int → List Int → Bool → Prop} {wm : World} (hm : IsMac wm m) (em : Ex wm w) (wh : Whole m) (hpl : m.pe.length ≤ 2147483647)
    (hcall : ∀ base b lb vb lm pm vt ro most sb ps w0 w1 (K' : Value → World → Prop), Ex w w0 → Ex w0 w1 → w0.heap.size ≤ base → ps.map (·.1) = m.vo ++ m.le → RM base b (mkR m lb vb lm pm vt ro most) (mkL m sb) ps m.vo m.le w1 →
      (∀ ok R L ps vo le w2 T, Up (fun x => base ≤ x) T w1 w2 → RM base b R L ps vo le w2 → Fine m R L ps vo le → R.ms = .slice none 0 0 → R.af = .slice none 0 0 → Φ R L ps vo le ok → K' (.bool ok) w2) → CK Pr fnc (#[.pointer (some ⟨b, 0, none⟩)] ++ cap) w1 K')
    (h : ∀ mo ok R L ps vo le w', Ex w w' → MF m R L ps vo le mo → (∀ w'', Up (fun x => wm.heap.size ≤ x) [40, 6, 45] w' w'' → IsMac w'' mo) → Φ R L ps vo le ok → K (.agg (Aft mo (.slice none 0 0) (.slice none 0 0) ok false)) w') :
    CK Pr 29 #[.agg m.cells, .func (.func fnc) #[] cap] w K := by
  refine c29 ?_
  unfold t29
  refine e_boxA fun mb w1 e1 hb1 s1 s2 => ?_
  refine e_box1 rfl fun cb w2 e2 hb2 s3 s4 => ?_
  refine e_allocA fun rb w3 e3 hb3 s5 s6 => ?_
  refine e_allocA fun ob w4 e4 hb4 s7 s8 => ?_
  have hmb : Bk w4 mb (.cells m.cells 32 (0, 0)) := e4.at_ (e3.at_ (e2.at_ hb1))
  have hcb := e4.at_ (e3.at_ hb2)
  have zm := em.size
  have z1 := e1.size
  have z2 := e2.size
  have z3 := e3.size
  have z4 := e4.size
  have ew4 : Ex w w4 := ((e1.trans e2).trans e3).trans e4
  refine q_mkf ?_
  refine cl_fn (k48 (C := fun x => x = ob) (T := [40]) (Q := fun a c => ∃ mo ok R L ps vo le, Bk c ob (.cells (Aft mo (.slice none 0 0) (.slice none 0 0) ok false) 38 (0, 0)) ∧ MF m R L ps vo le mo ∧ (∀ w'', Up (fun x => wm.heap.size ≤ x) [40, 6, 45] c w'' → IsMac w'' mo) ∧ Φ R L ps vo le ok) rfl (fun w5 e5 => ?_) fun w5 w6 w7 e5 u6 q6 u7 => ?_)
  · refine k49 (wm := wm) (Φ := Φ) hm ((em.trans ew4).trans e5) (by omega) wh hpl (e5.at_ hmb) (e5.at_ hcb) (e5.at_ hb4) ?_ ?_
    · intro base b lb vb lm pm vt ro most sb ps wa K' ea hbase hk r hK
      exact hcall base b lb vb lm pm vt ro most sb ps w5 wa K' (ew4.trans e5) ea hbase hk r hK
    · intro mo ok R L ps vo le w' u hb mf hmo hΦ
      exact ⟨u, mo, ok, R, L, ps, vo, le, hb, mf, hmo, hΦ⟩
  · obtain ⟨mo, ok, R, L, ps, vo, le, hb, mf, hmo, hΦ⟩ := q6
    have hb7 := u7.at_ hb rfl
    have hrb7 : Bk w7 rb _ := u7.at_ (u6.off (e5.at_ (e4.at_ hb3)) (by intro h; omega)) rfl
    have U67 : Up (fun x => wm.heap.size ≤ x) [40, 6, 45] w6 w7 := u7.mono (fun y _ hy => by subst hy; omega) (fun k hk => by simp at hk; simp [hk])
    have o1 := (hmo w7 U67).one1
    have ew7 : Ex w w7 := (((ew4.trans e5).new u6 (by intro x hx; subst hx; omega))).new u7 (by intro x hx; subst hx; omega)
    have hne : rb ≠ ob := by omega
    (repeat (first | (refine go ?_; intros) | (refine goK24 ?_; intros)))
    refine u_stA hrb7 (Nat.le_of_ble_eq_true rfl) (by rfl) (by simp only [Aft, List.toList_toArray, List.all_cons, List.all_nil, o1.1, o1.2.1, o1.2.2.1, o1.2.2.2.1, o1.2.2.2.2.1, o1.2.2.2.2.2.1, o1.2.2.2.2.2.2.1, o1.2.2.2.2.2.2.2.1, o1.2.2.2.2.2.2.2.2.1, o1.2.2.2.2.2.2.2.2.2]; rfl) (putCells_all (by rfl)) fun w8 u8 hb8 z8 => ?_
    have U8 : Up (fun x => wm.heap.size ≤ x) [40, 6, 45] w7 w8 := u8.mono (fun y _ hy => by subst hy; omega) (fun k hk => by simp at hk; simp [hk])
    clear hb hb7 hrb7
    refine q_ldW hb8 (by rfl) ?_
    exact h mo ok R L ps vo le w8 (ew7.new u8 (by intro x hx; subst hx; omega)) mf (fun w9 u9 => hmo w9 ((U67.trans U8).trans u9)) hΦ

end Go.Proofs.YtmmpogfbhelioaaGreat
/-
  Contract: Becomes.
  Conditions: the machine is whole; a leader becomes a follower alone.
-/
namespace Go.Proofs.YtmmpogfbhelioaaGreat
set_option maxRecDepth 10000
set_option linter.unusedVariables false
set_option linter.unusedSimpArgs false
set_option linter.unusedVariables false
set_option linter.unusedSimpArgs false
attribute [local irreducible] Instr.box Instr.alloc Instr.loadAt Instr.storeAt Instr.fieldAt Instr.indexAt Instr.build Instr.buildSlice Instr.makeSlice Instr.makeMap Instr.mapUpdate Instr.lookup Instr.range Instr.next Instr.entry Instr.extract Instr.makeInterface Instr.makeFunc Instr.sliceAt Instr.typeAssert Instr.field Instr.index Builtin.len_ Builtin.cap_ Builtin.max_ Builtin.min_ Builtin.append_ Builtin.copy_ Builtin.delete_ convert binS pickS nilS callV callM Op.unary Own Mp It Cu


variable {K : Value → World → Prop} {w : World} {te : Option Nat}

theorem Whole.el64 {m : Mac} (wh : Whole m) : i64 m.el := by
  have := wh.el
  have := wh.hb
  exact ⟨by omega, by omega⟩
theorem Whole.keys {m : Mac} (wh : Whole m) {ps : Ps} (hk : ps.map (·.1) = m.vo ++ m.le) : ps.length ≤ 13 ∧ (ps.map (·.1)).Nodup ∧ m.vo.length ≤ 9 ∧ m.le.length ≤ 4 := by
  have h1 : m.vo.length ≤ 9 := wh.mem.v9
  have h2 : m.le.length ≤ 4 := wh.mem.l4
  have := congrArg List.length hk
  simp only [List.length_map, List.length_append] at this
  exact ⟨by omega, by rw [hk]; exact wh.mem.nd, h1, h2⟩

theorem Whole.fine {m : Mac} (wh : Whole m) {R : Rf} {ps : Ps} {sb : Nat} (hk : ps.map (·.1) = m.vo ++ m.le) (hst : 0 ≤ R.st ∧ R.st ≤ 3) : Fine m R (mkL m sb) ps m.vo m.le := by
  obtain ⟨h1, h2, h3, h4⟩ := wh.keys hk
  refine ⟨hst, fun _ e he => ?_, fun e he => ?_, fun s hs => (by cases hs), h1, h2, by omega, by omega⟩
  · obtain ⟨j, hj⟩ := List.getElem?_of_mem he
    have hjl : j < m.st.length := (List.getElem?_eq_some_iff.1 hj).1
    have := (wh.row.at_ j e (by rw [List.getElem?_append_left hjl]; exact hj)).1
    show e.i < m.base.i + m.st.length + 1
    omega
  · obtain ⟨j, hj⟩ := List.getElem?_of_mem (List.mem_append_right m.st (show e ∈ m.fr from he))
    have := (wh.row.at_ j e hj).2.2.2.1
    rw [this]
    exact ⟨by omega, by omega⟩

/-- What term, vote and leader a machine has that became something. -/
def tgt (m : Mac) (role term lead : Int) : Int × Int × Int :=
  if role = 0 then (term, if m.term = term then m.vote else 0, lead) else if role = 1 then (m.term + 1, m.id, 0) else (m.term, m.vote, 0)

/-- What Becomes leaves. -/
def PhB (m : Mac) (role term lead : Int) (R : Rf) (L : Lg) (ps : Ps) (vo le : List Int) (ok : Bool) : Prop :=
  R.id = m.id ∧ (R.term, R.vote, R.lead) = tgt m role term lead ∧ R.st = role ∧ (∃ sb, L = mkL m sb) ∧ vo = m.vo ∧ le = m.le ∧ ok = false

theorem k37 {m : Mac} {base b lb vb pm vt ro sb b1 b2 b3 : Nat} {lm : Option Nat} {most role term lead : Int} {ps : Ps} (wh : Whole m) (hrole : role = 0 ∨ role = 1 ∨ role = 3) (hlead : m.role = 2 → role = 0)
    (h1 : Bk w b1 (.cells #[.int .i64 role] 3 (0, 0))) (h2 : Bk w b2 (.cells #[.int .u64 term] 22 (0, 0))) (h3 : Bk w b3 (.cells #[.int .u64 lead] 22 (0, 0))) (hk : ps.map (·.1) = m.vo ++ m.le)
    (r : RM base b (mkR m lb vb lm pm vt ro most) (mkL m sb) ps m.vo m.le w)
    (h : ∀ ok R L ps vo le w2 T, Up (fun x => base ≤ x) T w w2 → RM base b R L ps vo le w2 → Fine m R L ps vo le → R.ms = .slice none 0 0 → R.af = .slice none 0 0 → PhB m role term lead R L ps vo le ok → K (.bool ok) w2) :
    CK Pr 37 #[.pointer (some ⟨b, 0, none⟩), .pointer (some ⟨b1, 0, none⟩), .pointer (some ⟨b2, 0, none⟩), .pointer (some ⟨b3, 0, none⟩)] w K := by
  refine c37 ?_
  unfold t37
  unfold Jo
  obtain ⟨q1, q2, q3, q4⟩ := wh.keys hk
  have hterm := wh.term
  have kk : ∀ {id last mi mb : Int}, (rs id last mi mb (ps.map (·.1)) ps).map (·.1) = m.vo ++ m.le := fun {_ _ _ _} => by rw [rs_keys, hk]
  rcases hrole with rfl | rfl | rfl
  · (repeat (first | (refine go ?_; intros) | (refine gon ?_; intros)))
    refine cl_fn (k38 r wh.el64 q1 q2 fun vt' ro' w2 u2 r2 => ?_)
    refine h false _ _ _ _ _ w2 _ u2 r2 (wh.fine kk ⟨by show (0 : Int) ≤ 0; omega, by show (0 : Int) ≤ 3; omega⟩) rfl rfl ⟨rfl, ?_, rfl, ⟨sb, rfl⟩, rfl, rfl, rfl⟩
    by_cases ht : m.term = term <;> simp [tgt, Rf.follow, Rf.back, mkR, ht]
  · have hne : m.role ≠ 2 := fun e => by have := hlead e; omega
    (repeat (first | (refine go ?_; intros) | (refine gon ?_; intros)))
    refine cl_fn (k39 r wh.el64 hne ⟨by show 0 ≤ m.term; omega, by show m.term ≤ _; omega⟩ q1 q2 fun vt' ro' w2 u2 r2 => ?_)
    refine h false _ _ _ _ _ w2 _ u2 r2 (wh.fine kk ⟨by show (0 : Int) ≤ 1; omega, by show (1 : Int) ≤ 3; omega⟩) rfl rfl ⟨rfl, ?_, rfl, ⟨sb, rfl⟩, rfl, rfl, rfl⟩
    simp [tgt, Rf.cand, Rf.back, mkR]
  · have hne : m.role ≠ 2 := fun e => by have := hlead e; omega
    (repeat (first | (refine go ?_; intros) | (refine gon ?_; intros)))
    refine cl_fn (k41 r hne fun vt' w2 u2 r2 => ?_)
    refine h false _ _ _ _ _ w2 _ u2 r2 (wh.fine hk ⟨by show (0 : Int) ≤ 3; omega, by show (3 : Int) ≤ 3; omega⟩) rfl rfl ⟨rfl, ?_, rfl, ⟨sb, rfl⟩, rfl, rfl, rfl⟩
    simp [tgt, Rf.pre, mkR]

theorem k16 {m : Mac} {role term lead : Int} {wm : World} (hm : IsMac wm m) (em : Ex wm w) (wh : Whole m) (hpl : m.pe.length ≤ 2147483647) (hrole : role = 0 ∨ role = 1 ∨ role = 3) (hlead : m.role = 2 → role = 0)
    (h : ∀ mo ok R L ps vo le w', Ex w w' → MF m R L ps vo le mo → (∀ w'', Up (fun x => wm.heap.size ≤ x) [40, 6, 45] w' w'' → IsMac w'' mo) → PhB m role term lead R L ps vo le ok → K (.agg (Aft mo (.slice none 0 0) (.slice none 0 0) ok false)) w') :
    CK Pr 16 #[.agg m.cells, .int .i64 role, .int .u64 term, .int .u64 lead] w K := by
  refine c16 ?_
  unfold t16
  refine e_boxA fun mb w1 e1 hb1 s1 s2 => ?_
  refine e_box1 rfl fun b1 w2 e2 hb2 s3 s4 => ?_
  refine e_box1 rfl fun b2 w3 e3 hb3 s5 s6 => ?_
  refine e_box1 rfl fun b3 w4 e4 hb4 s7 s8 => ?_
  refine e_allocA fun rb w5 e5 hb5 s9 s10 => ?_
  have ew : Ex w w5 := (((e1.trans e2).trans e3).trans e4).trans e5
  have g1 : Bk w5 b1 (.cells #[.int .i64 role] 3 (0, 0)) := e5.at_ (e4.at_ (e3.at_ hb2))
  have g2 : Bk w5 b2 (.cells #[.int .u64 term] 22 (0, 0)) := e5.at_ (e4.at_ hb3)
  have g3 : Bk w5 b3 (.cells #[.int .u64 lead] 22 (0, 0)) := e5.at_ hb4
  have gm : Bk w5 mb (.cells m.cells 32 (0, 0)) := e5.at_ (e4.at_ (e3.at_ (e2.at_ hb1)))
  refine q_ldW gm (by rfl) ?_
  refine q_mkf ?_
  refine cl_fn (k29 (Φ := PhB m role term lead) hm (em.trans ew) wh hpl ?_ ?_)
  · intro base b lb vb lm pm vt ro most sb ps w0 w6 K' e0 e6 hbase hk r hK
    have ee := e0.trans e6
    exact k37 wh hrole hlead (Ex.at_ ee g1) (Ex.at_ ee g2) (Ex.at_ ee g3) hk r hK
  · intro mo ok R L ps vo le w6 e6 mf hmo hΦ
    have hb6 := e6.at_ hb5
    have o1 := (hmo w6 (.refl _ _ _)).one1
    refine u_stA hb6 (Nat.le_of_ble_eq_true rfl) (by rfl) (by simp only [Aft, List.toList_toArray, List.all_cons, List.all_nil, o1.1, o1.2.1, o1.2.2.1, o1.2.2.2.1, o1.2.2.2.2.1, o1.2.2.2.2.2.1, o1.2.2.2.2.2.2.1, o1.2.2.2.2.2.2.2.1, o1.2.2.2.2.2.2.2.2.1, o1.2.2.2.2.2.2.2.2.2]; rfl) (putCells_all (by rfl)) fun w7 u7 hb7 z7 => ?_
    refine q_ldW hb7 (by rfl) ?_
    have zm := em.size
    have zw := e1.size
    have zw2 := e2.size
    have zw3 := e3.size
    have zw4 := e4.size
    have U7 : Up (fun x => wm.heap.size ≤ x) [40, 6, 45] w6 w7 := u7.mono (fun y _ hy => by subst hy; omega) (fun k hk => by simp at hk; simp [hk])
    exact h mo ok R L ps vo le w7 ((ew.trans e6).new u7 (by intro x hx; subst hx; omega)) mf (fun w8 u8 => hmo w8 (U7.trans u8)) hΦ

end Go.Proofs.YtmmpogfbhelioaaGreat
/-
  Rules: structs of numbers and strings are compared.
  Conditions: closed facts on the types.
-/
namespace Go.Proofs.YtmmpogfbhelioaaGreat
set_option maxRecDepth 10000
set_option linter.unusedVariables false
set_option linter.unusedSimpArgs false
set_option linter.unusedVariables false
set_option linter.unusedSimpArgs false

def intTy (P : Program) (t : TypeId) : Bool := match P.underlying t with | some (.int _) => true | _ => false
def strTy (P : Program) (t : TypeId) : Bool := match P.underlying t with | some .string => true | _ => false

def s3B (P : Program) (t : TypeId) : Bool := (match P.underlying t with
  | some (.struct fs) => (match fs.toList with
    | [a, b, c] => a.name != "_" && b.name != "_" && c.name != "_" && Nat.beq a.offset 0 && Nat.beq b.offset 1 && Nat.beq c.offset 2 && intTy P a.type && intTy P b.type && intTy P c.type
    | _ => false)
  | _ => false) && !P.stoodInHeld t && !P.eqGuardType P.depth t
def s4B (P : Program) (t : TypeId) : Bool := (match P.underlying t with
  | some (.struct fs) => (match fs.toList with
    | [a, b, c, d] => a.name != "_" && b.name != "_" && c.name != "_" && d.name != "_" && Nat.beq a.offset 0 && Nat.beq b.offset 1 && Nat.beq c.offset 2 && Nat.beq d.offset 3 && intTy P a.type && intTy P b.type && intTy P c.type && strTy P d.type
    | _ => false)
  | _ => false) && !P.stoodInHeld t && !P.eqGuardType P.depth t

variable {P : Program} {t : TypeId} {w : World}

theorem intTy.facts {t : TypeId} (h : intTy P t = true) : ∃ k, P.underlying t = some (.int k) := by
  unfold intTy at h
  split at h
  · exact ⟨_, by assumption⟩
  · cases h
theorem strTy.facts {t : TypeId} (h : strTy P t = true) : P.underlying t = some .string := by
  unfold strTy at h
  split at h
  · assumption
  · cases h

theorem run_partI {t : TypeId} {k : IntKind} (hu : P.underlying t = some (.int k)) {cs : Array Value} {o : Nat} {v : Value} (hv : cs[o]? = some v) : (part t cs o).run P w = .ok v w := by
  simp only [part, Sem.run_bind, run_isAgg hu, isAggD, Result.andThen_ok, hv]
  simp
theorem run_partS {t : TypeId} (hu : P.underlying t = some .string) {cs : Array Value} {o : Nat} {v : Value} (hv : cs[o]? = some v) : (part t cs o).run P w = .ok v w := by
  simp only [part, Sem.run_bind, run_isAgg hu, isAggD, Result.andThen_ok, hv]
  simp
theorem run_eqI {t : TypeId} {k q : IntKind} {d : Nat} (hu : P.underlying t = some (.int k)) {a b : Int} : (Op.equalIn (d + 1) t (.int q a) (.int q b)).run P w = .ok (a == b) w := by
  simp [Op.equalIn, run_und hu]
theorem run_eqS {t : TypeId} {d : Nat} (hu : P.underlying t = some .string) {a b : ByteArray} : (Op.equalIn (d + 1) t (.string a) (.string b)).run P w = .ok (a == b) w := by
  simp [Op.equalIn, run_und hu]

theorem run_eq3 (h : s3B P t = true) {q0 q1 q2 : IntKind} {a0 a1 a2 b0 b1 b2 : Int} : (Op.equal t (.agg #[.int q0 a0, .int q1 a1, .int q2 a2]) (.agg #[.int q0 b0, .int q1 b1, .int q2 b2])).run P w = .ok (a0 == b0 && (a1 == b1 && a2 == b2)) w := by
  unfold s3B at h
  simp only [Bool.and_eq_true, Bool.not_eq_true'] at h
  obtain ⟨⟨h, hs⟩, hg⟩ := h
  split at h
  · rename_i fs hu
    split at h
    · rename_i a b c hfs
      simp only [Bool.and_eq_true, bne_iff_ne, ne_eq] at h
      obtain ⟨⟨⟨⟨⟨⟨⟨⟨n1, n2⟩, n3⟩, o1⟩, o2⟩, o3⟩, i1⟩, i2⟩, i3⟩ := h
      have o1 := Nat.eq_of_beq_eq_true o1
      have o2 := Nat.eq_of_beq_eq_true o2
      have o3 := Nat.eq_of_beq_eq_true o3
      obtain ⟨k1, i1⟩ := intTy.facts i1
      obtain ⟨k2, i2⟩ := intTy.facts i2
      obtain ⟨k3, i3⟩ := intTy.facts i3
      have hfa : fs = #[a, b, c] := by rw [← Array.toArray_toList (xs := fs), hfs]
      subst hfa
      refine (show (Op.equalIn 10000 t _ _).run P w = _ from ?_)
      have e1 : ∀ w, (part a.type #[Value.int q0 a0, .int q1 a1, .int q2 a2] 0).run P w = .ok (.int q0 a0) w := fun w => run_partI i1 rfl
      have e1' : ∀ w, (part a.type #[Value.int q0 b0, .int q1 b1, .int q2 b2] 0).run P w = .ok (.int q0 b0) w := fun w => run_partI i1 rfl
      have e2 : ∀ w, (part b.type #[Value.int q0 a0, .int q1 a1, .int q2 a2] 1).run P w = .ok (.int q1 a1) w := fun w => run_partI i2 rfl
      have e2' : ∀ w, (part b.type #[Value.int q0 b0, .int q1 b1, .int q2 b2] 1).run P w = .ok (.int q1 b1) w := fun w => run_partI i2 rfl
      have e3 : ∀ w, (part c.type #[Value.int q0 a0, .int q1 a1, .int q2 a2] 2).run P w = .ok (.int q2 a2) w := fun w => run_partI i3 rfl
      have e3' : ∀ w, (part c.type #[Value.int q0 b0, .int q1 b1, .int q2 b2] 2).run P w = .ok (.int q2 b2) w := fun w => run_partI i3 rfl
      have f1 : ∀ w, (Op.equalIn 9999 a.type (.int q0 a0) (.int q0 b0)).run P w = .ok (a0 == b0) w := fun w => run_eqI i1
      have f2 : ∀ w, (Op.equalIn 9999 b.type (.int q1 a1) (.int q1 b1)).run P w = .ok (a1 == b1) w := fun w => run_eqI i2
      have f3 : ∀ w, (Op.equalIn 9999 c.type (.int q2 a2) (.int q2 b2)).run P w = .ok (a2 == b2) w := fun w => run_eqI i3
      rw [Op.equalIn]
      simp [run_und hu, hs, o1, o2, o3, n1, n2, n3, e1, e1', e2, e2', e3, e3', f1, f2, f3]
      by_cases g0 : a0 = b0 <;> by_cases g1 : a1 = b1 <;> by_cases g2 : a2 = b2 <;> simp [g0, g1, g2]
    · cases h
  · cases h

theorem run_eq4 (h : s4B P t = true) {q0 q1 q2 : IntKind} {a0 a1 a2 b0 b1 b2 : Int} {a3 b3 : ByteArray} : (Op.equal t (.agg #[.int q0 a0, .int q1 a1, .int q2 a2, .string a3]) (.agg #[.int q0 b0, .int q1 b1, .int q2 b2, .string b3])).run P w = .ok (a0 == b0 && (a1 == b1 && (a2 == b2 && a3 == b3))) w := by
  unfold s4B at h
  simp only [Bool.and_eq_true, Bool.not_eq_true'] at h
  obtain ⟨⟨h, hs⟩, hg⟩ := h
  split at h
  · rename_i fs hu
    split at h
    · rename_i a b c d hfs
      simp only [Bool.and_eq_true, bne_iff_ne, ne_eq] at h
      obtain ⟨⟨⟨⟨⟨⟨⟨⟨⟨⟨⟨n1, n2⟩, n3⟩, n4⟩, o1⟩, o2⟩, o3⟩, o4⟩, i1⟩, i2⟩, i3⟩, i4⟩ := h
      have o1 := Nat.eq_of_beq_eq_true o1
      have o2 := Nat.eq_of_beq_eq_true o2
      have o3 := Nat.eq_of_beq_eq_true o3
      have o4 := Nat.eq_of_beq_eq_true o4
      obtain ⟨k1, i1⟩ := intTy.facts i1
      obtain ⟨k2, i2⟩ := intTy.facts i2
      obtain ⟨k3, i3⟩ := intTy.facts i3
      have i4 := strTy.facts i4
      have hfa : fs = #[a, b, c, d] := by rw [← Array.toArray_toList (xs := fs), hfs]
      subst hfa
      refine (show (Op.equalIn 10000 t _ _).run P w = _ from ?_)
      have e1 : ∀ w, (part a.type #[Value.int q0 a0, .int q1 a1, .int q2 a2, .string a3] 0).run P w = .ok (.int q0 a0) w := fun w => run_partI i1 rfl
      have e1' : ∀ w, (part a.type #[Value.int q0 b0, .int q1 b1, .int q2 b2, .string b3] 0).run P w = .ok (.int q0 b0) w := fun w => run_partI i1 rfl
      have e2 : ∀ w, (part b.type #[Value.int q0 a0, .int q1 a1, .int q2 a2, .string a3] 1).run P w = .ok (.int q1 a1) w := fun w => run_partI i2 rfl
      have e2' : ∀ w, (part b.type #[Value.int q0 b0, .int q1 b1, .int q2 b2, .string b3] 1).run P w = .ok (.int q1 b1) w := fun w => run_partI i2 rfl
      have e3 : ∀ w, (part c.type #[Value.int q0 a0, .int q1 a1, .int q2 a2, .string a3] 2).run P w = .ok (.int q2 a2) w := fun w => run_partI i3 rfl
      have e3' : ∀ w, (part c.type #[Value.int q0 b0, .int q1 b1, .int q2 b2, .string b3] 2).run P w = .ok (.int q2 b2) w := fun w => run_partI i3 rfl
      have e4 : ∀ w, (part d.type #[Value.int q0 a0, .int q1 a1, .int q2 a2, .string a3] 3).run P w = .ok (.string a3) w := fun w => run_partS i4 rfl
      have e4' : ∀ w, (part d.type #[Value.int q0 b0, .int q1 b1, .int q2 b2, .string b3] 3).run P w = .ok (.string b3) w := fun w => run_partS i4 rfl
      have f1 : ∀ w, (Op.equalIn 9999 a.type (.int q0 a0) (.int q0 b0)).run P w = .ok (a0 == b0) w := fun w => run_eqI i1
      have f2 : ∀ w, (Op.equalIn 9999 b.type (.int q1 a1) (.int q1 b1)).run P w = .ok (a1 == b1) w := fun w => run_eqI i2
      have f3 : ∀ w, (Op.equalIn 9999 c.type (.int q2 a2) (.int q2 b2)).run P w = .ok (a2 == b2) w := fun w => run_eqI i3
      have f4 : ∀ w, (Op.equalIn 9999 d.type (.string a3) (.string b3)).run P w = .ok (a3 == b3) w := fun w => run_eqS i4
      rw [Op.equalIn]
      simp [run_und hu, hs, o1, o2, o3, o4, n1, n2, n3, n4, e1, e1', e2, e2', e3, e3', e4, e4', f1, f2, f3, f4]
      by_cases g0 : a0 = b0 <;> by_cases g1 : a1 = b1 <;> by_cases g2 : a2 = b2 <;> cases g3 : (a3 == b3) <;> simp [g0, g1, g2, g3]
    · cases h
  · cases h

variable {K : Value → Prop} {S : World → Prop} {x y : Operand}
theorem guard_agg {op : BinOp} (hg : P.eqGuardType P.depth t = false) {a b : Array Value} : (eqGuard op t x y (.agg a) (.agg b)).run P w = .ok () w := by
  unfold eqGuard
  cases op <;> simp [hg]
theorem q_eql3 (h : s3B P t = true) {q0 q1 q2 : IntKind} {a0 a1 a2 b0 b1 b2 : Int} (k : K (.bool (a0 == b0 && (a1 == b1 && a2 == b2)))) : Qu P S (binS .eql t x y (.agg #[.int q0 a0, .int q1 a1, .int q2 a2]) (.agg #[.int q0 b0, .int q1 b1, .int q2 b2])) K :=
  q_bin (fun w => guard_agg (by unfold s3B at h; simp only [Bool.and_eq_true, Bool.not_eq_true'] at h; exact h.2)) (fun w => by simp [binOp, run_eq3 h]) k
theorem q_neq4 (h : s4B P t = true) {q0 q1 q2 : IntKind} {a0 a1 a2 b0 b1 b2 : Int} {a3 b3 : ByteArray} (k : K (.bool (!(a0 == b0 && (a1 == b1 && (a2 == b2 && a3 == b3)))))) : Qu P S (binS .neq t x y (.agg #[.int q0 a0, .int q1 a1, .int q2 a2, .string a3]) (.agg #[.int q0 b0, .int q1 b1, .int q2 b2, .string b3])) K :=
  q_bin (fun w => guard_agg (by unfold s4B at h; simp only [Bool.and_eq_true, Bool.not_eq_true'] at h; exact h.2)) (fun w => by simp [binOp, run_eq4 h]) k

theorem s3_41 : s3B Pr 41 = true := by kernel_rfl
theorem s4_56 : s4B Pr 56 = true := by kernel_rfl

end Go.Proofs.YtmmpogfbhelioaaGreat
/-
  Contracts: the reference's side: the same machine, a follower.
  Conditions: each one's own.
-/
namespace Go.Proofs.YtmmpogfbhelioaaGreat
set_option maxRecDepth 10000
set_option linter.unusedVariables false
set_option linter.unusedSimpArgs false
theorem nmK26 {p : Prop} (h : p := by (try simp only [List.getElem?_toArray, List.getElem?_cons_zero, List.getElem?_cons_succ, List.setIfInBounds_toArray, List.set_cons_zero, List.set_cons_succ, List.toList_toArray, List.drop_zero, List.drop_succ_cons, List.take_zero, List.take_succ_cons, Nat.zero_add, Nat.add_zero, Nat.reduceAdd, putCells, Mac.cells, Nd.cells, Mac.nd]) <;> rfl) : p := h
theorem goK26 {G H : Prop} (h : H) (s : Stp G H := by (apply Stp.of; intro hS; (first | (refine q_ld bk_ nmK26 ?_) | (refine q_ldU bk_ rfl nmK26 ?_) | (refine q_ldW bk_ (by rfl) ?_) | (refine q_ldWU bk_ rfl (by rfl) ?_) | (refine q_ldP bk_ (Nat.le_of_ble_eq_true rfl) nmK26 ?_) | (refine q_ldPU bk_ rfl (Nat.le_of_ble_eq_true rfl) nmK26 ?_) | (refine q_ext nmK26 ?_) | (refine u_st bk_ (Nat.le_of_ble_eq_true rfl) (by first | rfl | assumption) nmK26 ?_) | (refine u_stA bk_ (Nat.le_of_ble_eq_true rfl) (by rfl) (by rfl) nmK26 ?_) | (refine q_field nmK26 ?_)); exact hS.out)) : G := s.f h
set_option linter.unusedVariables false
set_option linter.unusedSimpArgs false
attribute [local irreducible] Instr.box Instr.alloc Instr.loadAt Instr.storeAt Instr.fieldAt Instr.indexAt Instr.build Instr.buildSlice Instr.makeSlice Instr.makeMap Instr.mapUpdate Instr.lookup Instr.range Instr.next Instr.entry Instr.extract Instr.makeInterface Instr.makeFunc Instr.sliceAt Instr.typeAssert Instr.field Instr.index Builtin.len_ Builtin.cap_ Builtin.max_ Builtin.min_ Builtin.append_ Builtin.copy_ Builtin.delete_ convert binS pickS nilS callV callM Op.unary Own Mp It Cu


variable {K : Value → World → Prop} {w : World} {te te2 : Option Nat}

theorem ba_refl (s : ByteArray) : (s == s) = true := by
  show (s.data == s.data) = true
  exact beq_self_eq_true _

theorem k35 {v1 v2 : Value} {l : List En} (h1 : Ens w te v1 l) (h2 : Ens w te2 v2 l) (h : ∀ w', Ex w w' → K (.bool true) w') : CK Pr 35 #[v1, v2] w K := by
  refine c35 ?_
  unfold t35
  refine q_lenSl h1 ?_
  refine q_lenSl h2 ?_
  refine q_neq ?_
  rw [beq_self_eq_true]
  (repeat (first | (refine go ?_; intros) | (refine goK26 ?_; intros)))
  have hle := h1.le
  rw [List.length_map] at hle ⊢
  refine loop_n (α := Nat) (fun j τ w' => g τ 2 = .int .i64 j ∧ j ≤ l.length ∧ Ex w w') (fun j => l.length - j) 0 ⟨rfl, Nat.zero_le _, .refl _ _ _⟩ ?_
  intro j τ w' R ⟨hj, hjl, ex⟩ hR
  rw [hj]
  (repeat (first | (refine go ?_; intros) | (refine goK26 ?_; intros)))
  refine if_split (fun hb => ?_) (fun _ => h _ ex)
  have hj' : j < l.length := by simpa using hb
  obtain ⟨e, he⟩ : ∃ e, l[j]? = some e := ⟨_, List.getElem?_eq_getElem hj'⟩
  refine dr_q fun w1 e1 z1 => ?_
  refine q_ixa j (h1.ex (ex.trans e1)) rfl (by rw [List.getElem?_map, he]; rfl) fun _ => ?_
  refine q_ixa j (h2.ex (ex.trans e1)) rfl (by rw [List.getElem?_map, he]; rfl) fun _ => ?_
  refine q_neq4 (q0 := .u64) (q1 := .u64) (q2 := .i64) (a0 := e.t) (a1 := e.i) (a2 := e.k) (a3 := e.d) (b0 := e.t) (b1 := e.i) (b2 := e.k) (b3 := e.d) s4_56 ?_
  rw [beq_self_eq_true, beq_self_eq_true, beq_self_eq_true, ba_refl]
  (repeat (first | (refine go ?_; intros) | (refine goK26 ?_; intros)))
  rw [wrapS (by omega)]
  exact hR (j + 1) _ _ ⟨rfl, by omega, ex.trans e1⟩ (by omega)

theorem k14 {mo : Mac} {n : Nd} {role : Int} (hm : IsMac w mo) (hl : mo.st.length + mo.fr.length ≤ 1000000000000) (hn : Ens w te n.logV n.log) (on : one n.cvV = true ∧ one n.clV = true ∧ one n.coV = true ∧ one n.cnV = true)
    (hrole : mo.role = role) (hlead : mo.lead = n.lead) (hterm : mo.term = n.term) (hvote : mo.vote = n.vote) (hcom : mo.commit = n.commit) (hbi : mo.base.i = n.base.i) (hbt : mo.base.t = n.base.t) (hlog : mo.st ++ mo.fr = n.log)
    (h : ∀ w', Ex w w' → K (.bool true) w') : CK Pr 14 #[.agg mo.cells, .int .i64 role, .agg n.cells] w K := by
  refine c14 ?_
  unfold t14
  obtain ⟨o1, o2, o3, o4⟩ := on
  have on := hn.one
  refine e_boxA fun b1 w1 e1 hb1 s1 s2 => ?_
  refine e_boxA fun b2 w2 e2 hb2 s3 s4 => ?_
  have hb12 := e2.at_ hb1
  refine q_ldW hb12 (by rfl) ?_
  refine cl_fn (k12 (hm.ex (e1.trans e2)) hl fun v w3 e3 o3' => ?_)
  have p1 := hm.one1
  have ov := o3'.sl.one
  refine e_allocA fun b4 w4 e4 hb4 s5 s6 => ?_
  refine u_stA hb4 (Nat.le_of_ble_eq_true rfl) (by rfl) (by simp only [Mac.nd, Nd.cells, List.toList_toArray, List.all_cons, List.all_nil, p1.1, p1.2.1, p1.2.2.1, p1.2.2.2.1, ov]; rfl) (putCells_all (by rfl)) fun w5 u5 hb5 z5 => ?_
  have z1 := e1.size
  have z2 := e2.size
  have z3 := e3.size
  have hbm : Bk w5 b1 (.cells mo.cells 32 (0, 0)) := u5.at_ (e4.at_ (e3.at_ hb12)) rfl
  have hbn : Bk w5 b2 (.cells n.cells 43 (0, 0)) := u5.off (e4.at_ (e3.at_ hb2)) (by intro h; omega)
  have hbk : Bk w5 b4 (.cells (mo.nd v).cells 43 (0, 0)) := hb5
  clear hb5 hb4 hb12 hb1 hb2
  have ew5 : Ex w w5 := (((e1.trans e2).trans e3).trans e4).new u5 (by intro x hx; subst hx; omega)
  have hne : b4 ≠ b2 := by omega
  (repeat (first | (refine go ?_; intros) | (refine goK26 ?_; intros)))
  rw [hrole, beq_self_eq_true]
  (repeat (first | (refine go ?_; intros) | (refine goK26 ?_; intros)))
  rw [hlead, beq_self_eq_true]
  (repeat (first | (refine go ?_; intros) | (refine goK26 ?_; intros)))
  refine q_eql3 s3_41 ?_
  rw [hterm, hvote, hcom, beq_self_eq_true, beq_self_eq_true, beq_self_eq_true]
  (repeat (first | (refine go ?_; intros) | (refine goK26 ?_; intros)))
  rw [hbi, beq_self_eq_true]
  (repeat (first | (refine go ?_; intros) | (refine goK26 ?_; intros)))
  rw [hbt, beq_self_eq_true]
  (repeat (first | (refine go ?_; intros) | (refine goK26 ?_; intros)))
  have hlogw : Ens w5 te n.logV n.log := hn.ex ew5
  have hmine : Ens w5 (some 56) v n.log := by
    rw [← hlog]
    exact ((o3'.sl.ex e4).typ u5 rfl)
  refine cl_fn (k35 hmine hlogw fun w6 e6 => ?_)
  (repeat (first | (refine go ?_; intros) | (refine goK26 ?_; intros)))
  exact h w6 (ew5.trans e6)

/-- A node that follows. -/
def Nd.follows (n : Nd) (t l : Int) : Nd := { n with term := if t > n.term then t else n.term, vote := if t > n.term then 0 else n.vote, lead := l }

theorem k17 {n : Nd} {t l : Int} (on : one n.cvV = true ∧ one n.clV = true ∧ one n.coV = true ∧ one n.cnV = true ∧ one n.logV = true) (h : ∀ w', Ex w w' → K (.agg (n.follows t l).cells) w') : CK Pr 17 #[.agg n.cells, .int .u64 t, .int .u64 l] w K := by
  refine c17 ?_
  unfold t17
  obtain ⟨o1, o2, o3, o4, o5⟩ := on
  refine e_boxA fun b1 w1 e1 hb1 s1 s2 => ?_
  refine e_allocA fun b2 w2 e2 hb2 s3 s4 => ?_
  have hb12 := e2.at_ hb1
  have z1 := e1.size
  have hne : b1 ≠ b2 := by omega
  clear hb1
  unfold Jo
  (repeat (first | (refine go ?_; intros) | (refine goK26 ?_; intros)))
  by_cases ht : t > n.term
  · rw [decide_eq_true ht]
    (repeat (first | (refine go ?_; intros) | (refine goK26 ?_; intros)))
    rename_i w3 u3 hb3 z3 w4 u4 hb4 z4 w5 u5 hb5 z5
    have hb25 := u5.off (u4.off (u3.off hb2 (fun h => hne h.symm)) (fun h => hne h.symm)) (fun h => hne h.symm)
    have e25 : Ex w w5 := (((e1.trans e2).new u3 (by intro x hx; subst hx; omega)).new u4 (by intro x hx; subst hx; omega)).new u5 (by intro x hx; subst hx; omega)
    clear hb5 hb4 hb3 hb2 hb12
    refine u_stA hb25 (Nat.le_of_ble_eq_true rfl) (by rfl) (by simp only [List.toList_toArray, List.all_cons, List.all_nil, o1, o2, o3, o4, o5]; rfl) (putCells_all (by rfl)) fun w6 u6 hb6 z6 => ?_
    refine q_ldW hb6 (by rfl) ?_
    have hh := h w6 (e25.new u6 (by intro x hx; subst hx; omega))
    unfold Nd.follows at hh
    rw [if_pos ht, if_pos ht] at hh
    exact hh
  · rw [decide_eq_false ht]
    (repeat (first | (refine go ?_; intros) | (refine goK26 ?_; intros)))
    rename_i w3 u3 hb3 z3
    have hb25 := u3.off hb2 (fun h => hne h.symm)
    have e25 : Ex w w3 := (e1.trans e2).new u3 (by intro x hx; subst hx; omega)
    clear hb3 hb2 hb12
    refine u_stA hb25 (Nat.le_of_ble_eq_true rfl) (by rfl) (by simp only [List.toList_toArray, List.all_cons, List.all_nil, o1, o2, o3, o4, o5]; rfl) (putCells_all (by rfl)) fun w6 u6 hb6 z6 => ?_
    refine q_ldW hb6 (by rfl) ?_
    have hh := h w6 (e25.new u6 (by intro x hx; subst hx; omega))
    unfold Nd.follows at hh
    rw [if_neg ht, if_neg ht] at hh
    exact hh

end Go.Proofs.YtmmpogfbhelioaaGreat
/-
  Contract: whether a machine is whole, and what that says.
  Conditions: numbers that fit their kinds, lists that can be counted.
-/
namespace Go.Proofs.YtmmpogfbhelioaaGreat
set_option maxRecDepth 10000
set_option linter.unusedVariables false
set_option linter.unusedSimpArgs false
theorem nmK5 {p : Prop} (h : p := by (try simp only [List.getElem?_toArray, List.getElem?_cons_zero, List.getElem?_cons_succ, List.setIfInBounds_toArray, List.set_cons_zero, List.set_cons_succ, List.toList_toArray, List.drop_zero, List.drop_succ_cons, List.take_zero, List.take_succ_cons, Nat.zero_add, Nat.add_zero, Nat.reduceAdd, putCells, En.cells, Mac.cells, Pe.cells, Pe.pcells, Nd.cells]) <;> rfl) : p := h
theorem goK5 {G H : Prop} (h : H) (s : Stp G H := by (apply Stp.of; intro hS; (first | (refine q_ld bk_ nmK5 ?_) | (refine q_ldU bk_ rfl nmK5 ?_) | (refine q_ldW bk_ (by rfl) ?_) | (refine q_ldWU bk_ rfl (by rfl) ?_) | (refine q_ldP bk_ (Nat.le_of_ble_eq_true rfl) nmK5 ?_) | (refine q_ldPU bk_ rfl (Nat.le_of_ble_eq_true rfl) nmK5 ?_) | (refine q_ext nmK5 ?_) | (refine u_st bk_ (Nat.le_of_ble_eq_true rfl) (by first | rfl | assumption) nmK5 ?_) | (refine u_stA bk_ (Nat.le_of_ble_eq_true rfl) (by rfl) (by rfl) nmK5 ?_) | (refine q_field nmK5 ?_)); exact hS.out)) : G := s.f h
theorem lfK5 {p : Prop} (h : p := by (repeat (first | assumption | refine Sl.ex (by assumption) ?_ | refine PE.ex (by assumption) ?_ | refine PEs.ex (by assumption) ?_ | refine PC.ex (by assumption) ?_ | refine PM.ex (by assumption) ?_ | refine PS.ex (by assumption) ?_ | refine PN.ex (by assumption) ?_ | refine PBo.ex (by assumption) ?_ | refine PN1.ex (by assumption) ?_ | refine PB1.ex (by assumption) ?_ | refine Mp.ex (by assumption) ?_ | refine It.ex (by assumption) ?_ | refine Own.ex (by assumption) ?_ | refine IsCf.ex (by assumption) ?_ | refine IsMac.ex (by assumption) ?_ | refine Cu.ex (by assumption) ?_ | refine PE.mt rfl (by assumption) ?_ | refine PEs.mt rfl (by assumption) ?_ | refine PC.mt rfl (by assumption) ?_ | refine PM.mt rfl (by assumption) ?_ | refine PS.mt rfl (by assumption) ?_ | refine PBo.mt rfl (by assumption) ?_ | refine PB1.mt rfl (by assumption) ?_ | refine Sl.typ (by assumption) ?_ rfl | refine PN.mt rfl (by assumption) ?_ | refine PN1.mt rfl (by assumption) ?_))) : p := h
set_option linter.unusedVariables false
set_option linter.unusedSimpArgs false
set_option maxHeartbeats 4000000
attribute [local irreducible] Instr.box Instr.alloc Instr.loadAt Instr.storeAt Instr.fieldAt Instr.indexAt Instr.build Instr.buildSlice Instr.makeSlice Instr.makeMap Instr.mapUpdate Instr.lookup Instr.range Instr.next Instr.entry Instr.extract Instr.makeInterface Instr.makeFunc Instr.sliceAt Instr.typeAssert Instr.field Instr.index Builtin.len_ Builtin.cap_ Builtin.max_ Builtin.min_ Builtin.append_ Builtin.copy_ Builtin.delete_ convert binS pickS nilS callV callM Op.unary Own Mp It Cu


variable {K : Value → World → Prop} {w : World} {te : Option Nat}

theorem lasti_eq {m : Mac} (hr : RowOk m.base.i m.base.t (m.st ++ m.fr) m.term) : (((m.st ++ m.fr).getLast?.map (·.i)).getD m.base.i) = m.lasti := by
  unfold Mac.lasti
  cases hg : (m.st ++ m.fr).getLast? with
  | none =>
    have := List.getLast?_eq_none_iff.1 hg
    rw [this]; simp
  | some e =>
    rw [List.getLast?_eq_getElem?] at hg
    have := (hr.at_ _ e hg).1
    have hl := (List.getElem?_eq_some_iff.1 hg).1
    simp only [Option.map_some, Option.getD_some, this]
    omega

theorem k9_3 {m : Mac} {b1 : Nat} (hbm : Bk w b1 (.cells m.cells 32 (0, 0))) (hm : IsMac w m) (ok : MacOk m) (fit : MacFit m) (hlast : 0 ≤ m.lasti ∧ m.lasti ≤ 2199023255552) (hvo : m.vo.length ≤ 9) (hle : m.le.length ≤ 4)
    (h : ∀ b w', Ex w w' → (b = true → WholeP m ∧ 1 ≤ m.hb ∧ (m.hb < m.el ∧ m.el ≤ 30) ∧ (m.el ≤ m.to ∧ m.to < 2 * m.el)) → K (.bool b) w') : t9_3 w (.pointer (some ⟨b1, 0, none⟩)) K (.int .u64 m.lasti) := by
  unfold t9_3
  (repeat (first | (refine go ?_; intros) | (refine goK5 ?_; intros) | (refine q_lenSl lfK5 ?_) | (refine gd_sf (fun hg => ?_) (fun hg => ?_); rotate_left 1; (rw [hg]; (repeat (first | refine gd_tf ?_ | refine gd_un ?_ | refine q_pick_t ?_ | refine if_t ?_)); exact h false _ ex_ (fun hf => by cases hf)); rw [hg]) | (refine if_split (fun hg => ?_) (fun hg => ?_); (exact h false _ ex_ (fun hf => by cases hf)))))
  refine k9_2 hbm hm ok fit hlast hvo hle fun b w1 e1 hb => ?_
  refine h b w1 e1 fun hbt => ⟨hb hbt, ?_, ⟨?_, ?_⟩, ⟨?_, ?_⟩⟩
  · have : ¬ m.hb < 1 := of_decide_eq_false (by assumption)
    omega
  · have : ¬ m.el ≤ m.hb := of_decide_eq_false (by assumption)
    omega
  · have : ¬ 30 < m.el := of_decide_eq_false (by assumption)
    omega
  · have : ¬ m.to < m.el := of_decide_eq_false (by assumption)
    omega
  · have h1 := ok.el
    have h2 : ¬ 30 < m.el := of_decide_eq_false (by assumption)
    have h3 : ¬ m.hb < 1 := of_decide_eq_false (by assumption)
    have h4 : ¬ m.el ≤ m.hb := of_decide_eq_false (by assumption)
    have : ¬ (IntKind.i64.wrap (2 * m.el) ≤ m.to) := of_decide_eq_false (by assumption)
    rw [wrap64 (by omega) (by omega)] at this
    omega

theorem k9_4 {m : Mac} {b1 : Nat} (hbm : Bk w b1 (.cells m.cells 32 (0, 0))) (hm : IsMac w m) (ok : MacOk m) (fit : MacFit m) (hl : m.st.length + m.fr.length ≤ 1000000000000) (hr : RowOk m.base.i m.base.t (m.st ++ m.fr) m.term) (hbi : 1 ≤ m.base.i ∧ m.base.i ≤ 1099511627776) (hvo : m.vo.length ≤ 9) (hle : m.le.length ≤ 4)
    (h : ∀ b w', Ex w w' → (b = true → WholeP m ∧ 1 ≤ m.hb ∧ (m.hb < m.el ∧ m.el ≤ 30) ∧ (m.el ≤ m.to ∧ m.to < 2 * m.el) ∧ (m.base.i ≤ m.commit ∧ m.commit ≤ m.lasti) ∧ (m.base.i ≤ m.applied ∧ m.applied ≤ m.commit) ∧ m.tr = 0) → K (.bool b) w') :
    t9_4 w (.pointer (some ⟨b1, 0, none⟩)) K := by
  unfold t9_4
  obtain ⟨p1, p2, p3, p4, _⟩ := hm.one1
  (repeat (first | (refine go ?_; intros) | (refine goK5 ?_; intros) | (refine q_lenSl lfK5 ?_)))
  refine cl_fn (k12 hm hl fun lv w1 e1 o1 => ?_)
  refine cl_fn (k19 (n := m.nd lv) (te := some 56) o1.sl ⟨p1, p2, p3, p4⟩ fun w2 e2 => ?_)
  rw [show ((m.nd lv).log.getLast?.map (·.i)).getD (m.nd lv).base.i = m.lasti from lasti_eq hr]
  (repeat (first | (refine go ?_; intros) | (refine goK5 ?_; intros) | (refine q_lenSl lfK5 ?_) | (refine gd_sf (fun hg => ?_) (fun hg => ?_); rotate_left 1; (rw [hg]; (repeat (first | refine gd_tf ?_ | refine gd_un ?_ | refine q_pick_t ?_ | refine if_t ?_)); exact h false _ ex_ (fun hf => by cases hf)); rw [hg]) | (refine if_split (fun hg => ?_) (fun hg => ?_); (exact h false _ ex_ (fun hf => by cases hf)))))
  have hla : m.lasti = m.base.i + (m.st ++ m.fr).length := rfl
  have hrl := hr.len
  refine k9_3 bk_ (hm.ex ex_) ok fit ⟨by omega, by omega⟩ hvo hle fun b w3 e3 hb => ?_
  refine h b w3 ex_ fun hbt => ?_
  obtain ⟨h1, h2, h3, h4⟩ := hb hbt
  have g1 : ¬ m.commit < m.base.i := of_decide_eq_false (by assumption)
  have g2 : ¬ m.lasti < m.commit := of_decide_eq_false (by assumption)
  have g3 : ¬ m.applied < m.base.i := of_decide_eq_false (by assumption)
  have g4 : ¬ m.commit < m.applied := of_decide_eq_false (by assumption)
  have g5 : m.tr = 0 := by
    have := (by assumption : (!m.tr == 0) = false)
    simpa using this
  exact ⟨h1, h2, h3, h4, ⟨by omega, by omega⟩, ⟨by omega, by omega⟩, g5⟩

theorem k9 {m : Mac} (hm : IsMac w m) (ok : MacOk m) (fit : MacFit m) (hl : m.st.length + m.fr.length ≤ 1000000000000) (h : ∀ b w', Ex w w' → (b = true → Whole m) → K (.bool b) w') : CK Pr 9 #[.agg m.cells] w K := by
  refine c9 ?_
  unfold t9
  obtain ⟨o1, o2, o3, o4, o5, o6, o7, o8, o9, o10⟩ := hm.one1
  refine e_boxA fun b1 w1 e1 hb1 sa1 sa2 => ?_
  (repeat (first | (refine go ?_; intros) | (refine goK5 ?_; intros) | (refine q_lenSl lfK5 ?_)))
  refine b25_0_1 o7 o8 ?_
  refine e_allocA fun b2 w2 e2 hb2 sb1 sb2 => ?_
  refine u_stA hb2 (Nat.le_of_ble_eq_true rfl) (by rfl) (by simp only [List.all_cons, List.all_nil, o7, o8]; rfl) nmK5 fun w3 u3 hb3 z3 => ?_
  clear hb2
  (repeat (first | (refine go ?_; intros) | (refine goK5 ?_; intros) | (refine q_lenSl lfK5 ?_)))
  refine cl_fn (k20 ?_)
  (repeat (first | (refine go ?_; intros) | (refine goK5 ?_; intros) | (refine q_lenSl lfK5 ?_) | (refine gd_sf (fun hg => ?_) (fun hg => ?_); rotate_left 1; (rw [hg]; (repeat (first | refine gd_tf ?_ | refine gd_un ?_ | refine q_pick_t ?_ | refine if_t ?_)); exact h false _ ex_ (fun hf => by cases hf)); rw [hg]) | (refine if_split (fun hg => ?_) (fun hg => ?_); (exact h false _ ex_ (fun hf => by cases hf)))))
  have hcf : ∀ w', Ex w3 w' → IsCf w' m.voV m.leV (.slice none 0 0) (.slice none 0 0) m.cf := fun w' e => by
    have e' : Ex w w' := by exact ex_
    exact ⟨hm.vo.ex e', hm.le.ex e', .nil _ _, .nil _ _⟩
  refine cl_fn (k26 (c := m.cf) (hcf _ (.refl _ _ _)) (by simp [Mac.cf]) (by simp [Mac.cf]) fun bm w4 e4 fm => ?_)
  cases bm
  · (repeat (first | (refine go ?_; intros) | (refine goK5 ?_; intros) | (refine q_lenSl lfK5 ?_)))
    exact h false _ ex_ (fun hf => by cases hf)
  (repeat (first | (refine go ?_; intros) | (refine goK5 ?_; intros) | (refine q_lenSl lfK5 ?_) | (refine gd_sf (fun hg => ?_) (fun hg => ?_); rotate_left 1; (rw [hg]; (repeat (first | refine gd_tf ?_ | refine gd_un ?_ | refine q_pick_t ?_ | refine if_t ?_)); exact h false _ ex_ (fun hf => by cases hf)); rw [hg]) | (refine if_split (fun hg => ?_) (fun hg => ?_); (exact h false _ ex_ (fun hf => by cases hf)))))
  refine cl_fn (k27 (hm.ex ex_) fun w5 e5 => ?_)
  (repeat (first | (refine go ?_; intros) | (refine goK5 ?_; intros) | (refine q_lenSl lfK5 ?_) | (refine gd_sf (fun hg => ?_) (fun hg => ?_); rotate_left 1; (rw [hg]; (repeat (first | refine gd_tf ?_ | refine gd_un ?_ | refine q_pick_t ?_ | refine if_t ?_)); exact h false _ ex_ (fun hf => by cases hf)); rw [hg]) | (refine if_split (fun hg => ?_) (fun hg => ?_); (exact h false _ ex_ (fun hf => by cases hf)))))
  unfold t9_5
  refine dr_rule No [] fun w6 e6 z6 => ?_
  (repeat (first | (refine go ?_; intros) | (refine goK5 ?_; intros) | (refine q_lenSl lfK5 ?_) | (refine gd_sf (fun hg => ?_) (fun hg => ?_); rotate_left 1; (rw [hg]; (repeat (first | refine gd_tf ?_ | refine gd_un ?_ | refine q_pick_t ?_ | refine if_t ?_)); exact h false _ ex_ (fun hf => by cases hf)); rw [hg]) | (refine if_split (fun hg => ?_) (fun hg => ?_); (exact h false _ ex_ (fun hf => by cases hf)))))
  refine cl_fn (k26 (c := m.base.c) (hm.ex ex_).cf fit.cf.o fit.cf.n fun bm w7 e7 fb => ⟨e7, ?_⟩)
  cases bm
  · (repeat (first | (refine go ?_; intros) | (refine goK5 ?_; intros) | (refine q_lenSl lfK5 ?_)))
    exact h false _ ex_ (fun hf => by cases hf)
  (repeat (first | (refine go ?_; intros) | (refine goK5 ?_; intros) | (refine q_lenSl lfK5 ?_) | (refine gd_sf (fun hg => ?_) (fun hg => ?_); rotate_left 1; (rw [hg]; (repeat (first | refine gd_tf ?_ | refine gd_un ?_ | refine q_pick_t ?_ | refine if_t ?_)); exact h false _ ex_ (fun hf => by cases hf)); rw [hg]) | (refine if_split (fun hg => ?_) (fun hg => ?_); (exact h false _ ex_ (fun hf => by cases hf)))))
  refine cl_fn (k12 (hm.ex ex_) hl fun lv w8 e8 o8 => ⟨by exact ex_, ?_⟩)
  (repeat (first | (refine go ?_; intros) | (refine goK5 ?_; intros) | (refine q_lenSl lfK5 ?_) | (refine gd_sf (fun hg => ?_) (fun hg => ?_); rotate_left 1; (rw [hg]; (repeat (first | refine gd_tf ?_ | refine gd_un ?_ | refine q_pick_t ?_ | refine if_t ?_)); exact h false _ ex_ (fun hf => by cases hf)); rw [hg]) | (refine if_split (fun hg => ?_) (fun hg => ?_); (exact h false _ ex_ (fun hf => by cases hf)))))
  refine cl_fn (k28 (l := m.st ++ m.fr) (te := some 56) o8.sl ?_ fun bm w9 e9 fr => ⟨by exact ex_, ?_⟩)
  · have : ¬ m.base.i < 1 := of_decide_eq_false (by assumption)
    have : ¬ 1099511627776 < m.base.i := of_decide_eq_false (by assumption)
    omega
  cases bm
  · (repeat (first | (refine go ?_; intros) | (refine goK5 ?_; intros) | (refine q_lenSl lfK5 ?_)))
    exact h false _ ex_ (fun hf => by cases hf)
  (repeat (first | (refine go ?_; intros) | (refine goK5 ?_; intros) | (refine q_lenSl lfK5 ?_) | (refine gd_sf (fun hg => ?_) (fun hg => ?_); rotate_left 1; (rw [hg]; (repeat (first | refine gd_tf ?_ | refine gd_un ?_ | refine q_pick_t ?_ | refine if_t ?_)); exact h false _ ex_ (fun hf => by cases hf)); rw [hg]) | (refine if_split (fun hg => ?_) (fun hg => ?_); (exact h false _ ex_ (fun hf => by cases hf)))))
  have hrow := fr rfl
  have hmem := fm rfl
  have hb1' : Bk w9 b1 (.cells m.cells 32 (0, 0)) := by exact bk_
  have g1 : ¬ m.base.i < 1 := of_decide_eq_false (by assumption)
  have g2 : ¬ 1099511627776 < m.base.i := of_decide_eq_false (by assumption)
  refine k9_4 hb1' (hm.ex ex_) ok fit hl hrow ⟨by omega, by omega⟩ hmem.v9 hmem.l4 fun b w10 e10 hb => ?_
  refine h b w10 ex_ fun hbt => ?_
  obtain ⟨p, q1, q2, q3, q4, q5, q6⟩ := hb hbt
  have f1 : 0 < m.id ∧ m.id < 1099511627776 := by
    have := (by assumption : (!(decide (0 < m.id) && decide (m.id < 1099511627776))) = false)
    simpa using this
  have f2 : ¬ m.term < 1 := of_decide_eq_false (by assumption)
  have f3 : ¬ 1099511627776 < m.term := of_decide_eq_false (by assumption)
  have f4 : ¬ 1099511627776 ≤ m.vote := of_decide_eq_false (by assumption)
  have f5 : ¬ 1099511627776 ≤ m.lead := of_decide_eq_false (by assumption)
  have f6 : ¬ m.role < 0 := of_decide_eq_false (by assumption)
  have f7 : ¬ 3 < m.role := of_decide_eq_false (by assumption)
  have f8 : m.id ∈ m.vo ∨ m.id ∈ m.le := by
    have := (by assumption : (!(decide (m.id ∈ m.vo) || decide (m.id ∈ m.le))) = false)
    rcases Classical.em (m.id ∈ m.vo) with h1 | h1
    · exact .inl h1
    · rcases Classical.em (m.id ∈ m.le) with h2 | h2
      · exact .inr h2
      · simp [h1, h2] at this
  have f9 : ¬ m.base.t < 1 := of_decide_eq_false (by assumption)
  have f10 : ¬ (100 : Int) < (m.base.d.size : Nat) := of_decide_eq_false (by assumption)
  exact ⟨f1, ⟨by omega, by omega⟩, by omega, by omega, ⟨by omega, by omega⟩, hmem, f8, ⟨by omega, by omega⟩, by omega, by omega, fb rfl, hrow, q4, q5, q6, q1, q2, q3, p.pe, p.srt, p.pes, p.vs⟩

end Go.Proofs.YtmmpogfbhelioaaGreat
