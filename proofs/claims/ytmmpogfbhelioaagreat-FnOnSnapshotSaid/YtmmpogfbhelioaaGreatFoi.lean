/-
  PARTS: K46 K47 K48 K51 K52 K53 Gd K24 K29 K30 K34 K25 K54 K32 K59 K60 K61 Eq K26 K55.
-/
import Derived.Test.YtmmpogfbhelioaaGreatFoh
import Derived.Test.YtmmpogfbhelioaaGreatFoa
import Derived.Defers
import Derived.Recover
import Derived.Tactics
import Derived.Tactics2
import Derived.Laws.Pointers
import Derived.Test.YtmmpogfbhelioaaGreatFob
/-
  Contracts: the changes out of a configuration; a chain of them; Restore.
  Conditions: the configuration is not joint, all its members differ, and there is a voter.
-/
namespace Go.Proofs.YtmmpogfbhelioaaGreat
set_option maxRecDepth 10000
set_option linter.unusedVariables false
set_option linter.unusedSimpArgs false
attribute [local irreducible] Instr.box Instr.alloc Instr.loadAt Instr.storeAt Instr.fieldAt Instr.indexAt Instr.build Instr.buildSlice Instr.makeSlice Instr.makeMap Instr.mapUpdate Instr.lookup Instr.range Instr.next Instr.entry Instr.extract Instr.makeInterface Instr.makeFunc Instr.sliceAt Instr.typeAssert Instr.field Instr.index Builtin.len_ Builtin.cap_ Builtin.max_ Builtin.min_ Builtin.append_ Builtin.copy_ Builtin.delete_ convert binS pickS nilS callV callM Op.unary Own Mp It Cu

variable {K : Value → World → Prop} {w : World} {te : Option Nat}

theorem k215 {n : Int} (h : ∀ b' w', Ex w w' → w.heap.size ≤ b' → Bk w' b' (.cells #[.int .i32 n] 306 (0, 0)) → K (.pointer (some ⟨b', 0, none⟩)) w') : CK Pr 215 #[.int .i32 n] w K := by
  refine c215 ?_
  unfold t215
  (repeat (first | (refine go ?_; intros) | (refine gon ?_; intros)))
  rename_i b1 w1 e1 hb1 s1 s2 w2 u2 hb2 z2
  exact h b1 w2 (e1.new u2 (by intro x hx; subst hx; omega)) (by omega) hb2

/-- Lists of pointers to changes. -/
inductive PChs : List Value → List (Int × Int) → World → Prop where
  | nil (w : World) : PChs [] [] w
  | cons {v : Value} {e : Int × Int} {vs : List Value} {es : List (Int × Int)} {w : World} (h : PCh v e.1 e.2 w) (r : PChs vs es w) : PChs (v :: vs) (e :: es) w
theorem PChs.ex {vs : List Value} {es : List (Int × Int)} {w' : World} (u : Ex w w') (h : PChs vs es w) : PChs vs es w' := by
  induction h with
  | nil => exact .nil _
  | cons h r ih => exact .cons (h.ex u) (ih u)
theorem PChs.mt {vs : List Value} {es : List (Int × Int)} {w' : World} {C : Nat → Prop} {T : List Nat} (u : Up C T w w') (hT : (T.contains 311 || T.contains 308 || T.contains 24) = false) (h : PChs vs es w) : PChs vs es w' := by
  induction h with
  | nil => exact .nil _
  | cons h r ih => exact .cons (h.mt u hT) (ih u)
theorem PChs.len {vs : List Value} {es : List (Int × Int)} (h : PChs vs es w) : vs.length = es.length := by
  induction h with
  | nil => rfl
  | cons _ _ ih => simp [ih]
theorem PChs.app {vs us : List Value} {es fs : List (Int × Int)} (h : PChs vs es w) (h' : PChs us fs w) : PChs (vs ++ us) (es ++ fs) w := by
  induction h with
  | nil => exact h'
  | cons h _ ih => exact .cons h (ih h')
theorem PChs.get {vs : List Value} {es : List (Int × Int)} (h : PChs vs es w) {i : Nat} {v : Value} (hv : vs[i]? = some v) : ∃ e, es[i]? = some e ∧ PCh v e.1 e.2 w := by
  induction h generalizing i with
  | nil => simp at hv
  | cons h r ih =>
    cases i with
    | zero => simp at hv; subst hv; exact ⟨_, rfl, h⟩
    | succ i => simpa using ih (by simpa using hv)

/-- The changes that make a configuration of voters and learners. -/
def chs (k : Int) (l : List Int) : List (Int × Int) := l.map fun x => (k, x)

-- the changes out of a configuration
theorem k150 {v : Value} {c : Cf} (hc : PC v c w) (ho : c.o = []) (hn : c.n = []) (hl : c.v.length ≤ 9 ∧ c.l.length ≤ 4) (h : ∀ v' us w', Ex w w' → Sl w' (some 251) 1 v' (ones us) → PChs us (chs 0 c.v ++ chs 3 c.l) w' → K (.tuple #[.slice none 0 0, v']) w') : CK Pr 150 #[v] w K := by
  refine c150 ?_
  unfold t150
  obtain ⟨b, v1, v2, v3, v4, v5, rfl, hb, h1, h2, h3, h4, h5⟩ := hc
  rw [ho] at h3
  rw [hn] at h4
  (repeat (first | (refine go ?_; intros) | (refine gon ?_; intros)))
  refine loop_n (α := Unit) (fun _ τ w' => g τ 0 = .slice none 0 0 ∧ g τ 2 = .int .i64 0 ∧ w' = w) (fun _ => 0) () ⟨rfl, rfl, rfl⟩ ?_
  rintro _ τ w' R ⟨h00, h02, rfl⟩ hR
  rw [h02]
  (repeat (first | (refine go ?_; intros) | (refine gon ?_; intros)))
  unfold t150_3
  (repeat (first | (refine go ?_; intros) | (refine gon ?_; intros)))
  refine loop_n (α := Unit) (fun _ τ1 w1 => g τ1 0 = .slice none 0 0 ∧ g τ1 2 = .int .i64 0 ∧ w1 = w') (fun _ => 0) () ⟨rfl, rfl, rfl⟩ ?_
  rintro _ τ1 w1 R1 ⟨h10, h12, rfl⟩ hR1
  rw [h12]
  (repeat (first | (refine go ?_; intros) | (refine gon ?_; intros)))
  unfold t150_2
  rw [h10]
  (repeat (first | (refine go ?_; intros) | (refine gon ?_; intros)))
  refine loop_n (α := Nat × List Value) (fun a τ2 w2 => g τ2 2 = .int .i64 (a.1 : Nat) ∧ a.1 ≤ c.v.length ∧ a.2.length = a.1 ∧ Ex w1 w2 ∧ Own w2 w1.heap.size 251 1 (g τ2 0) (ones a.2) ∧ PChs a.2 (chs 0 (c.v.take a.1)) w2) (fun a => c.v.length - a.1) (0, []) ⟨rfl, Nat.zero_le _, rfl, .refl _ _ _, Own.nil _ _ _ _, .nil _⟩ ?_
  rintro ⟨j, us⟩ τ2 w2 R2 ⟨hj, hle, hul, ex, own, pcs⟩ hR2
  simp only at hj hle hul own pcs hR2
  rw [hj]
  (repeat (first | (refine go ?_; intros) | (refine gon ?_; intros)))
  rw [nums_len]
  have zx := ex.size
  refine if_split (fun hbj => ?_) (fun hbj => ?_)
  · have hj' : j < c.v.length := by simpa using hbj
    obtain ⟨x, hx⟩ : ∃ x, c.v[j]? = some x := ⟨_, List.getElem?_eq_getElem hj'⟩
    refine q_ixs (x := .int .u64 x) j (h1.ex ex) rfl (by simp [nums, hx]) fun _ => ?_
    refine cl_fn (k215 fun kb w3 e3 s3 hkb => ?_)
    (repeat (first | (refine go ?_; intros) | (refine gon ?_; intros) | refine b309_0_1 (by first | rfl | assumption) (by first | rfl | assumption) ?_))
    rename_i nb w4 e4 hnb s4 s4' cb w5 e5 hcb s5 s5'
    have E5 : Ex w2 w5 := (e3.trans e4).trans e5
    have hp : PCh (.pointer (some ⟨cb, 0, none⟩)) 0 x w5 := ⟨cb, _, _, rfl, hcb, ⟨kb, rfl, e5.at_ (e4.at_ hkb)⟩, ⟨nb, rfl, e5.at_ hnb⟩⟩
    have zz3 := e3.size
    refine e_push1 (base := w1.heap.size) (own.ex E5) rfl (by simp [ones, hul]; omega) (by simp [ones, hul]; omega) (by omega) fun s6 v6 w6 u6 own6 hb6 z6 => ?_
    have lt := own.lt
    have e56 : Ex w1 w6 := (ex.trans E5).new u6 (by intro y hy; exact (lt y hy).1)
    (repeat (first | (refine go ?_; intros) | (refine gon ?_; intros)))
    rw [wrapS (by omega)]
    refine hR2 (j + 1, us ++ [.pointer (some ⟨cb, 0, none⟩)]) _ _ ⟨rfl, by show j + 1 ≤ _; omega, by simp [hul], e56, ?_, ?_⟩ (by show c.v.length - (j + 1) < _; omega)
    · have : ones (us ++ [.pointer (some ⟨cb, 0, none⟩)]) = ones us ++ [[.pointer (some ⟨cb, 0, none⟩)]] := by simp [ones]
      rw [this]
      exact own6
    · rw [take_snoc hx]
      have := ((pcs.ex E5).app (.cons (e := (0, x)) hp (.nil _))).mt u6 rfl
      simpa [chs] using this
  · have hjl : j = c.v.length := by
      have := of_decide_eq_false hbj
      omega
    subst hjl
    rw [List.take_length] at pcs
    unfold t150_1
    have hbw := ex.at_ hb
    (repeat (first | (refine go ?_; intros) | (refine gon ?_; intros)))
    refine loop_n (α := Nat × List Value) (fun a τ3 w3 => g τ3 2 = .int .i64 (a.1 : Nat) ∧ a.1 ≤ c.l.length ∧ a.2.length = a.1 + us.length ∧ Ex w1 w3 ∧ Own w3 w1.heap.size 251 1 (g τ3 0) (ones a.2) ∧ PChs a.2 (chs 0 c.v ++ chs 3 (c.l.take a.1)) w3) (fun a => c.l.length - a.1) (0, us) ⟨rfl, Nat.zero_le _, by simp, ex, own, by simpa [chs] using pcs⟩ ?_
    rintro ⟨j, qs⟩ τ3 w3 R3 ⟨hj, hle, hql, ex3, own3, pcs3⟩ hR3
    simp only at hj hle hql own3 pcs3 hR3
    rw [hj]
    (repeat (first | (refine go ?_; intros) | (refine gon ?_; intros)))
    rw [nums_len]
    have zx3 := ex3.size
    refine if_split (fun hbj => ?_) (fun hbj => ?_)
    · have hj' : j < c.l.length := by simpa using hbj
      obtain ⟨x, hx⟩ : ∃ x, c.l[j]? = some x := ⟨_, List.getElem?_eq_getElem hj'⟩
      refine q_ixs (x := .int .u64 x) j (h2.ex ex3) rfl (by simp [nums, hx]) fun _ => ?_
      refine cl_fn (k215 fun kb w4 e4 s4 hkb => ?_)
      (repeat (first | (refine go ?_; intros) | (refine gon ?_; intros) | refine b309_0_1 (by first | rfl | assumption) (by first | rfl | assumption) ?_))
      rename_i nb w5 e5 hnb s5 s5' cb w6 e6 hcb s6 s6'
      have E6 : Ex w3 w6 := (e4.trans e5).trans e6
      have hp : PCh (.pointer (some ⟨cb, 0, none⟩)) 3 x w6 := ⟨cb, _, _, rfl, hcb, ⟨kb, rfl, e6.at_ (e5.at_ hkb)⟩, ⟨nb, rfl, e6.at_ hnb⟩⟩
      have zz4 := e4.size
      refine e_push1 (base := w1.heap.size) (own3.ex E6) rfl (by simp [ones, hql, hul]; omega) (by simp [ones, hql, hul]; omega) (by omega) fun s7 v7 w7 u7 own7 hb7 z7 => ?_
      have lt := own3.lt
      have e67 : Ex w1 w7 := (ex3.trans E6).new u7 (by intro y hy; exact (lt y hy).1)
      (repeat (first | (refine go ?_; intros) | (refine gon ?_; intros)))
      rw [wrapS (by omega)]
      refine hR3 (j + 1, qs ++ [.pointer (some ⟨cb, 0, none⟩)]) _ _ ⟨rfl, by show j + 1 ≤ _; omega, by simp [hql]; omega, e67, ?_, ?_⟩ (by show c.l.length - (j + 1) < _; omega)
      · have : ones (qs ++ [.pointer (some ⟨cb, 0, none⟩)]) = ones qs ++ [[.pointer (some ⟨cb, 0, none⟩)]] := by simp [ones]
        rw [this]
        exact own7
      · rw [take_snoc hx]
        have := ((pcs3.ex E6).app (.cons (e := (3, x)) hp (.nil _))).mt u7 rfl
        simpa [chs] using this
    · have hjl : j = c.l.length := by
        have := of_decide_eq_false hbj
        omega
      subst hjl
      rw [List.take_length] at pcs3
      have hbw3 := ex3.at_ hb
      (repeat (first | (refine go ?_; intros) | (refine gon ?_; intros)))
      refine loop_n (α := Unit) (fun _ τ4 w4 => g τ4 0 = g τ3 0 ∧ g τ4 2 = .int .i64 0 ∧ w4 = w3) (fun _ => 0) () ⟨rfl, rfl, rfl⟩ ?_
      rintro _ τ4 w4 R4 ⟨h40, h42, rfl⟩ hR4
      rw [h42, h40, h00]
      (repeat (first | (refine go ?_; intros) | (refine gon ?_; intros)))
      exact h _ qs _ ex3 own3.sl pcs3

end Go.Proofs.YtmmpogfbhelioaaGreat
/-
  Contracts: a chain of changes; Restore.
  Conditions: the configuration is not joint, all its members differ, and there is a voter.
-/
namespace Go.Proofs.YtmmpogfbhelioaaGreat
set_option maxRecDepth 10000
set_option linter.unusedVariables false
set_option linter.unusedSimpArgs false
attribute [local irreducible] Instr.box Instr.alloc Instr.loadAt Instr.storeAt Instr.fieldAt Instr.indexAt Instr.build Instr.buildSlice Instr.makeSlice Instr.makeMap Instr.mapUpdate Instr.lookup Instr.range Instr.next Instr.entry Instr.extract Instr.makeInterface Instr.makeFunc Instr.sliceAt Instr.typeAssert Instr.field Instr.index Builtin.len_ Builtin.cap_ Builtin.max_ Builtin.min_ Builtin.append_ Builtin.copy_ Builtin.delete_ convert binS pickS nilS callV callM Op.unary Own Mp It Cu

variable {K : Value → World → Prop} {w : World} {te : Option Nat}

/-- Lists of functions that make a change each. -/
inductive PFs : List Value → List (Int × Int) → World → Prop where
  | nil (w : World) : PFs [] [] w
  | cons {b : Nat} {p : Value} {e : Int × Int} {vs : List Value} {es : List (Int × Int)} {w : World} (hb : Bk w b (.cells #[p] 251 (0, 0))) (h : PCh p e.1 e.2 w) (r : PFs vs es w) : PFs (.func (.func 151) #[] #[.pointer (some ⟨b, 0, none⟩)] :: vs) (e :: es) w
theorem PFs.mt {vs : List Value} {es : List (Int × Int)} {w' : World} {C : Nat → Prop} {T : List Nat} (u : Up C T w w') (hT : (T.contains 311 || T.contains 308 || T.contains 24) = false) (h2 : T.contains 253 = false) (h : PFs vs es w) : PFs vs es w' := by
  induction h with
  | nil => exact .nil _
  | cons hb h r ih => exact .cons (u.at_ hb h2) (h.mt u hT) (ih u)
theorem PFs.ex {vs : List Value} {es : List (Int × Int)} {w' : World} (u : Ex w w') (h : PFs vs es w) : PFs vs es w' := h.mt u rfl rfl
theorem PFs.len {vs : List Value} {es : List (Int × Int)} (h : PFs vs es w) : vs.length = es.length := by
  induction h with
  | nil => rfl
  | cons _ _ _ ih => simp [ih]
theorem PFs.snoc {b : Nat} {p : Value} {e : Int × Int} {vs : List Value} {es : List (Int × Int)} (h : PFs vs es w) (hb : Bk w b (.cells #[p] 251 (0, 0))) (hp : PCh p e.1 e.2 w) : PFs (vs ++ [.func (.func 151) #[] #[.pointer (some ⟨b, 0, none⟩)]]) (es ++ [e]) w := by
  induction h with
  | nil => exact .cons hb hp (.nil _)
  | cons q1 q2 _ ih => exact .cons q1 q2 (ih hb hp)
theorem PFs.get {vs : List Value} {es : List (Int × Int)} (h : PFs vs es w) {i : Nat} {v : Value} (hv : vs[i]? = some v) : ∃ e b p, es[i]? = some e ∧ v = .func (.func 151) #[] #[.pointer (some ⟨b, 0, none⟩)] ∧ Bk w b (.cells #[p] 251 (0, 0)) ∧ PCh p e.1 e.2 w := by
  induction h generalizing i with
  | nil => simp at hv
  | cons hb h r ih =>
    cases i with
    | zero => simp at hv; subst hv; exact ⟨_, _, _, rfl, rfl, hb, h⟩
    | succ i => simpa using ih (by simpa using hv)

def accX (l : List (Int × Int)) : List Int := (l.filter fun e => decide (e.1 = 0)).map (·.2)
def accY (l : List (Int × Int)) : List Int := (l.filter fun e => decide (e.1 ≠ 0)).map (·.2)
theorem accX_snoc (l : List (Int × Int)) (e : Int × Int) : accX (l ++ [e]) = chX e.1 e.2 (accX l) := by
  unfold accX chX
  rw [List.filter_append, List.map_append]
  by_cases h : e.1 = 0 <;> simp [h]
theorem accY_snoc (l : List (Int × Int)) (e : Int × Int) : accY (l ++ [e]) = chY e.1 e.2 (accY l) := by
  unfold accY chY
  rw [List.filter_append, List.map_append]
  by_cases h : e.1 = 0 <;> simp [h]
theorem chX_perm {k x : Int} {l m : List Int} (h : l.Perm m) : (chX k x l).Perm (chX k x m) := by
  unfold chX
  split
  · exact h.append_right _
  · exact h
theorem chY_perm {k x : Int} {l m : List Int} (h : l.Perm m) : (chY k x l).Perm (chY k x m) := by
  unfold chY
  split
  · exact h
  · exact h.append_right _

/-- What changes a chain may have. -/
def ChOk (es : List (Int × Int)) : Prop := ∀ (j : Nat) (e : Int × Int), es[j]? = some e → (e.1 = 0 ∨ e.1 = 3 ∧ accX (es.take j) ≠ []) ∧ e.2 ∉ accX (es.take j) ++ accY (es.take j) ∧ e.2 ≠ 0 ∧ ((accX (es.take j)).length + 1 ≤ 9 ∨ e.1 = 3) ∧ ((accY (es.take j)).length + 1 ≤ 4 ∨ e.1 = 0)

theorem k157 {base vb pm vt : Nat} {lm : Option Nat} {mi mb li : Int} {v : Value} {fs : List Value} {es : List (Int × Int)} (c : CG base vb lm pm [] [] [] w) (hs : Sl w (some 253) 1 v (ones fs)) (hf : PFs fs es w) (ok : ChOk es) (hl : es.length ≤ 100)
    (h : ∀ vb' lm' pm' xs ys ps w', Ex w w' → xs.Perm (accX es) → ys.Perm (accY es) → CG base vb' lm' pm' xs ys ps w' → K (.tuple #[.agg (Cfg vb' lm'), .map (some pm'), .nilIface]) w') :
    CK Pr 157 #[.agg (Chg vb lm pm vt mi mb li), v] w K := by
  refine c157 ?_
  unfold t157
  refine e_boxA fun b1 w1 e1 hb1 s1 s2 => ?_
  refine e_allocA fun b2 w2 e2 hb2 s3 s4 => ?_
  have E2 := e1.trans e2
  have hfl := hf.len
  have zz1 := e1.size
  have zz2 := e2.size
  refine q_lenSl (hs.ex E2) ?_
  rw [show (ones fs).length = es.length by simp [ones, hfl]]
  refine loop_n (α := Nat) (fun j τ w' => g τ 6 = .int .i64 j ∧ j ≤ es.length ∧ Ex w w' ∧ w2.heap.size ≤ w'.heap.size ∧ Bk w' b2 (.cells #[.map none, .map none, .bool false, .map none, .map none] 136 (0, 0)) ∧ ∃ vb lm pm xs ys ps, Bk w' b1 (.cells (Chg vb lm pm vt mi mb li) 209 (0, 0)) ∧ CG base vb lm pm xs ys ps w' ∧ xs.Perm (accX (es.take j)) ∧ ys.Perm (accY (es.take j))) (fun j => es.length - j) 0
    ⟨rfl, Nat.zero_le _, E2, Nat.le_refl _, hb2, vb, lm, pm, [], [], [], e2.at_ hb1, c.ex E2, .refl _, .refl _⟩ ?_
  clear hb1 hb2
  rintro j τ w' R ⟨hj, hle, ex, hz, hb2, vb3, lm3, pm3, xs, ys, ps, hb1, c3, px, py⟩ hR
  rw [hj]
  (repeat (first | (refine go ?_; intros) | (refine goK41 ?_; intros)))
  have zx := ex.size
  refine if_split (fun hbj => ?_) (fun hbj => ?_)
  · have hj' : j < es.length := by simpa using hbj
    obtain ⟨f, hfj⟩ : ∃ f, fs[j]? = some f := ⟨_, List.getElem?_eq_getElem (by omega)⟩
    obtain ⟨e, pb, p, he, rfl, hpb, hpc⟩ := (hf.ex ex).get hfj
    obtain ⟨k1, k2, k3, k4, k5⟩ := ok j e he
    refine q_ixs (x := .func (.func 151) #[] #[.pointer (some ⟨pb, 0, none⟩)]) j (hs.ex ex) rfl (by simp [ones, hfj]) fun _ => ?_
    refine q_ldW hb1 (by rfl) ?_
    have pxy : (xs ++ ys).Perm (accX (es.take j) ++ accY (es.take j)) := List.Perm.append px py
    refine cl_clo (k151 c3 hpb hpc (k1.imp id fun q => ⟨q.1, fun hh => q.2 (by rw [hh] at px; exact List.perm_nil.1 px.symm)⟩) (fun hh => k2 (pxy.mem_iff.1 hh)) k3 (by rw [px.length_eq]; exact k4) (by rw [py.length_eq]; exact k5) fun vb4 lm4 pm4 xs4 ys4 ps4 w4 e4 qx qy c4 => ?_)
    refine q_ext (x := .agg (Cfg vb4 lm4)) rfl ?_
    refine q_ext (x := .map (some pm4)) rfl ?_
    refine q_ext (x := .nilIface) rfl ?_
    refine e_allocA fun b5 w5 e5 hb5 s5 s6 => ?_
    refine u_stA hb5 (Nat.le_of_ble_eq_true rfl) (by rfl) (by rfl) nmK41 fun w6 u6 hb6 z6 => ?_
    have zz4 := e4.size
    have E6 : Ex w' w6 := (e4.trans e5).new u6 (by intro y hy; omega)
    have hb16 := E6.at_ hb1
    have hb26 := E6.at_ hb2
    clear hb1 hb5
    (repeat (first | (refine go ?_; intros) | (refine goK41 ?_; intros)))
    rename_i w7 u7 hb7 z7 w8 u8 hb8 z8
    rw [wrapS (by omega)]
    have U78 : Up (fun x => x = b1) [211] w6 w8 := u7.trans u8
    refine hR (j + 1) _ _ ⟨rfl, by omega, (ex.trans E6).new U78 (by intro y hy; omega), by have := E6.size; omega, U78.at_ hb26 rfl, vb4, lm4, pm4, xs4, ys4, ps4, hb8, ?_, ?_, ?_⟩ (by omega)
    · have c6 : CG base vb4 lm4 pm4 xs4 ys4 ps4 w6 := c4.ex (e5.new u6 (by intro y hy; omega))
      exact ⟨c6.vo.up U78 (.inl rfl), c6.le.up U78 (.inl rfl), c6.pr.up U78 (.inl rfl) (.inl rfl) rfl, c6.keys, c6.nd, c6.lea, c6.lx, c6.ly⟩
    · rw [take_snoc he, accX_snoc]
      exact qx.trans (chX_perm px)
    · rw [take_snoc he, accY_snoc]
      exact qy.trans (chY_perm py)
  · have hjl : j = es.length := by
      have := of_decide_eq_false hbj
      omega
    subst hjl
    rw [List.take_length] at px py
    refine dr_rule (fun x => x = b2) [138] fun w4 e4 z4 => ?_
    have hb14 := e4.at_ hb1
    have hb24 := e4.at_ hb2
    clear hb1 hb2
    (repeat (first | (refine go ?_; intros) | (refine goK41 ?_; intros)))
    rename_i w5 u5 hb5 z5
    refine ⟨u5, ?_⟩
    (repeat (first | (refine go ?_; intros) | (refine goK41 ?_; intros)))
    have c4 := c3.ex e4
    exact h vb3 lm3 pm3 xs ys ps w5 ((ex.trans e4).new u5 (by intro y hy; omega)) px py ⟨c4.vo.up u5 (.inl rfl), c4.le.up u5 (.inl rfl), c4.pr.up u5 (.inl rfl) (.inl rfl) rfl, c4.keys, c4.nd, c4.lea, c4.lx, c4.ly⟩

end Go.Proofs.YtmmpogfbhelioaaGreat
/-
  Contract: Restore of a configuration.
  Conditions: the configuration is not joint, all its members differ, and there is a voter.
-/
namespace Go.Proofs.YtmmpogfbhelioaaGreat
set_option maxRecDepth 10000
set_option linter.unusedVariables false
set_option linter.unusedSimpArgs false
attribute [local irreducible] Instr.box Instr.alloc Instr.loadAt Instr.storeAt Instr.fieldAt Instr.indexAt Instr.build Instr.buildSlice Instr.makeSlice Instr.makeMap Instr.mapUpdate Instr.lookup Instr.range Instr.next Instr.entry Instr.extract Instr.makeInterface Instr.makeFunc Instr.sliceAt Instr.typeAssert Instr.field Instr.index Builtin.len_ Builtin.cap_ Builtin.max_ Builtin.min_ Builtin.append_ Builtin.copy_ Builtin.delete_ convert binS pickS nilS callV callM Op.unary Own Mp It Cu

variable {K : Value → World → Prop} {w : World} {te : Option Nat}

theorem accX_chs (v m : List Int) : accX (chs 0 v ++ chs 3 m) = v := by
  have h1 : (chs 0 v).filter (fun e => decide (e.1 = 0)) = chs 0 v := List.filter_eq_self.2 fun a ha => by
    obtain ⟨x, _, rfl⟩ := List.mem_map.1 ha
    rfl
  have h2 : (chs 3 m).filter (fun e => decide (e.1 = 0)) = [] := List.filter_eq_nil_iff.2 fun a ha => by
    obtain ⟨x, _, rfl⟩ := List.mem_map.1 ha
    simp
  unfold accX
  rw [List.filter_append, h1, h2, List.append_nil]
  simp [chs, Function.comp_def]
theorem accY_chs (v m : List Int) : accY (chs 0 v ++ chs 3 m) = m := by
  have h1 : (chs 0 v).filter (fun e => decide (e.1 ≠ 0)) = [] := List.filter_eq_nil_iff.2 fun a ha => by
    obtain ⟨x, _, rfl⟩ := List.mem_map.1 ha
    simp
  have h2 : (chs 3 m).filter (fun e => decide (e.1 ≠ 0)) = chs 3 m := List.filter_eq_self.2 fun a ha => by
    obtain ⟨x, _, rfl⟩ := List.mem_map.1 ha
    rfl
  unfold accY
  rw [List.filter_append, h1, h2, List.nil_append]
  simp [chs, Function.comp_def]
theorem chok {v l : List Int} (hn : (v ++ l).Nodup) (hv : v ≠ []) (h0 : ∀ x ∈ v ++ l, x ≠ 0) (h9 : v.length ≤ 9) (h4 : l.length ≤ 4) : ChOk (chs 0 v ++ chs 3 l) := by
  intro j e he
  have hnd := List.nodup_append.1 hn
  have hcl : (chs 0 v).length = v.length := by simp [chs]
  rcases Nat.lt_or_ge j v.length with hj | hj
  · rw [List.getElem?_append_left (by omega)] at he
    obtain ⟨x, hx⟩ : ∃ x, v[j]? = some x := ⟨_, List.getElem?_eq_getElem hj⟩
    have he2 : (chs 0 v)[j]? = some (0, x) := by simp [chs, hx]
    rw [he2] at he
    cases he
    have ht : (chs 0 v ++ chs 3 l).take j = chs 0 (v.take j) ++ chs 3 [] := by
      rw [List.take_append_of_le_length (by omega)]
      simp [chs, List.map_take]
    rw [ht, accX_chs, accY_chs]
    refine ⟨.inl rfl, ?_, h0 x (List.mem_append_left _ (List.mem_of_getElem? hx)), .inl (by rw [List.length_take]; omega), .inr rfl⟩
    rw [List.append_nil]
    exact notin_take hnd.1 hx
  · rw [List.getElem?_append_right (by omega), hcl] at he
    have hjl : j - v.length < l.length := by
      have := (List.getElem?_eq_some_iff.1 he).1
      simpa [chs] using this
    obtain ⟨x, hx⟩ : ∃ x, l[j - v.length]? = some x := ⟨_, List.getElem?_eq_getElem hjl⟩
    have he2 : (chs 3 l)[j - v.length]? = some (3, x) := by simp [chs, hx]
    rw [he2] at he
    cases he
    have ht : (chs 0 v ++ chs 3 l).take j = chs 0 v ++ chs 3 (l.take (j - v.length)) := by
      rw [List.take_append, List.take_of_length_le (by omega), hcl]
      simp [chs, List.map_take]
    rw [ht, accX_chs, accY_chs]
    refine ⟨.inr ⟨rfl, hv⟩, ?_, h0 x (List.mem_append_right _ (List.mem_of_getElem? hx)), .inr rfl, .inl (by rw [List.length_take]; omega)⟩
    rw [List.mem_append, not_or]
    exact ⟨fun hh => hnd.2.2 x hh x (List.mem_of_getElem? hx) rfl, notin_take hnd.2.1 hx⟩

theorem k103 {base vb pm vt : Nat} {mi mb li : Int} {v : Value} {c : Cf} (cg : CG base vb none pm [] [] [] w) (hc : PC v c w) (ho : c.o = []) (hn : c.n = []) (nd : (c.v ++ c.l).Nodup) (ne : c.v ≠ []) (h0 : ∀ x ∈ c.v ++ c.l, x ≠ 0) (l9 : c.v.length ≤ 9) (l4 : c.l.length ≤ 4)
    (h : ∀ vb' lm' pm' xs ys ps w', Ex w w' → xs.Perm c.v → ys.Perm c.l → CG base vb' lm' pm' xs ys ps w' → K (.tuple #[.agg (Cfg vb' lm'), .map (some pm'), .nilIface]) w') : CK Pr 103 #[.agg (Chg vb none pm vt mi mb li), v] w K := by
  refine c103 ?_
  unfold t103
  refine e_boxA fun b1 w1 e1 hb1 s1 s2 => ?_
  have vo := hc.one
  refine e_box1 vo fun b2 w2 e2 hb2 s3 s4 => ?_
  refine e_allocA fun b3 w3 e3 hb3 s5 s6 => ?_
  have E3 := (e1.trans e2).trans e3
  have hb13 := e3.at_ (e2.at_ hb1)
  refine q_ld (x := v) (e3.at_ hb2) (by rfl) ?_
  refine cl_fn (k150 (hc.ex E3) ho hn ⟨l9, l4⟩ fun v4 us w4 e4 hs4 pcs => ?_)
  refine q_ext (x := .slice none 0 0) rfl ?_
  refine q_ext (x := v4) rfl ?_
  refine e_alloc1 rfl fun b5 w5 e5 hb5 s7 s8 => ?_
  have ov4 := hs4.one
  refine u_st hb5 (by simp) ov4 rfl fun w6 u6 hb6 z6 => ?_
  have zz1 := e1.size
  have zz2 := e2.size
  have zz3 := e3.size
  have zz4 := e4.size
  have E46 : Ex w4 w6 := e5.new u6 (by intro y hy; omega)
  have E6 : Ex w w6 := (E3.trans e4).trans E46
  have hs6 := hs4.ex E46
  have pcs6 := pcs.ex E46
  have hb16 := E46.at_ (e4.at_ hb13)
  have hb36 := E46.at_ (e4.at_ hb3)
  have hul := pcs.len
  have hel : (chs 0 c.v ++ chs 3 c.l).length ≤ 100 := by simp [chs]; omega
  have ok := chok nd ne h0 l9 l4
  have ex1 := accX_chs c.v c.l
  have ey1 := accY_chs c.v c.l
  generalize chs 0 c.v ++ chs 3 c.l = es at pcs pcs6 hul hel ok ex1 ey1
  clear hb5 hb13 hb1 hb2 hb3 hs4
  unfold Jo
  (repeat (first | (refine go ?_; intros) | (refine goK41 ?_; intros)))
  rw [show (ones us).length = es.length by simp [ones, hul]]
  refine loop_n (α := Nat × List Value) (fun a τ w' => g τ 3 = .int .i64 (a.1 : Nat) ∧ a.1 ≤ es.length ∧ Ex w6 w' ∧ Own w' w6.heap.size 253 1 (g τ 0) (ones a.2) ∧ PFs a.2 (es.take a.1) w') (fun a => es.length - a.1) (0, []) ⟨rfl, Nat.zero_le _, .refl _ _ _, Own.nil _ _ _ _, .nil _⟩ ?_
  rintro ⟨j, fs⟩ τ w' R ⟨hj, hle, ex, own, pfs⟩ hR
  simp only at hj hle own pfs hR
  have zx := ex.size
  have hfl := pfs.len
  rw [List.length_take] at hfl
  rw [hj]
  (repeat (first | (refine go ?_; intros) | (refine goK41 ?_; intros)))
  refine if_split (fun hbj => ?_) (fun hbj => ?_)
  · have hj' : j < es.length := by simpa using hbj
    obtain ⟨u, hu⟩ : ∃ u, us[j]? = some u := ⟨_, List.getElem?_eq_getElem (by omega)⟩
    obtain ⟨e, he, hpc⟩ := pcs6.get hu
    have uo := hpc.one
    refine q_ixs (x := u) j (hs6.ex ex) rfl (by simp [ones, hu]) fun _ => ?_
    refine e_alloc1 rfl fun cb w7 e7 hcb s9 s10 => ?_
    refine u_st hcb (by simp) uo rfl fun w8 u8 hb8 z8 => ?_
    have hb8' : Bk w8 cb (.cells #[u] 251 (0, 0)) := hb8
    have E8 : Ex w' w8 := e7.new u8 (by intro y hy; omega)
    refine q_mkf ?_
    refine e_push1 (base := w6.heap.size) (own.ex E8) rfl (by simp [ones, hfl]; omega) (by simp [ones, hfl]; omega) (by omega) fun s11 v9 w9 u9 own9 hb9 z9 => ?_
    have lt := own.lt
    (repeat (first | (refine go ?_; intros) | (refine goK41 ?_; intros)))
    rw [wrapS (by omega)]
    refine hR (j + 1, fs ++ [.func (.func 151) #[] #[.pointer (some ⟨cb, 0, none⟩)]]) _ _ ⟨rfl, by show j + 1 ≤ _; omega, (ex.trans E8).new u9 (by intro y hy; exact (lt y hy).1), ?_, ?_⟩ (by show es.length - (j + 1) < _; omega)
    · have : ones (fs ++ [.func (.func 151) #[] #[.pointer (some ⟨cb, 0, none⟩)]]) = ones fs ++ [[.func (.func 151) #[] #[.pointer (some ⟨cb, 0, none⟩)]]] := by simp [ones]
      rw [this]
      exact own9
    · rw [take_snoc he]
      exact ((pfs.ex E8).snoc hb8' (hpc.ex (ex.trans E8))).mt u9 rfl rfl
  · have hjl : j = es.length := by
      have := of_decide_eq_false hbj
      omega
    subst hjl
    rw [List.take_length] at pfs
    have hb17 := ex.at_ hb16
    refine q_ldW hb17 (by rfl) ?_
    have cgw : CG base vb none pm [] [] [] w' := cg.ex (E6.trans ex)
    refine cl_fn (k157 cgw own.sl pfs ok hel fun vb' lm' pm' xs ys ps w8 e8 px py c8 => ?_)
    refine q_ext (x := .agg (Cfg vb' lm')) rfl ?_
    refine q_ext (x := .map (some pm')) rfl ?_
    refine q_ext (x := .nilIface) rfl ?_
    have hb38 := e8.at_ (ex.at_ hb36)
    refine u_stA hb38 (Nat.le_of_ble_eq_true rfl) (by rfl) (by rfl) nmK41 fun w9 u9 hb9 z9 => ?_
    refine q_ldW hb9 (by rfl) ?_
    rw [ex1] at px
    rw [ey1] at py
    exact h vb' lm' pm' xs ys ps w9 (((E6.trans ex).trans e8).new u9 (by intro y hy; omega)) px py ⟨c8.vo.up u9 (.inl rfl), c8.le.up u9 (.inl rfl), c8.pr.up u9 (.inl rfl) (.inl rfl) rfl, c8.keys, c8.nd, c8.lea, c8.lx, c8.ly⟩

end Go.Proofs.YtmmpogfbhelioaaGreat
/-
  Contracts: the configuration in words of the package; the machine takes a configuration on.
  Conditions: the configuration is not joint; the machine is a follower.
-/
namespace Go.Proofs.YtmmpogfbhelioaaGreat
set_option maxRecDepth 10000
set_option linter.unusedVariables false
set_option linter.unusedSimpArgs false
theorem nmK51 {p : Prop} (h : p := by (try simp only [List.getElem?_toArray, List.getElem?_cons_zero, List.getElem?_cons_succ, List.setIfInBounds_toArray, List.set_cons_zero, List.set_cons_succ, List.toList_toArray, List.drop_zero, List.drop_succ_cons, List.take_zero, List.take_succ_cons, Nat.zero_add, Nat.add_zero, Nat.reduceAdd, putCells, Rf.cells, Cfg]) <;> rfl) : p := h
theorem goK51 {G H : Prop} (h : H) (s : Stp G H := by (apply Stp.of; intro hS; (first | (refine q_ld bk_ nmK51 ?_) | (refine q_ldU bk_ rfl nmK51 ?_) | (refine q_ldW bk_ (by rfl) ?_) | (refine q_ldWU bk_ rfl (by rfl) ?_) | (refine q_ldP bk_ (Nat.le_of_ble_eq_true rfl) nmK51 ?_) | (refine q_ldPU bk_ rfl (Nat.le_of_ble_eq_true rfl) nmK51 ?_) | (refine q_ext nmK51 ?_) | (refine u_st bk_ (Nat.le_of_ble_eq_true rfl) (by first | rfl | assumption) nmK51 ?_) | (refine u_stA bk_ (Nat.le_of_ble_eq_true rfl) (by rfl) (by rfl) nmK51 ?_) | (refine q_field nmK51 ?_)); exact hS.out)) : G := s.f h
attribute [local irreducible] Instr.box Instr.alloc Instr.loadAt Instr.storeAt Instr.fieldAt Instr.indexAt Instr.build Instr.buildSlice Instr.makeSlice Instr.makeMap Instr.mapUpdate Instr.lookup Instr.range Instr.next Instr.entry Instr.extract Instr.makeInterface Instr.makeFunc Instr.sliceAt Instr.typeAssert Instr.field Instr.index Builtin.len_ Builtin.cap_ Builtin.max_ Builtin.min_ Builtin.append_ Builtin.copy_ Builtin.delete_ convert binS pickS nilS callV callM Op.unary Own Mp It Cu

variable {K : Value → World → Prop} {w : World} {te : Option Nat}

theorem k160 {b vb : Nat} {lm : Option Nat} {R : Rf} {xs ys : List Int} (hb : Bk w b (.cells R.cells 187 (0, 0))) (h1 : R.vb = some vb) (h2 : R.v1 = none) (h3 : R.al = false) (h4 : R.lm = lm) (h5 : R.lx = none)
    (hv : Mp w vb (ms xs)) (hl : MpO w lm (ms ys)) (lx : xs.length ≤ 9) (ly : ys.length ≤ 4)
    (h : ∀ v w' c, Ex w w' → PC v c w' → c.v.Perm xs → c.l.Perm ys → c.o = [] → c.n = [] → c.a = false → K v w') : CK Pr 160 #[.pointer (some ⟨b, 7, none⟩)] w K := by
  refine c160 ?_
  unfold t160
  refine dr_rule No [] fun w1 e1 z1 => ?_
  have hb1 := e1.at_ hb
  (repeat (first | (refine go ?_; intros) | (refine goK51 ?_; intros)))
  refine q_ia 0 rfl (by omega) ?_
  (repeat (first | (refine go ?_; intros) | (refine goK51 ?_; intros)))
  rw [h1]
  refine cl_fn (k87 (o := some vb) (l := ms xs) (hv.ex e1) (by simp [ms]; omega) fun u1 w2 ps e2 p1 s1 => ⟨e2, ?_⟩)
  rw [ms_keys] at p1
  (repeat (first | (refine go ?_; intros) | (refine goK51 ?_; intros)))
  refine q_ia 1 rfl (by omega) ?_
  (repeat (first | (refine go ?_; intros) | (refine goK51 ?_; intros)))
  rw [h2]
  refine cl_fn (k87 (o := none) (l := []) (show MpO _ none [] from rfl) (by simp) fun u2 w3 qs e3 p2 s2 => ⟨e2.trans e3, ?_⟩)
  have := p2.length_eq
  cases (List.length_eq_zero_iff.1 (by simpa using this) : qs = [])
  clear this p2
  (repeat (first | (refine go ?_; intros) | (refine goK51 ?_; intros)))
  rw [h4]
  refine cl_fn (k87 (o := lm) (l := ms ys) (hl.ex ((e1.trans e2).trans e3)) (by simp [ms]; omega) fun u3 w4 rs e4 p3 s3 => ⟨(e2.trans e3).trans e4, ?_⟩)
  rw [ms_keys] at p3
  (repeat (first | (refine go ?_; intros) | (refine goK51 ?_; intros)))
  rw [h5]
  refine cl_fn (k87 (o := none) (l := []) (show MpO _ none [] from rfl) (by simp) fun u4 w5 qs e5 p4 s4 => ⟨((e2.trans e3).trans e4).trans e5, ?_⟩)
  have := p4.length_eq
  cases (List.length_eq_zero_iff.1 (by simpa using this) : qs = [])
  clear this p4
  (repeat (first | (refine go ?_; intros) | (refine goK51 ?_; intros)))
  rename_i b6 w6 e6 hb6 z6 s6
  rw [h3] at hb6
  refine ⟨(((e2.trans e3).trans e4).trans e5).trans e6, ?_⟩
  refine b200_0_2_1_3_4 s1.one s2.one s3.one s4.one rfl ?_
  refine e_boxA fun b7 w7 e7 hb7 z7 s7 => ⟨((((e2.trans e3).trans e4).trans e5).trans e6).trans e7, ?_⟩
  refine h _ w7 ⟨ps, rs, [], [], false⟩ ((((((e1.trans e2).trans e3).trans e4).trans e5).trans e6).trans e7) ⟨b7, u1, u3, u2, u4, _, rfl, hb7, ?_, ?_, ?_, ?_, ⟨b6, rfl, e7.at_ hb6⟩⟩ p1 p3 rfl rfl rfl
  · exact s1.ex ((((e3.trans e4).trans e5).trans e6).trans e7)
  · exact s3.ex ((e5.trans e6).trans e7)
  · exact s2.ex (((e4.trans e5).trans e6).trans e7)
  · exact s4.ex (e6.trans e7)

theorem k106 {base b vb pm : Nat} {lm : Option Nat} {R : Rf} {L : Lg} {ps0 ps : Ps} {vo0 le0 xs ys : List Int} (r : RM base b R L ps0 vo0 le0 w) (hst : R.st = 0) (cg : CG base vb lm pm xs ys ps w)
    (h : ∀ v w' c il, Up (fun x => x = b) [189] w w' → RM base b { R with vb := some vb, v1 := none, al := false, lm := lm, lx := none, pm := pm, il := il } L ps xs ys w' → PC v c w' → c.v.Perm xs → c.l.Perm ys → c.o = [] → c.n = [] → c.a = false → K v w') : CK Pr 106 #[.pointer (some ⟨b, 0, none⟩), .agg (Cfg vb lm), .map (some pm)] w K := by
  refine c106 ?_
  unfold t106
  have rb := r.bk
  have hbl := rb.lt
  (repeat (first | (refine go ?_; intros) | (refine goK51 ?_; intros)))
  rename_i b1 w1 e1 hb1 z1 s1 b2 w2 e2 hb2 z2 s2 w3 u3 hb3 z3 w4 u4 hb4 z4
  obtain ⟨R', hR'⟩ : ∃ R' : Rf, R' = { R with vb := some vb, v1 := none, al := false, lm := lm, lx := none, pm := pm } := ⟨_, rfl⟩
  have hb4' : Bk w4 b (.cells R'.cells 187 (0, 0)) := by rw [hR']; exact hb4
  have U4 : Up (fun x => x = b) [189] w2 w4 := u3.trans u4
  have U : Up (fun x => x = b) [189] w w4 := (Up.of_ex (e1.trans e2)).trans U4
  have cg4 : CG base vb lm pm xs ys ps w4 := ⟨cg.vo.up U (.inl rfl), cg.le.up U (.inl rfl), cg.pr.up U (.inl rfl) (.inl rfl) rfl, cg.keys, cg.nd, cg.lea, cg.lx, cg.ly⟩
  have hbx4 := U4.at_ (e2.at_ hb1) rfl
  have lg4 : LG base R'.lb L w4 := by rw [hR']; exact r.lg.mt rfl rfl rfl rfl U
  have vt4 : Mp w4 R'.vt [] := by rw [hR']; exact r.vt.up U (.inl rfl)
  have ro4 : RdO R'.ro w4 := by rw [hR']; exact r.ro.mt U rfl
  have r4 : RM base b R' L ps xs ys w4 := ⟨hb4', r.b0, lg4, r.lok, by rw [hR']; exact cg4.pr, by rw [hR']; exact cg4.vo, by rw [hR']; exact cg4.le, vt4, ro4⟩
  clear hb1 hb2 hb3 hb4 rb lg4 vt4 ro4
  refine cl_fn (k160 hb4' (by rw [hR']) (by rw [hR']) (by rw [hR']) (by rw [hR']) (by rw [hR']) cg4.vo cg4.le cg.lx cg.ly fun v w5 c e5 hc pv pl ho hn ha => ?_)
  refine dr_rule No [] fun w6 e6 z6 => ?_
  have E56 : Ex w4 w6 := e5.trans e6
  have r6 := r4.ex E56
  have rb6 := r6.bk
  have hbx6 := E56.at_ hbx4
  have hpm : R'.pm = pm := by rw [hR']
  have hst' : R'.st = 0 := by rw [hR']; exact hst
  have hfin : ∀ il w', Up (fun x => x = b) [189] w6 w' → Bk w' b (.cells ({ R' with il := il } : Rf).cells 187 (0, 0)) → K v w' := fun il w' u hb' => by
    have rr := r6.put u hb' ⟨rfl, rfl, rfl, rfl, rfl, rfl⟩
    rw [hR'] at rr
    exact h v w' c il ((U.ex E56).trans u) rr ((hc.ex e6).mt rfl u) pv pl ho hn ha
  clear hbx4 hb4' r4
  (repeat (first | (refine go ?_; intros) | (refine goK51 ?_; intros)))
  rw [hpm]
  refine q_lookS (l := kvP ps) (zv := .pointer none) (fun w' hw => Mp.ex hw (cg4.pr.mp.ex E56)) ?_
  have hpg := (cg4.pr.ex E56).pg
  cases hl : lk (kvP ps) R'.id with
  | none =>
    simp only [Option.getD_none, Option.isSome_none, if_true]
    refine q_ext (x := .pointer none) rfl ?_
    refine q_ext (x := .bool false) rfl ?_
    refine dr_rule (fun x => x = b) [189] fun w7 e7 z7 => ?_
    have hbx7 := e7.at_ hbx6
    have rb7 := e7.at_ rb6
    clear hbx6 rb6
    (repeat (first | (refine go ?_; intros) | (refine goK51 ?_; intros)))
    rename_i w8 u8 hb8 z8
    refine ⟨u8, ?_⟩
    have hbx8 := u8.at_ hbx7 rfl
    have hf := hfin false w8 ((Up.of_ex e7).trans u8) hb8
    clear hbx7 rb7
    have q1 : (R'.st == 2) = false := by rw [hst']; rfl
    (repeat (first | (refine go ?_; intros) | (refine goK51 ?_; intros)))
    rw [q1]
    (repeat (first | (refine go ?_; intros) | (refine goK51 ?_; intros)))
    unfold t106_3
    (repeat (first | (refine go ?_; intros) | (refine goK51 ?_; intros)))
    rw [q1, Bool.not_false]
    (repeat (first | (refine go ?_; intros) | (refine goK51 ?_; intros)))
    exact hf
  | some pv =>
    simp only [Option.getD_some, Option.isSome_some, if_true]
    refine q_ext (x := pv) rfl ?_
    refine q_ext (x := .bool true) rfl ?_
    obtain ⟨y, hy, hyx, rfl⟩ := lk_kvP hl
    obtain ⟨_, ib, _, hp, _⟩ := hpg y hy
    refine dr_rule (fun x => x = b) [189] fun w7 e7 z7 => ?_
    have hbx7 := e7.at_ hbx6
    have rb7 := e7.at_ rb6
    have hp7 := e7.at_ hp
    unfold Pg.cells at hp7
    clear hbx6 rb6 hp
    (repeat (first | (refine go ?_; intros) | (refine goK51 ?_; intros)))
    rename_i w8 u8 hb8 z8
    refine ⟨u8, ?_⟩
    have hbx8 := u8.at_ hbx7 rfl
    have hf := hfin y.2.2.le w8 ((Up.of_ex e7).trans u8) hb8
    clear hbx7 rb7
    have q1 : (R'.st == 2) = false := by rw [hst']; rfl
    cases hle : y.2.2.le with
    | false =>
      rw [hle] at hb8
      (repeat (first | (refine go ?_; intros) | (refine goK51 ?_; intros)))
      unfold t106_3
      (repeat (first | (refine go ?_; intros) | (refine goK51 ?_; intros)))
      rw [q1, Bool.not_false]
      (repeat (first | (refine go ?_; intros) | (refine goK51 ?_; intros)))
      exact hf
    | true =>
      rw [hle] at hb8
      (repeat (first | (refine go ?_; intros) | (refine goK51 ?_; intros)))
      rw [q1]
      (repeat (first | (refine go ?_; intros) | (refine goK51 ?_; intros)))
      unfold t106_3
      (repeat (first | (refine go ?_; intros) | (refine goK51 ?_; intros)))
      rw [q1, Bool.not_false]
      (repeat (first | (refine go ?_; intros) | (refine goK51 ?_; intros)))
      exact hf

end Go.Proofs.YtmmpogfbhelioaaGreat
/-
  Contract: restore, its last part: the log and the configuration out of a snapshot.
  Conditions: the snapshot's configuration is not joint; the machine is a follower.
-/
namespace Go.Proofs.YtmmpogfbhelioaaGreat
set_option maxRecDepth 10000
set_option linter.unusedVariables false
set_option linter.unusedSimpArgs false
theorem nmK52 {p : Prop} (h : p := by (try simp only [List.getElem?_toArray, List.getElem?_cons_zero, List.getElem?_cons_succ, List.setIfInBounds_toArray, List.set_cons_zero, List.set_cons_succ, List.toList_toArray, List.drop_zero, List.drop_succ_cons, List.take_zero, List.take_succ_cons, Nat.zero_add, Nat.add_zero, Nat.reduceAdd, putCells, Rf.cells, Chg]) <;> rfl) : p := h
theorem goK52 {G H : Prop} (h : H) (s : Stp G H := by (apply Stp.of; intro hS; (first | (refine q_ld bk_ nmK52 ?_) | (refine q_ldU bk_ rfl nmK52 ?_) | (refine q_ldW bk_ (by rfl) ?_) | (refine q_ldWU bk_ rfl (by rfl) ?_) | (refine q_ldP bk_ (Nat.le_of_ble_eq_true rfl) nmK52 ?_) | (refine q_ldPU bk_ rfl (Nat.le_of_ble_eq_true rfl) nmK52 ?_) | (refine q_ext nmK52 ?_) | (refine u_st bk_ (Nat.le_of_ble_eq_true rfl) (by first | rfl | assumption) nmK52 ?_) | (refine u_stA bk_ (Nat.le_of_ble_eq_true rfl) (by rfl) (by rfl) nmK52 ?_) | (refine q_field nmK52 ?_)); exact hS.out)) : G := s.f h
attribute [local irreducible] Instr.box Instr.alloc Instr.loadAt Instr.storeAt Instr.fieldAt Instr.indexAt Instr.build Instr.buildSlice Instr.makeSlice Instr.makeMap Instr.mapUpdate Instr.lookup Instr.range Instr.next Instr.entry Instr.extract Instr.makeInterface Instr.makeFunc Instr.sliceAt Instr.typeAssert Instr.field Instr.index Builtin.len_ Builtin.cap_ Builtin.max_ Builtin.min_ Builtin.append_ Builtin.copy_ Builtin.delete_ convert binS pickS nilS callV callM Op.unary Own Mp It Cu

variable {K : Value → World → Prop} {w : World} {te : Option Nat}

theorem Up.tu {C C' : Nat → Prop} {T T' : List Nat} {w' : World} (u : Up C T w w') (hC : ∀ b, C b → C' b) (hT : (T.all fun k => T'.contains k) = true) : Up C' T' w w' :=
  u.mono (fun b _ h => hC b h) (fun k hk => List.all_eq_true.1 hT k (List.contains_iff_mem.1 hk))

/-- The log turned, and nothing else of the machine. -/
theorem RM.log {base b : Nat} {R : Rf} {L L' : Lg} {ps : Ps} {vo le : List Int} {w' : World} {C : Nat → Prop} (r : RM base b R L ps vo le w) (u : Up C [227, 198] w w') (lg : LG base R.lb L' w') (ok : L'.Ok) : RM base b R L' ps vo le w' :=
  ⟨u.at_ r.bk rfl, r.b0, lg, ok, r.pr.up u (.inl rfl) (.inl rfl) rfl, r.vo.up u (.inl rfl), r.le.up u (.inl rfl), r.vt.up u (.inl rfl), r.ro.mt u rfl⟩

/-- A configuration that a snapshot may bring. -/
structure CfOk (c : Cf) : Prop where
  o : c.o = []
  n : c.n = []
  a : c.a = false
  nd : (c.v ++ c.l).Nodup
  ne : c.v ≠ []
  h0 : ∀ x ∈ c.v ++ c.l, x ≠ 0
  l9 : c.v.length ≤ 9
  l4 : c.l.length ≤ 4

/-- The log behind a snapshot. -/
def Lg.snap (L : Lg) (s : Sn) : Lg := { L with us := some s, un := [], off := s.i + 1, sip := false, oip := s.i + 1, cm := s.i }
theorem Lg.Ok.snap {L : Lg} {s : Sn} (h : L.Ok) (hi : 0 ≤ s.i ∧ s.i ≤ 100000000000000) : (L.snap s).Ok :=
  ⟨h.ne, h.len, ⟨by show 0 ≤ s.i + 1; omega, by show s.i + 1 ≤ _; omega⟩, by show ([] : List En).length ≤ _; simp, fun s' hs => by cases hs; omega⟩
/-- The machine's fields behind a snapshot. -/
def Rf.snap (R : Rf) (vb : Nat) (lm : Option Nat) (pm vt : Nat) (il : Bool) : Rf := { R with vb := some vb, v1 := none, al := false, lm := lm, lx := none, pm := pm, vt := vt, il := il }

theorem CG.none {base vb pm : Nat} (h1 : Mp w vb []) (h2 : Mp w pm []) (hb : base ≤ pm) : CG base vb none pm [] [] [] w :=
  ⟨h1, rfl, ⟨h2, List.nodup_nil, fun x hx => (by cases hx), hb⟩, .refl _, List.nodup_nil, fun x hx => (by cases hx), Nat.zero_le _, Nat.zero_le _⟩

theorem r54_1 {base b : Nat} {R : Rf} {L : Lg} {ps : Ps} {vo le : List Int} {v cs : Value} {s : Sn} (r : RM base b R L ps vo le w) (hst : R.st = 0) (hs : PS v s w) (hc : PC cs s.c w) (ck : CfOk s.c) (hi : 0 ≤ s.i ∧ s.i ≤ 100000000000000) (hd : s.d.size ≤ 1000000) (sm : CfSm s.c)
    (h : ∀ vb lm pm vt il xs ys ps' w', Up (fun x => base ≤ x) [189, 198, 227] w w' → xs.Perm s.c.v → ys.Perm s.c.l → (ps'.map (·.1)).Perm (xs ++ ys) → RM base b (R.snap vb lm pm vt il) (L.snap s) ps' xs ys w' → K (.bool true) w') :
    t54_1 w (.pointer (some ⟨b, 0, none⟩)) v cs K := by
  unfold t54_1
  have rb := r.bk
  have hb0 := r.b0
  have hbl := rb.lt
  have hlb := r.lg.b1
  (repeat (first | (refine go ?_; intros) | (refine goK52 ?_; intros)))
  refine cl_fn (k102 r.lg hs ⟨hi.1, by omega⟩ hd sm fun w1 u1 lg1 => ?_)
  have ok1 := r.lok.snap hi
  have r1 : RM base b R (L.snap s) ps vo le w1 := r.log (u1.tu (fun _ h => h) (T' := [227, 198]) rfl) lg1 ok1
  have hc1 : PC cs s.c w1 := hc.mt rfl u1
  have rb1 := r1.bk
  clear rb
  refine dr_ruleG (fun x => x = b) [189] (fun x => ∃ cs et fz, Bk x b (.cells cs et fz) ∧ cs[14]? = some (.int .i64 R.mi) ∧ cs[15]? = some (.int .u64 R.mb)) (fun w1 e => ⟨_, _, _, e.at_ rb1, rfl, rfl⟩) fun w2 e2 z2 => ?_
  have rb2 := e2.at_ rb1
  clear rb1
  (repeat (first | (refine go ?_; intros) | (refine goK52 ?_; intros) | refine q_ldG bk_ rfl nmK52 ?_ | refine q_ldGW bk_ rfl (by rfl) ?_))
  refine q_ldX (x := .int .i64 R.mi) (fun w' s => by obtain ⟨cs, et, fz, g1, g2, g3⟩ := s.2; exact ⟨cs, et, fz, g1, g2⟩) ?_
  (repeat (first | (refine go ?_; intros) | (refine goK52 ?_; intros) | refine q_ldG bk_ rfl nmK52 ?_ | refine q_ldGW bk_ rfl (by rfl) ?_))
  refine q_ldX (x := .int .u64 R.mb) (fun w' s => by obtain ⟨cs, et, fz, g1, g2, g3⟩ := s.2; exact ⟨cs, et, fz, g1, g3⟩) ?_
  refine cl_fn (k74 fun vb0 pm0 vt0 w3 e3 i1 i2 i3 n1 n2 n3 m1 m2 m3 => ⟨⟨.of_ex e3, _, _, _, e3.at_ rb2, rfl, rfl⟩, ?_⟩)
  have rb3 := e3.at_ rb2
  (repeat (first | (refine go ?_; intros) | (refine goK52 ?_; intros) | refine q_ldG bk_ rfl nmK52 ?_ | refine q_ldGW bk_ rfl (by rfl) ?_))
  rename_i w4 u4 hb4 z4
  refine ⟨⟨(Up.of_ex e3).trans u4, _, _, _, hb4, rfl, rfl⟩, ?_⟩
  have zz1 := u1.size
  have zz2 := e2.size
  have zz3 := e3.size
  have U1 : Up (fun x => base ≤ x) [189, 198, 227] w w1 := u1.tu (fun y hy => by subst hy; exact hlb.2) rfl
  have e23 : Ex w1 w3 := e2.trans e3
  have U4 : Up (fun x => base ≤ x) [189, 198, 227] w w4 := (U1.ex e23).trans (u4.tu (fun y hy => by subst hy; exact hb0) rfl)
  have r4 : RM base b (R.snap vb0 none pm0 vt0 R.il) (L.snap s) [] [] [] w4 := ⟨hb4, hb0, (r1.lg.ex e23).mt rfl rfl rfl rfl u4, ok1, ⟨m2.up u4 (.inl rfl), List.nodup_nil, fun x hx => (by cases hx), by show base ≤ pm0; omega⟩, m1.up u4 (.inl rfl), rfl, m3.up u4 (.inl rfl), (r1.ro.ex e23).mt u4 rfl⟩
  have cg4 : CG base vb0 none pm0 [] [] [] w4 := CG.none (m1.up u4 (.inl rfl)) (m2.up u4 (.inl rfl)) (by omega)
  have hc4 : PC cs s.c w4 := (hc1.ex e23).mt rfl u4
  clear hb4 rb2 rb3
  refine jo_rule (fun J => ∀ cb vb lm pm xs ys ps' w', Up (fun x => base ≤ x) [189, 198, 227] w4 w' → Bk w' cb (.cells (Cfg vb lm) 136 (0, 0)) → CG base vb lm pm xs ys ps' w' → xs.Perm s.c.v → ys.Perm s.c.l → RM base b (R.snap vb0 none pm0 vt0 R.il) (L.snap s) [] [] [] w' → PC cs s.c w' → J (.pointer (some ⟨cb, 0, none⟩)) (.map (some pm)) .nilIface w') ?_ ?_
  · intro cb vb lm pm xs ys ps' w' U hcb cg px py r' hc'
    (repeat (first | (refine go ?_; intros) | (refine goK52 ?_; intros)))
    refine cl_fn (k106 r' hst cg fun v2 w5 c2 il u5 r5 hc5 pv pl ho hn ha => ?_)
    refine cl_fn (k105 (hc'.mt rfl u5) hc5 (pv.trans px) (pl.trans py) ck.o ck.n ho hn (by rw [ha, ck.a]) (by have := ck.l9; omega) (by have := ck.l4; omega) fun w6 e6 => ?_)
    refine h vb lm pm vt0 il xs ys ps' w6 ((((U4.trans U).trans (u5.tu (fun y hy => by subst hy; exact hb0) rfl))).ex e6) px py cg.keys (r5.ex e6)
  · intro J hJ
    refine dr_rule (fun x => x = L.sb) [227] fun w5 e5 z5 => ?_
    have r5 := r4.ex e5
    have rb5 := r5.bk
    have lb5 : (R.snap vb0 none pm0 vt0 R.il).lb = R.lb := rfl
    unfold Rf.snap at rb5
    have hc5 := hc4.ex e5
    have cg5 := cg4.ex e5
    (repeat (first | (refine go ?_; intros) | (refine goK52 ?_; intros)))
    constructor
    · refine cl_fn (k104 r5.lg r5.lok fun w6 u6 z6 lg6 => ⟨u6, ?_⟩)
      have r6 := r5.log (u6.tu (fun _ h => h) (T' := [227, 198]) rfl) lg6 r5.lok
      have cg6 : CG base vb0 none pm0 [] [] [] w6 := CG.none (cg5.vo.up u6 (.inl rfl)) (cg5.pr.mp.up u6 (.inl rfl)) cg5.pr.b0
      have hc6 := hc5.mt rfl u6
      have U6 : Up (fun x => base ≤ x) [189, 198, 227] w4 w6 := ((Up.of_ex e5).trans (u6.tu (fun y hy => by subst hy; exact hlb.1) rfl))
      (repeat (first | (refine go ?_; intros) | (refine goK52 ?_; intros) | refine b209_0_1 (by first | rfl | assumption) ?_))
      constructor
      · refine cl_fn (k103 (vb := vb0) (pm := pm0) (vt := vt0) (mi := R.mi) (mb := R.mb) (li := (L.snap s).last) cg6 hc6 ck.o ck.n ck.nd ck.ne ck.h0 ck.l9 ck.l4 fun vb lm pm xs ys ps' w7 e7 px py cg7 => ⟨u6.ex e7, ?_⟩)
        refine q_ext (x := .agg (Cfg vb lm)) rfl ?_
        refine q_ext (x := .map (some pm)) rfl ?_
        refine q_ext (x := .nilIface) rfl ?_
        refine e_allocA fun cb w8 e8 hb8 s1 s2 => ⟨(u6.ex e7).ex e8, ?_⟩
        refine u_stA hb8 (Nat.le_of_ble_eq_true rfl) (by rfl) (by rfl) nmK52 fun w9 u9 hb9 z9 => ?_
        have zz6 := u6.size
        have zz7 := e7.size
        have E79 : Ex w7 w9 := e8.new u9 (by intro y hy; omega)
        refine ⟨(u6.ex e7).ex E79, ?_⟩
        exact hJ cb vb lm pm xs ys ps' w9 ((U6.ex e7).ex E79) hb9 (cg7.ex E79) px py ((r6.ex e7).ex E79) ((hc6.ex e7).ex E79)
      · refine e_allocA fun cb w7 e7 hb7 s1 s2 => ⟨u6.ex e7, ?_⟩
        refine cl_fn (k103 (vb := vb0) (pm := pm0) (vt := vt0) (mi := R.mi) (mb := R.mb) (li := (L.snap s).last) (cg6.ex e7) (hc6.ex e7) ck.o ck.n ck.nd ck.ne ck.h0 ck.l9 ck.l4 fun vb lm pm xs ys ps' w8 e8 px py cg8 => ⟨(u6.ex e7).ex e8, ?_⟩)
        refine q_ext (x := .agg (Cfg vb lm)) rfl ?_
        refine q_ext (x := .map (some pm)) rfl ?_
        refine q_ext (x := .nilIface) rfl ?_
        have hb8 := e8.at_ hb7
        refine u_stA hb8 (Nat.le_of_ble_eq_true rfl) (by rfl) (by rfl) nmK52 fun w9 u9 hb9 z9 => ?_
        have zz5 := e5.size
        have zz6 := u6.size
        have zz7 := e7.size
        have E69 : Ex w6 w9 := (e7.trans e8).new u9 (by intro y hy; omega)
        refine ⟨u6.ex E69, ?_⟩
        exact hJ cb vb lm pm xs ys ps' w9 (U6.ex E69) hb9 ⟨cg8.vo.up u9 (.inl rfl), cg8.le.up u9 (.inl rfl), cg8.pr.up u9 (.inl rfl) (.inl rfl) rfl, cg8.keys, cg8.nd, cg8.lea, cg8.lx, cg8.ly⟩ px py (r6.ex E69) (hc6.ex E69)
    · refine e_allocA fun cb w6 e6 hb6 s1 s2 => ⟨.of_ex e6, ?_⟩
      have e56 : Ex w4 w6 := e5.trans e6
      refine cl_fn (k104 (r5.ex e6).lg (r5.ex e6).lok fun w7 u7 z7 lg7 => ⟨(Up.of_ex e6).trans u7, ?_⟩)
      have r7 := (r5.ex e6).log (u7.tu (fun _ h => h) (T' := [227, 198]) rfl) lg7 (r5.ex e6).lok
      have cg7 : CG base vb0 none pm0 [] [] [] w7 := CG.none ((cg5.ex e6).vo.up u7 (.inl rfl)) ((cg5.ex e6).pr.mp.up u7 (.inl rfl)) cg5.pr.b0
      have hc7 := (hc5.ex e6).mt rfl u7
      have hb7 := u7.at_ hb6 rfl
      have U7 : Up (fun x => base ≤ x) [189, 198, 227] w4 w7 := ((Up.of_ex e56).trans (u7.tu (fun y hy => by subst hy; exact hlb.1) rfl))
      clear hb6 e56
      (repeat (first | (refine go ?_; intros) | (refine goK52 ?_; intros) | refine b209_0_1 (by first | rfl | assumption) ?_))
      refine cl_fn (k103 (vb := vb0) (pm := pm0) (vt := vt0) (mi := R.mi) (mb := R.mb) (li := (L.snap s).last) cg7 hc7 ck.o ck.n ck.nd ck.ne ck.h0 ck.l9 ck.l4 fun vb lm pm xs ys ps' w8 e8 px py cg8 => ⟨((Up.of_ex e6).trans u7).ex e8, ?_⟩)
      refine q_ext (x := .agg (Cfg vb lm)) rfl ?_
      refine q_ext (x := .map (some pm)) rfl ?_
      refine q_ext (x := .nilIface) rfl ?_
      have hb8 := e8.at_ hb7
      refine u_stA hb8 (Nat.le_of_ble_eq_true rfl) (by rfl) (by rfl) nmK52 fun w9 u9 hb9 z9 => ?_
      have zz6 := e6.size
      have zz7 := u7.size
      have U59 : Up (fun x => x = L.sb) [227] w5 w9 := (((Up.of_ex e6).trans u7).ex e8).new u9 (by intro y hy; omega)
      have zz1' := e5.size
      have U49 : Up (fun x => base ≤ x) [189, 198, 227] w4 w9 := (U7.ex e8).new u9 (by intro y hy; omega)
      refine ⟨U59, ?_⟩
      exact hJ cb vb lm pm xs ys ps' w9 U49 hb9 ⟨cg8.vo.up u9 (.inl rfl), cg8.le.up u9 (.inl rfl), cg8.pr.up u9 (.inl rfl) (.inl rfl) rfl, cg8.keys, cg8.nd, cg8.lea, cg8.lx, cg8.ly⟩ px py ((r7.ex e8).mt rfl rfl u9) ((hc7.ex e8).mt rfl u9)

end Go.Proofs.YtmmpogfbhelioaaGreat
/-
  Contract: restore.
  Conditions: the snapshot's configuration is not joint and names the machine; the machine is a follower, its log has no snapshot that waits.
-/
namespace Go.Proofs.YtmmpogfbhelioaaGreat
set_option maxRecDepth 10000
set_option linter.unusedVariables false
set_option linter.unusedSimpArgs false
attribute [local irreducible] Instr.box Instr.alloc Instr.loadAt Instr.storeAt Instr.fieldAt Instr.indexAt Instr.build Instr.buildSlice Instr.makeSlice Instr.makeMap Instr.mapUpdate Instr.lookup Instr.range Instr.next Instr.entry Instr.extract Instr.makeInterface Instr.makeFunc Instr.sliceAt Instr.typeAssert Instr.field Instr.index Builtin.len_ Builtin.cap_ Builtin.max_ Builtin.min_ Builtin.append_ Builtin.copy_ Builtin.delete_ convert binS pickS nilS callV callM Op.unary Own Mp It Cu

variable {K : Value → World → Prop} {w : World} {te : Option Nat}

theorem Lg.at_le {L : Lg} {e : En} {r : List En} (p : L.Pl e r) {i t : Int} (h : L.at e r i = some t) : i ≤ L.last := by
  unfold Lg.at at h
  by_cases hi : i < e.i
  · rw [if_pos hi] at h; cases h
  · rw [if_neg hi] at h
    cases hx : ((e :: r) ++ L.un)[(i - e.i).toNat]? with
    | none => rw [hx] at h; cases h
    | some x =>
      have := (List.getElem?_eq_some_iff.1 hx).1
      rw [List.length_append, List.length_cons] at this
      have := p.last
      omega

theorem Lg.Ok.cm {L : Lg} {c : Int} (h : L.Ok) : ({ L with cm := c } : Lg).Ok := ⟨h.ne, h.len, h.off, h.un, h.us⟩

theorem r54_2 {base b : Nat} {R : Rf} {L : Lg} {ps : Ps} {vo le : List Int} {v cs : Value} {s : Sn} {e : En} {rr : List En} (r : RM base b R L ps vo le w) (hst : R.st = 0) (p : L.Pl e rr) (hs : PS v s w) (hc : PC cs s.c w) (ck : CfOk s.c) (hi : 0 ≤ s.i ∧ s.i ≤ 100000000000000) (hd : s.d.size ≤ 1000000) (sm : CfSm s.c) (hcm : L.cm < s.i)
    (h2 : ∀ w', Up (fun x => base ≤ x) [189, 198, 227] w w' → L.at e rr s.i = some s.t → RM base b R { L with cm := s.i } ps vo le w' → K (.bool false) w')
    (h : ∀ vb lm pm vt il xs ys ps' w', Up (fun x => base ≤ x) [189, 198, 227] w w' → L.at e rr s.i ≠ some s.t → xs.Perm s.c.v → ys.Perm s.c.l → (ps'.map (·.1)).Perm (xs ++ ys) → RM base b (R.snap vb lm pm vt il) (L.snap s) ps' xs ys w' → K (.bool true) w') :
    t54_2 v w (.pointer (some ⟨b, 0, none⟩)) K cs := by
  unfold t54_2
  have rb := r.bk
  have hlb := r.lg.b1
  have hbl := rb.lt
  have hb0 := r.b0
  refine cl_fn (k95 hs fun v1 hm1 => ?_)
  refine cl_fn (k99 hm1 ?_)
  refine cl_fn (k95 hs fun v2 hm2 => ?_)
  refine cl_fn (k96 hm2 ?_)
  (repeat (first | (refine go ?_; intros) | (refine goK17 ?_; intros) | refine b202_0_1 (by first | rfl | assumption) (by first | rfl | assumption) ?_))
  rename_i cb w1 e1 hb1 s1 s2 w2 u2 hb2 z2
  have E2 : Ex w w2 := e1.new u2 (by intro y hy; omega)
  have hb2' : Bk w2 cb (.cells #[.int .u64 s.t, .int .u64 s.i] 202 (0, 0)) := hb2
  have r2 := r.ex E2
  have hs2 := hs.ex E2
  have hc2 := hc.ex E2
  have zz := E2.size
  clear hb1 hb2 rb
  refine dr_rule (fun x => x = L.sb) [227] fun w3 e3 z3 => ?_
  have r3 := r2.ex e3
  have rb3 := r3.bk
  have hb3 := e3.at_ hb2'
  (repeat (first | (refine go ?_; intros) | (refine goK17 ?_; intros)))
  refine cl_fn (k100 (i := s.i) (t := s.t) r3.lg r3.lok p ⟨hi.1, by omega⟩ fun w4 u4 lg4 => ⟨u4, ?_⟩)
  have r4 := r3.log (u4.tu (fun _ h => h) (T' := [227, 198]) rfl) lg4 r3.lok
  have E3 : Ex w w3 := E2.trans e3
  have hs4 : PS v s w4 := (hs.ex E3).mt rfl u4
  have hc4 : PC cs s.c w4 := (hc.ex E3).mt rfl u4
  have U4 : Up (fun x => base ≤ x) [189, 198, 227] w w4 := (Up.of_ex E3).trans (u4.tu (fun y hy => by subst hy; exact hlb.1) rfl)
  clear rb3 hb3 hb2'
  by_cases hat : L.at e rr s.i = some s.t
  · rw [decide_eq_true hat]
    (repeat (first | (refine go ?_; intros) | (refine goK17 ?_; intros)))
    have hle := Lg.at_le p hat
    refine dr_ruleG (fun x => x = L.sb ∨ x = R.lb) [227, 198] (fun _ => True) (fun _ _ => trivial) fun w5 e5 z5 => ?_
    have r5 := r4.ex e5
    have rb5 := r5.bk
    (repeat (first | (refine go ?_; intros) | (refine goK17 ?_; intros) | refine q_ldG bk_ rfl nmK17 ?_ | refine q_ldGW bk_ rfl (by rfl) ?_))
    refine cl_fn (k95 (hs4.ex e5) fun v3 hm3 => ⟨⟨.refl _ _ _, trivial⟩, ?_⟩)
    refine cl_fn (k96 hm3 ⟨⟨.refl _ _ _, trivial⟩, ?_⟩)
    refine cl_fn (k101 r5.lg r5.lok hle fun w6 u6 lg6 => ⟨⟨u6, trivial⟩, ?_⟩)
    rw [if_pos hcm] at lg6
    exact h2 w6 ((U4.ex e5).trans (u6.tu (fun y hy => by rcases hy with hy | hy <;> subst hy; exact hlb.1; exact hlb.2) rfl)) hat (r5.log u6 lg6 r5.lok.cm)
  · rw [decide_eq_false hat]
    (repeat (first | (refine go ?_; intros) | (refine goK17 ?_; intros)))
    refine r54_1 r4 hst hs4 hc4 ck hi hd sm fun vb lm pm vt il xs ys ps' w' u px py pk r' => ?_
    exact h vb lm pm vt il xs ys ps' w' (U4.trans u) hat px py pk r'

theorem k54 {base b : Nat} {R : Rf} {L : Lg} {ps : Ps} {vo le : List Int} {v : Value} {s : Sn} {e : En} {rr : List En} (r : RM base b R L ps vo le w) (hst : R.st = 0) (p : L.Pl e rr) (hs : PS v s w) (hid : R.id ∈ s.c.v ∨ R.id ∈ s.c.l) (ck : CfOk s.c) (hi : 0 ≤ s.i ∧ s.i ≤ 100000000000000) (hd : s.d.size ≤ 1000000) (sm : CfSm s.c)
    (h1 : ∀ w', Up (fun x => base ≤ x) [189, 198, 227] w w' → s.i ≤ L.cm → RM base b R L ps vo le w' → K (.bool false) w')
    (h2 : ∀ w', Up (fun x => base ≤ x) [189, 198, 227] w w' → L.cm < s.i → L.at e rr s.i = some s.t → RM base b R { L with cm := s.i } ps vo le w' → K (.bool false) w')
    (h : ∀ vb lm pm vt il xs ys ps' w', Up (fun x => base ≤ x) [189, 198, 227] w w' → L.cm < s.i → L.at e rr s.i ≠ some s.t → xs.Perm s.c.v → ys.Perm s.c.l → (ps'.map (·.1)).Perm (xs ++ ys) → RM base b (R.snap vb lm pm vt il) (L.snap s) ps' xs ys w' → K (.bool true) w') :
    CK Pr 54 #[.pointer (some ⟨b, 0, none⟩), v] w K := by
  refine c54 ?_
  unfold t54
  refine dr_rule No [] fun w1 e1 z1 => ?_
  have r1 := r.ex e1
  have hs1 := hs.ex e1
  have rb1 := r1.bk
  obtain ⟨lim, vs, ve, qs, g1, g2, g3, g4, g5, g6, g7, g8, g9, g10⟩ := r1.lg
  refine cl_fn (k95 hs1 fun v1 hm1 => ⟨.refl _ _ _, ?_⟩)
  refine cl_fn (k96 hm1 ⟨.refl _ _ _, ?_⟩)
  unfold Lg.cells at g1
  (repeat (first | (refine go ?_; intros) | (refine goK17 ?_; intros)))
  refine if_split (fun hb => ?_) (fun hb => ?_)
  · exact h1 w1 (.of_ex e1) (of_decide_eq_true hb) r1
  have hcm : L.cm < s.i := by have := of_decide_eq_false hb; omega
  clear hb
  unfold t54_5
  have q1 : (R.st == 0) = true := by rw [hst]; rfl
  (repeat (first | (refine go ?_; intros) | (refine goK17 ?_; intros)))
  rw [q1, Bool.not_true]
  (repeat (first | (refine go ?_; intros) | (refine goK17 ?_; intros)))
  unfold t54_4
  refine cl_fn (k95 hs1 fun v2 hm2 => ?_)
  refine cl_fn (k97 hm2 fun v3 hc => ?_)
  refine cl_fn (k98 hc ?_)
  obtain ⟨cb, x1, x2, x3, x4, x5, rfl, hcb, n1, n2, n3, n4, n5⟩ := hc
  have hc : PC (.pointer (some ⟨cb, 0, none⟩)) s.c w1 := ⟨cb, x1, x2, x3, x4, x5, rfl, hcb, n1, n2, n3, n4, n5⟩
  refine dr_rule No [] fun w2 e2 z2 => ?_
  have hcb2 := e2.at_ hcb
  (repeat (first | (refine go ?_; intros) | (refine goK17 ?_; intros)))
  refine e_bs3 n1.one n2.one n3.one fun w3 e3 o3 z3 => ⟨.of_ex e3, ?_⟩
  refine q_lenSl o3.sl ?_
  have E3 : Ex w1 w3 := e2.trans e3
  have EW3 : Ex w w3 := e1.trans E3
  have r3 := r1.ex E3
  have rb3 := r3.bk
  have hrow : ∀ j, j < 3 → ∃ (x : Value) (l : List Int), [[x1], [x2], [x3]][j]? = some [x] ∧ [s.c.v, s.c.l, s.c.o][j]? = some l ∧ Nums w3 (some 22) x l := by
    intro j hj
    have : j = 0 ∨ j = 1 ∨ j = 2 := by omega
    rcases this with rfl | rfl | rfl
    · exact ⟨x1, s.c.v, rfl, rfl, n1.ex E3⟩
    · exact ⟨x2, s.c.l, rfl, rfl, n2.ex E3⟩
    · exact ⟨x3, s.c.o, rfl, rfl, n3.ex E3⟩
  have hin : R.id ∈ ([s.c.v, s.c.l, s.c.o].drop 0).flatten := by
    simp only [List.drop_zero, List.flatten_cons, List.mem_append]
    rcases hid with hh | hh
    · exact .inl hh
    · exact .inr (.inl hh)
  have hll : ∀ (j : Nat) (l : List Int), [s.c.v, s.c.l, s.c.o][j]? = some l → l.length ≤ 9 := by
    intro j l hl
    have := List.mem_of_getElem? hl
    simp only [List.mem_cons, List.not_mem_nil, or_false] at this
    have i1 := ck.l9
    have i2 := ck.l4
    rcases this with rfl | rfl | rfl
    · omega
    · omega
    · rw [ck.o]; simp
  refine jo_rule (fun J => J (.bool true) w3) ?_ ?_
  · unfold t54_3
    (repeat (first | (refine go ?_; intros) | (refine goK17 ?_; intros)))
    refine r54_2 r3 hst p (hs1.ex E3) (hc.ex E3) ck hi hd sm hcm (fun w' u a b => h2 w' ((Up.of_ex EW3).trans u) hcm a b) fun vb lm pm vt il xs ys ps' w' u a px py pk r' => ?_
    exact h vb lm pm vt il xs ys ps' w' ((Up.of_ex EW3).trans u) hcm a px py pk r'
  intro J hJ
  refine loop_n (α := Nat) (fun j τ w' => g τ 0 = .bool false ∧ g τ 3 = .int .i64 j ∧ j ≤ 3 ∧ w' = w3 ∧ R.id ∈ ([s.c.v, s.c.l, s.c.o].drop j).flatten) (fun j => 3 - j) 0 ⟨rfl, rfl, Nat.zero_le _, rfl, hin⟩ ?_
  rintro j τ w' R1 ⟨ht, hj, hle, rfl, hid1⟩ hR
  rw [hj, show (([[x1], [x2], [x3]] : List (List Value)).length : Int) = 3 from rfl]
  (repeat (first | (refine go ?_; intros) | (refine goK17 ?_; intros)))
  refine if_split (fun hb => ?_) (fun hb => ?_)
  · have hj' : j < 3 := by
      have := of_decide_eq_true hb
      omega
    obtain ⟨x, l, hx, hl, hnl⟩ := hrow j hj'
    have hl9 := hll j l hl
    have hdr : [s.c.v, s.c.l, s.c.o].drop j = l :: [s.c.v, s.c.l, s.c.o].drop (j + 1) := by
      obtain ⟨hlt, hge⟩ := List.getElem?_eq_some_iff.1 hl
      rw [← hge]
      exact List.drop_eq_getElem_cons hlt
    rw [hdr, List.flatten_cons, List.mem_append] at hid1
    refine q_ixs (x := x) j o3.sl rfl hx fun _ => ?_
    refine q_lenSl hnl ?_
    rw [show (nums l).length = l.length by simp [nums]]
    refine jo_rule (fun J2 => (∀ p1 p2 p3 p4 p5 p6 p7 p8 p9 p10 p12 p13, J2 p1 p2 p3 p4 p5 p6 p7 p8 p9 p10 (.bool true) p12 p13 w') ∧ (R.id ∈ ([s.c.v, s.c.l, s.c.o].drop (j + 1)).flatten → ∀ p1 p2 p3 p4 p5 p6 p7 p8 p9 p10 p12 p13, J2 p1 p2 p3 p4 p5 p6 p7 p8 p9 p10 (.bool false) p12 p13 w')) ⟨fun p1 p2 p3 p4 p5 p6 p7 p8 p9 p10 p12 p13 => ?_, fun hh p1 p2 p3 p4 p5 p6 p7 p8 p9 p10 p12 p13 => ?_⟩ ?_
    · (repeat (first | (refine go ?_; intros) | (refine goK17 ?_; intros)))
      exact hJ
    · (repeat (first | (refine go ?_; intros) | (refine goK17 ?_; intros)))
      rw [wrapS (by omega)]
      exact hR (j + 1) _ _ ⟨rfl, rfl, by omega, rfl, hh⟩ (by omega)
    rintro J2 ⟨hJt, hJf⟩
    refine loop_n (α := Nat) (fun i τ' w'' => g τ' 0 = .bool false ∧ g τ' 2 = .int .i64 i ∧ i ≤ l.length ∧ w'' = w' ∧ (R.id ∈ l.drop i ∨ R.id ∈ ([s.c.v, s.c.l, s.c.o].drop (j + 1)).flatten)) (fun i => l.length - i) 0 ⟨ht, rfl, Nat.zero_le _, rfl, hid1⟩ ?_
    rintro i τ' w'' R2 ⟨ht2, hi2, hle2, rfl, hid2⟩ hR2
    rw [hi2, ht2]
    (repeat (first | (refine go ?_; intros) | (refine goK17 ?_; intros)))
    refine if_split (fun hb2 => ?_) (fun hb2 => ?_)
    · have hi' : i < l.length := by
        have := of_decide_eq_true hb2
        omega
      obtain ⟨y, hy⟩ : ∃ y, l[i]? = some y := ⟨_, List.getElem?_eq_getElem hi'⟩
      refine q_ixs (x := .int .u64 y) i hnl rfl (by simp [nums, hy]) fun _ => ?_
      (repeat (first | (refine go ?_; intros) | (refine goK17 ?_; intros)))
      by_cases hyid : y = R.id
      · rw [show (y == R.id) = true by simp [hyid]]
        (repeat (first | (refine go ?_; intros) | (refine goK17 ?_; intros)))
        exact hJt _ _ _ _ _ _ _ _ _ _ _ _
      · rw [show (y == R.id) = false by simp [hyid]]
        (repeat (first | (refine go ?_; intros) | (refine goK17 ?_; intros)))
        rw [wrapS (by omega)]
        refine hR2 (i + 1) _ _ ⟨rfl, rfl, by omega, rfl, ?_⟩ (by omega)
        refine hid2.imp (fun hh => ?_) id
        obtain ⟨hlt, hge⟩ := List.getElem?_eq_some_iff.1 hy
        rw [List.drop_eq_getElem_cons hlt, hge, List.mem_cons] at hh
        exact hh.resolve_left fun e => hyid e.symm
    · have hil : i = l.length := by
        have := of_decide_eq_false hb2
        omega
      subst hil
      rw [List.drop_length] at hid2
      exact hJf (hid2.resolve_left (by simp)) _ _ _ _ _ _ _ _ _ _ _ _
  · have hj3 : j = 3 := by
      have := of_decide_eq_false hb
      omega
    subst hj3
    exact absurd hid1 (by simp)

end Go.Proofs.YtmmpogfbhelioaaGreat
/-
  Contract: guarded: a function is called, and nothing panicked.
  Conditions: the function returns.
-/
namespace Go.Proofs.YtmmpogfbhelioaaGreat
set_option maxRecDepth 10000
set_option linter.unusedVariables false
set_option linter.unusedSimpArgs false

theorem gd_67 (p : Addr) (w : World) (v0 : Value) (hc : w.cell? p = some v0) (hz : w.frozen? p = false) (hv0 : one v0 = true) :
    CallsD Tryz.prog 67 #[.pointer (some p)] .returning w fun e u' w' => e = .returned (.tuple #[]) ∧ u' = .returning ∧ w' = w.setCell p (.bool false) := by
  refine callsD_of_wpS Tryz.func67 rfl fun c₀ cs hu => ?_
  apply wpS_region
  simp [wpOpsS, go_sem, recoverD, hu, Tryz.ntmps67, Exit.thenS]
  simp [hc, hz, Oper.upon, bodyPostS, results, Tryz.results67, Act.put]
  cases c₀
  simp_all

theorem k48 {C : Nat → Prop} {T : List Nat} {K : Value → World → Prop} {w : World} {fn : Nat} [TFn Pr fn] {cap : Array Value} {Q : World → World → Prop} (hT : T.contains 6 = false)
    (hf : ∀ w1, Ex w w1 → CK Pr fn cap w1 fun _ w2 => Up C T w1 w2 ∧ Q w1 w2)
    (h : ∀ w1 w2 w3, Ex w w1 → Up C T w1 w2 → Q w1 w2 → Up (fun x => x = w.heap.size) [6] w2 w3 → K (.bool false) w3) : CK Pr 48 #[.func (.func fn) #[] cap] w K := by
  have hmf : ∀ (fn : Fn) (first cap : Array Value) (w : World), (Instr.makeFunc fn first cap).run Tryz.prog w = .ok (.func fn first cap) w := fun _ _ _ _ => rfl
  unfold CK
  go_enter_defers Tryz.func48, Tryz.ntmps48
  go_wp2
  have e1 : Ex w (w.alloc (.cells #[.bool false] 4)) := Up.alloc _ _
  have hb : Bk (w.alloc (.cells #[.bool false] 4)) w.heap.size (.cells #[.bool false] 4 (0, 0)) := Bk.alloc_new _ _
  rw [run_callFunc]
  simp only [Oper.upon]
  refine Calls.mono (hf _ e1) ?_
  rintro e w2 ⟨v, rfl, u, q⟩
  have hb2 := u.at_ hb hT
  have hc : w2.cell? ⟨w.heap.size, 0, none⟩ = some (.bool false) := by rw [hb2.cell]; rfl
  have hz : w2.frozen? ⟨w.heap.size, 0, none⟩ = false := hb2.frozen 0
  rename_i K1 h1 K2 h2
  refine h2 _ _ ?_
  go_wp2
  have hb3 := hb2.setCell 0 (.bool false)
  have u3 : Up (fun x => x = w.heap.size) [6] w2 _ := Up.setCell hb2 0 (.bool false)
  generalize w2.setCell ⟨w.heap.size, 0, none⟩ (.bool false) = w3 at hb3 u3 ⊢
  have hc3 : w3.cell? ⟨w.heap.size, 0, none⟩ = some (.bool false) := by rw [hb3.cell]; rfl
  have hz3 : w3.frozen? ⟨w.heap.size, 0, none⟩ = false := hb3.frozen 0
  have hb4 := hb3.setCell 0 (.bool false)
  have u4 : Up (fun x => x = w.heap.size) [6] w3 _ := Up.setCell hb3 0 (.bool false)
  simp only [bodyPostD]
  refine leaves_cons (f := 67) (args := #[.pointer (some ⟨w.heap.size, 0, none⟩)]) (by simp) (by simp [go_sem]) ?_
  refine (gd_67 _ _ (.bool false) hc3 hz3 rfl).mono ?_
  rintro e u' w4 ⟨rfl, rfl, rfl⟩
  have hc4 : (w3.setCell ⟨w.heap.size, 0, none⟩ (.bool false)).cell? ⟨w.heap.size, 0, none⟩ = some (.bool false) := by rw [hb4.cell]; rfl
  have hh := h _ w2 _ e1 u q (u3.trans u4)
  simp [Leaves, settle, results, Tryz.results48, go_sem, hc4]
  exact hh

end Go.Proofs.YtmmpogfbhelioaaGreat
/-
  Contract: a machine is made, something is called on it, and what it is then is told.
  Conditions: the data is whole; no messages.
-/
namespace Go.Proofs.YtmmpogfbhelioaaGreat
set_option maxRecDepth 10000
set_option linter.unusedVariables false
set_option linter.unusedSimpArgs false
theorem nmK24 {p : Prop} (h : p := by (try simp only [List.getElem?_toArray, List.getElem?_cons_zero, List.getElem?_cons_succ, List.setIfInBounds_toArray, List.set_cons_zero, List.set_cons_succ, List.toList_toArray, List.drop_zero, List.drop_succ_cons, List.take_zero, List.take_succ_cons, Nat.zero_add, Nat.add_zero, Nat.reduceAdd, putCells, Rf.cells, Mac.cells, Aft0]) <;> rfl) : p := h
theorem goK24 {G H : Prop} (h : H) (s : Stp G H := by (apply Stp.of; intro hS; (first | (refine q_ld bk_ nmK24 ?_) | (refine q_ldU bk_ rfl nmK24 ?_) | (refine q_ldW bk_ (by rfl) ?_) | (refine q_ldWU bk_ rfl (by rfl) ?_) | (refine q_ldP bk_ (Nat.le_of_ble_eq_true rfl) nmK24 ?_) | (refine q_ldPU bk_ rfl (Nat.le_of_ble_eq_true rfl) nmK24 ?_) | (refine q_ext nmK24 ?_) | (refine u_st bk_ (Nat.le_of_ble_eq_true rfl) (by first | rfl | assumption) nmK24 ?_) | (refine u_stA bk_ (Nat.le_of_ble_eq_true rfl) (by rfl) (by rfl) nmK24 ?_) | (refine q_field nmK24 ?_)); exact hS.out)) : G := s.f h
attribute [local irreducible] Instr.box Instr.alloc Instr.loadAt Instr.storeAt Instr.fieldAt Instr.indexAt Instr.build Instr.buildSlice Instr.makeSlice Instr.makeMap Instr.mapUpdate Instr.lookup Instr.range Instr.next Instr.entry Instr.extract Instr.makeInterface Instr.makeFunc Instr.sliceAt Instr.typeAssert Instr.field Instr.index Builtin.len_ Builtin.cap_ Builtin.max_ Builtin.min_ Builtin.append_ Builtin.copy_ Builtin.delete_ convert binS pickS nilS callV callM Op.unary Own Mp It Cu

variable {K : Value → World → Prop} {w : World} {te : Option Nat}

/-- The zero one of what is told. -/
def Aft0 (ok : Bool) : Array Value := #[.int .u64 0, .int .u64 0, .int .u64 0, .int .u64 0, .int .i64 0, .string ByteArray.empty, .int .u64 0, .int .u64 0, .slice none 0 0, .slice none 0 0, .slice none 0 0, .slice none 0 0, .bool false, .slice none 0 0, .slice none 0 0, .int .u64 0, .int .u64 0, .slice none 0 0, .slice none 0 0, .slice none 0 0, .slice none 0 0, .bool false, .bool false, .int .i64 0, .int .i64 0, .int .i64 0, .int .i64 0, .int .i64 0, .int .u64 0, .int .u64 0, .int .u64 0, .int .u64 0, .slice none 0 0, .slice none 0 0, .bool ok, .bool false]
/-- What is told. -/
def Aft (m : Mac) (sv lv : Value) (ok pn : Bool) : Array Value := #[.int .u64 m.id, .int .u64 m.term, .int .u64 m.vote, .int .u64 m.lead, .int .i64 m.role, .string m.base.d, .int .u64 m.base.i, .int .u64 m.base.t, m.cvV, m.clV, m.coV, m.cnV, .bool m.base.c.a, m.stV, m.frV, .int .u64 m.commit, .int .u64 m.applied, m.voV, m.leV, m.peV, m.vsV, .bool m.pv, .bool m.cq, .int .i64 m.el, .int .i64 m.hb, .int .i64 m.to, .int .i64 m.ep, .int .i64 m.be, .int .u64 m.ms, .int .u64 m.mu, .int .u64 m.un, .int .u64 m.tr, sv, lv, .bool ok, .bool pn]

/-- What the machine in memory must be, so that it can be told. -/
structure Fine (m : Mac) (R : Rf) (L : Lg) (ps : Ps) (vo le : List Int) : Prop where
  st : 0 ≤ R.st ∧ R.st ≤ 3
  off : L.us = none → ∀ e ∈ m.st, e.i < L.off
  kk : ∀ e ∈ L.un, i64 e.k
  sm : ∀ s, L.us = some s → CfSm s.c
  len : ps.length ≤ 13
  nd : (ps.map (·.1)).Nodup
  vo : vo.length ≤ 13
  le : le.length ≤ 13

theorem k52 {b : Nat} {R : Rf} (hb : Bk w b (.cells R.cells 187 (0, 0))) (h : ∀ w', Ex w w' → K (.tuple #[R.ms, R.af]) w') : CK Pr 52 #[.pointer (some ⟨b, 0, none⟩)] w K := by
  refine c52 ?_
  unfold t52
  refine dr_rule No [] fun w1 e1 z1 => ?_
  have hb1 := e1.at_ hb
  (repeat (first | (refine go ?_; intros) | (refine goK24 ?_; intros)))
  exact h w1 e1

theorem k53n (h : K (.slice none 0 0) w) : CK Pr 53 #[.slice none 0 0] w K := by
  refine c53 ?_
  unfold t53
  (repeat (first | (refine go ?_; intros) | (refine goK24 ?_; intros)))
  refine loop_n (α := Unit) (fun _ τ w' => g τ 0 = .slice none 0 0 ∧ g τ 2 = .int .i64 0 ∧ w' = w) (fun _ => 0) () ⟨rfl, rfl, rfl⟩ ?_
  rintro _ τ w' R ⟨h0, h2, rfl⟩ hR
  rw [h0, h2]
  (repeat (first | (refine go ?_; intros) | (refine goK24 ?_; intros)))
  exact h

end Go.Proofs.YtmmpogfbhelioaaGreat
/-
  Contracts: the package's messages: their getters, plain messages made out of them.
  Conditions: an answer of few fields.
-/
namespace Go.Proofs.YtmmpogfbhelioaaGreat
set_option maxRecDepth 10000
set_option linter.unusedVariables false
set_option linter.unusedSimpArgs false
theorem nmK29 {p : Prop} (h : p := by (try simp only [List.getElem?_toArray, List.getElem?_cons_zero, List.getElem?_cons_succ, List.setIfInBounds_toArray, List.set_cons_zero, List.set_cons_succ, List.toList_toArray, List.drop_zero, List.drop_succ_cons, List.take_zero, List.take_succ_cons, Nat.zero_add, Nat.add_zero, Nat.reduceAdd, putCells, MGc]) <;> rfl) : p := h
theorem goK29 {G H : Prop} (h : H) (s : Stp G H := by (apply Stp.of; intro hS; (first | (refine q_ld bk_ nmK29 ?_) | (refine q_ldU bk_ rfl nmK29 ?_) | (refine q_ldW bk_ (by rfl) ?_) | (refine q_ldWU bk_ rfl (by rfl) ?_) | (refine q_ldP bk_ (Nat.le_of_ble_eq_true rfl) nmK29 ?_) | (refine q_ldPU bk_ rfl (Nat.le_of_ble_eq_true rfl) nmK29 ?_) | (refine q_ext nmK29 ?_) | (refine u_st bk_ (Nat.le_of_ble_eq_true rfl) (by first | rfl | assumption) nmK29 ?_) | (refine u_stA bk_ (Nat.le_of_ble_eq_true rfl) (by rfl) (by rfl) nmK29 ?_) | (refine q_field nmK29 ?_)); exact hS.out)) : G := s.f h
attribute [local irreducible] Instr.box Instr.alloc Instr.loadAt Instr.storeAt Instr.fieldAt Instr.indexAt Instr.build Instr.buildSlice Instr.makeSlice Instr.makeMap Instr.mapUpdate Instr.lookup Instr.range Instr.next Instr.entry Instr.extract Instr.makeInterface Instr.makeFunc Instr.sliceAt Instr.typeAssert Instr.field Instr.index Builtin.len_ Builtin.cap_ Builtin.max_ Builtin.min_ Builtin.append_ Builtin.copy_ Builtin.delete_ convert binS pickS nilS callV callM Op.unary Own Mp It Cu

variable {K : Value → World → Prop} {w : World} {te : Option Nat}

/-- A message, as far as an answer has fields: kind, to, from, term, index. -/
structure Mg where
  k : Int
  to : Int
  fr : Int
  te : Int
  ix : Int

def MGc (vk vt vf vm vi : Value) : Array Value := #[vk, vt, vf, vm, .pointer none, vi, .slice none 0 0, .pointer none, .pointer none, .pointer none, .pointer none, .pointer none, .slice none 0 0, .slice none 0 0]
/-- Block b is the package's message g. -/
def MG (b : Nat) (g : Mg) (w : World) : Prop := ∃ vk vt vf vm vi, Bk w b (.cells (MGc vk vt vf vm vi) 119 (0, 0)) ∧ PN 113 .i32 vk g.k w ∧ PN 22 .u64 vt g.to w ∧ PN 22 .u64 vf g.fr w ∧ PN 22 .u64 vm g.te w ∧ PN 22 .u64 vi g.ix w
theorem MG.ex {b : Nat} {g : Mg} {w' : World} (u : Ex w w') : MG b g w → MG b g w' := fun ⟨vk, vt, vf, vm, vi, h, h1, h2, h3, h4, h5⟩ => ⟨vk, vt, vf, vm, vi, u.at_ h, h1.ex u, h2.ex u, h3.ex u, h4.ex u, h5.ex u⟩
theorem MG.mt {b : Nat} {g : Mg} {C : Nat → Prop} {T : List Nat} {w' : World} (u : Up C T w w') (hT : (T.contains 121 || T.contains 115 || T.contains 24) = false) : MG b g w → MG b g w' := fun ⟨vk, vt, vf, vm, vi, h, h1, h2, h3, h4, h5⟩ => by
  simp only [Bool.or_eq_false_iff] at hT
  exact ⟨vk, vt, vf, vm, vi, u.at_ h hT.1.1, h1.mt hT.1.2 u, h2.mt hT.2 u, h3.mt hT.2 u, h4.mt hT.2 u, h5.mt hT.2 u⟩

theorem k135 {b : Nat} {g : Mg} (hg : MG b g w) (h : K (.int .i32 g.k) w) : CK Pr 135 #[.pointer (some ⟨b, 0, none⟩)] w K := by
  obtain ⟨vk, vt, vf, vm, vi, hb, h0, h1, h2, h3, h4⟩ := hg
  refine c135 ?_
  unfold t135
  rcases h0 with ⟨rfl, e0⟩ | ⟨b2, rfl, hb2⟩
  · (repeat (first | (refine go ?_; intros) | (refine goK29 ?_; intros)))
    rw [e0] at h
    exact h
  · (repeat (first | (refine go ?_; intros) | (refine goK29 ?_; intros)))
    exact h

theorem k136 {b : Nat} {g : Mg} (hg : MG b g w) (h : K (.int .u64 g.to) w) : CK Pr 136 #[.pointer (some ⟨b, 0, none⟩)] w K := by
  obtain ⟨vk, vt, vf, vm, vi, hb, h0, h1, h2, h3, h4⟩ := hg
  refine c136 ?_
  unfold t136
  rcases h1 with ⟨rfl, e0⟩ | ⟨b2, rfl, hb2⟩
  · (repeat (first | (refine go ?_; intros) | (refine goK29 ?_; intros)))
    rw [e0] at h
    exact h
  · (repeat (first | (refine go ?_; intros) | (refine goK29 ?_; intros)))
    exact h

theorem k137 {b : Nat} {g : Mg} (hg : MG b g w) (h : K (.int .u64 g.fr) w) : CK Pr 137 #[.pointer (some ⟨b, 0, none⟩)] w K := by
  obtain ⟨vk, vt, vf, vm, vi, hb, h0, h1, h2, h3, h4⟩ := hg
  refine c137 ?_
  unfold t137
  rcases h2 with ⟨rfl, e0⟩ | ⟨b2, rfl, hb2⟩
  · (repeat (first | (refine go ?_; intros) | (refine goK29 ?_; intros)))
    rw [e0] at h
    exact h
  · (repeat (first | (refine go ?_; intros) | (refine goK29 ?_; intros)))
    exact h

theorem k138 {b : Nat} {g : Mg} (hg : MG b g w) (h : K (.int .u64 g.te) w) : CK Pr 138 #[.pointer (some ⟨b, 0, none⟩)] w K := by
  obtain ⟨vk, vt, vf, vm, vi, hb, h0, h1, h2, h3, h4⟩ := hg
  refine c138 ?_
  unfold t138
  rcases h3 with ⟨rfl, e0⟩ | ⟨b2, rfl, hb2⟩
  · (repeat (first | (refine go ?_; intros) | (refine goK29 ?_; intros)))
    rw [e0] at h
    exact h
  · (repeat (first | (refine go ?_; intros) | (refine goK29 ?_; intros)))
    exact h

theorem k140 {b : Nat} {g : Mg} (hg : MG b g w) (h : K (.int .u64 g.ix) w) : CK Pr 140 #[.pointer (some ⟨b, 0, none⟩)] w K := by
  obtain ⟨vk, vt, vf, vm, vi, hb, h0, h1, h2, h3, h4⟩ := hg
  refine c140 ?_
  unfold t140
  rcases h4 with ⟨rfl, e0⟩ | ⟨b2, rfl, hb2⟩
  · (repeat (first | (refine go ?_; intros) | (refine goK29 ?_; intros)))
    rw [e0] at h
    exact h
  · (repeat (first | (refine go ?_; intros) | (refine goK29 ?_; intros)))
    exact h

theorem k139 {b : Nat} {g : Mg} (hg : MG b g w) (h : K (.int .u64 0) w) : CK Pr 139 #[.pointer (some ⟨b, 0, none⟩)] w K := by
  obtain ⟨vk, vt, vf, vm, vi, hb, h0, h1, h2, h3, h4⟩ := hg
  refine c139 ?_
  unfold t139
  (repeat (first | (refine go ?_; intros) | (refine goK29 ?_; intros)))
  exact h

theorem k141 {b : Nat} {g : Mg} (hg : MG b g w) (h : K (.int .u64 0) w) : CK Pr 141 #[.pointer (some ⟨b, 0, none⟩)] w K := by
  obtain ⟨vk, vt, vf, vm, vi, hb, h0, h1, h2, h3, h4⟩ := hg
  refine c141 ?_
  unfold t141
  (repeat (first | (refine go ?_; intros) | (refine goK29 ?_; intros)))
  exact h

theorem k142 {b : Nat} {g : Mg} (hg : MG b g w) (h : K (.int .u64 0) w) : CK Pr 142 #[.pointer (some ⟨b, 0, none⟩)] w K := by
  obtain ⟨vk, vt, vf, vm, vi, hb, h0, h1, h2, h3, h4⟩ := hg
  refine c142 ?_
  unfold t142
  (repeat (first | (refine go ?_; intros) | (refine goK29 ?_; intros)))
  exact h

theorem k143 {b : Nat} {g : Mg} (hg : MG b g w) (h : K (.int .u64 0) w) : CK Pr 143 #[.pointer (some ⟨b, 0, none⟩)] w K := by
  obtain ⟨vk, vt, vf, vm, vi, hb, h0, h1, h2, h3, h4⟩ := hg
  refine c143 ?_
  unfold t143
  (repeat (first | (refine go ?_; intros) | (refine goK29 ?_; intros)))
  exact h

theorem k144 {b : Nat} {g : Mg} (hg : MG b g w) (h : K (.slice none 0 0) w) : CK Pr 144 #[.pointer (some ⟨b, 0, none⟩)] w K := by
  obtain ⟨vk, vt, vf, vm, vi, hb, h0, h1, h2, h3, h4⟩ := hg
  refine c144 ?_
  unfold t144
  (repeat (first | (refine go ?_; intros) | (refine goK29 ?_; intros)))
  exact h

theorem k117 {b : Nat} {g : Mg} (hg : MG b g w) (h : K (.pointer none) w) : CK Pr 117 #[.pointer (some ⟨b, 0, none⟩)] w K := by
  obtain ⟨vk, vt, vf, vm, vi, hb, h0, h1, h2, h3, h4⟩ := hg
  refine c117 ?_
  unfold t117
  (repeat (first | (refine go ?_; intros) | (refine goK29 ?_; intros)))
  exact h

theorem k145 {b : Nat} {g : Mg} (hg : MG b g w) (h : K (.bool false) w) : CK Pr 145 #[.pointer (some ⟨b, 0, none⟩)] w K := by
  obtain ⟨vk, vt, vf, vm, vi, hb, h0, h1, h2, h3, h4⟩ := hg
  refine c145 ?_
  unfold t145
  (repeat (first | (refine go ?_; intros) | (refine goK29 ?_; intros)))
  exact h

theorem k146 {b : Nat} {g : Mg} (hg : MG b g w) (h : K (.slice none 0 0) w) : CK Pr 146 #[.pointer (some ⟨b, 0, none⟩)] w K := by
  obtain ⟨vk, vt, vf, vm, vi, hb, h0, h1, h2, h3, h4⟩ := hg
  refine c146 ?_
  unfold t146
  (repeat (first | (refine go ?_; intros) | (refine goK29 ?_; intros)))
  exact h

theorem k147 {b : Nat} {g : Mg} (hg : MG b g w) (h : K (.slice none 0 0) w) : CK Pr 147 #[.pointer (some ⟨b, 0, none⟩)] w K := by
  obtain ⟨vk, vt, vf, vm, vi, hb, h0, h1, h2, h3, h4⟩ := hg
  refine c147 ?_
  unfold t147
  (repeat (first | (refine go ?_; intros) | (refine goK29 ?_; intros)))
  exact h

theorem k95n (h : K (.pointer none) w) : CK Pr 95 #[.pointer none] w K := by
  refine c95 ?_
  unfold t95
  (repeat (first | (refine go ?_; intros) | (refine goK29 ?_; intros)))
  exact h

theorem k132n (h : K (.slice none 0 0) w) : CK Pr 132 #[.pointer none] w K := by
  refine c132 ?_
  unfold t132
  (repeat (first | (refine go ?_; intros) | (refine goK29 ?_; intros)))
  exact h

theorem k96n (h : K (.int .u64 0) w) : CK Pr 96 #[.pointer none] w K := by
  refine c96 ?_
  unfold t96
  (repeat (first | (refine go ?_; intros) | (refine goK29 ?_; intros)))
  exact h

theorem k99n (h : K (.int .u64 0) w) : CK Pr 99 #[.pointer none] w K := by
  refine c99 ?_
  unfold t99
  (repeat (first | (refine go ?_; intros) | (refine goK29 ?_; intros)))
  exact h

theorem k97n (h : K (.pointer none) w) : CK Pr 97 #[.pointer none] w K := by
  refine c97 ?_
  unfold t97
  (repeat (first | (refine go ?_; intros) | (refine goK29 ?_; intros)))
  exact h

theorem k210n (h : K (.slice none 0 0) w) : CK Pr 210 #[.pointer none] w K := by
  refine c210 ?_
  unfold t210
  (repeat (first | (refine go ?_; intros) | (refine goK29 ?_; intros)))
  exact h

theorem k211n (h : K (.slice none 0 0) w) : CK Pr 211 #[.pointer none] w K := by
  refine c211 ?_
  unfold t211
  (repeat (first | (refine go ?_; intros) | (refine goK29 ?_; intros)))
  exact h

theorem k212n (h : K (.slice none 0 0) w) : CK Pr 212 #[.pointer none] w K := by
  refine c212 ?_
  unfold t212
  (repeat (first | (refine go ?_; intros) | (refine goK29 ?_; intros)))
  exact h

theorem k213n (h : K (.slice none 0 0) w) : CK Pr 213 #[.pointer none] w K := by
  refine c213 ?_
  unfold t213
  (repeat (first | (refine go ?_; intros) | (refine goK29 ?_; intros)))
  exact h

theorem k156n (h : K (.bool false) w) : CK Pr 156 #[.pointer none] w K := by
  refine c156 ?_
  unfold t156
  (repeat (first | (refine go ?_; intros) | (refine goK29 ?_; intros)))
  exact h

end Go.Proofs.YtmmpogfbhelioaaGreat
/-
  Contracts: plain messages made out of the package's.
  Conditions: an answer of few fields; one of them at most.
-/
namespace Go.Proofs.YtmmpogfbhelioaaGreat
set_option maxRecDepth 10000
set_option linter.unusedVariables false
set_option linter.unusedSimpArgs false
theorem nmK30 {p : Prop} (h : p := by (try simp only [List.getElem?_toArray, List.getElem?_cons_zero, List.getElem?_cons_succ, List.setIfInBounds_toArray, List.set_cons_zero, List.set_cons_succ, List.toList_toArray, List.drop_zero, List.drop_succ_cons, List.take_zero, List.take_succ_cons, Nat.zero_add, Nat.add_zero, Nat.reduceAdd, putCells, MGc, Mg.cells]) <;> rfl) : p := h
theorem goK30 {G H : Prop} (h : H) (s : Stp G H := by (apply Stp.of; intro hS; (first | (refine q_ld bk_ nmK30 ?_) | (refine q_ldU bk_ rfl nmK30 ?_) | (refine q_ldW bk_ (by rfl) ?_) | (refine q_ldWU bk_ rfl (by rfl) ?_) | (refine q_ldP bk_ (Nat.le_of_ble_eq_true rfl) nmK30 ?_) | (refine q_ldPU bk_ rfl (Nat.le_of_ble_eq_true rfl) nmK30 ?_) | (refine q_ext nmK30 ?_) | (refine u_st bk_ (Nat.le_of_ble_eq_true rfl) (by first | rfl | assumption) nmK30 ?_) | (refine u_stA bk_ (Nat.le_of_ble_eq_true rfl) (by rfl) (by rfl) nmK30 ?_) | (refine q_field nmK30 ?_)); exact hS.out)) : G := s.f h
attribute [local irreducible] Instr.box Instr.alloc Instr.loadAt Instr.storeAt Instr.fieldAt Instr.indexAt Instr.build Instr.buildSlice Instr.makeSlice Instr.makeMap Instr.mapUpdate Instr.lookup Instr.range Instr.next Instr.entry Instr.extract Instr.makeInterface Instr.makeFunc Instr.sliceAt Instr.typeAssert Instr.field Instr.index Builtin.len_ Builtin.cap_ Builtin.max_ Builtin.min_ Builtin.append_ Builtin.copy_ Builtin.delete_ convert binS pickS nilS callV callM Op.unary Own Mp It Cu

variable {K : Value → World → Prop} {w : World} {te : Option Nat}

theorem k133n (k : ∀ v1 v2 v3 v4 w', Ex w w' → one v1 = true → one v2 = true → one v3 = true → one v4 = true → K (.agg #[v1, v2, v3, v4, .bool false]) w') : CK Pr 133 #[.pointer none] w K := by
  refine c133 ?_
  unfold t133
  refine e_allocA fun b0 w0 e0 hb0 sa sb => ?_
  refine cl_fn (k210n ?_)
  refine cl_fn (k107 (l := []) (te := some 22) (.nil _ _) (by simp) fun u1 w1 e1 o1 => ?_)
  refine cl_fn (k211n ?_)
  refine cl_fn (k107 (l := []) (te := some 22) (.nil _ _) (by simp) fun u2 w2 e2 o2 => ?_)
  refine cl_fn (k212n ?_)
  refine cl_fn (k107 (l := []) (te := some 22) (.nil _ _) (by simp) fun u3 w3 e3 o3 => ?_)
  refine cl_fn (k213n ?_)
  refine cl_fn (k107 (l := []) (te := some 22) (.nil _ _) (by simp) fun u4 w4 e4 o4 => ?_)
  refine cl_fn (k156n ?_)
  refine b25_0_1_2_3_4 o1.sl.one o2.sl.one o3.sl.one o4.sl.one rfl ?_
  refine u_stA bk_ (Nat.le_of_ble_eq_true rfl) (by rfl) (by simp only [List.all_cons, List.all_nil, o1.sl.one, o2.sl.one, o3.sl.one, o4.sl.one]; rfl) nmK30 fun w5 u5 hb5 z5 => ?_
  (repeat (first | (refine go ?_; intros) | (refine goK30 ?_; intros)))
  have z1 := e1.size
  have z2 := e2.size
  have z3 := e3.size
  have z4 := e4.size
  exact k u1 u2 u3 u4 w5 ex_ o1.sl.one o2.sl.one o3.sl.one o4.sl.one

theorem k90n (k : ∀ v1 v2 v3 v4 w', Ex w w' → one v1 = true → one v2 = true → one v3 = true → one v4 = true → K (.agg #[.string ByteArray.empty, .int .u64 0, .int .u64 0, v1, v2, v3, v4, .bool false]) w') : CK Pr 90 #[.pointer none] w K := by
  refine c90 ?_
  unfold t90
  refine e_allocA fun b0 w0 e0 hb0 sa sb => ?_
  refine cl_fn (k95n ?_)
  refine dr_rule (fun b => b = b0) [29] fun w1 e1 z1 => ?_
  refine cl_fn (k132n ⟨.refl _ _ _, ?_⟩)
  refine q_strS (s := ByteArray.empty) (te := none) (fun w' hw => by exact Sl.nil _ _) ?_
  refine cl_fn (k96n ⟨.refl _ _ _, ?_⟩)
  refine cl_fn (k99n ⟨.refl _ _ _, ?_⟩)
  refine cl_fn (k97n ⟨.refl _ _ _, ?_⟩)
  refine cl_fn (k133n fun u1 u2 u3 u4 w2 e2 o1 o2 o3 o4 => ⟨.of_ex e2, ?_⟩)
  have z2 := e2.size
  refine b27_0_1_2_3 rfl rfl rfl ?_
  refine u_stA bk_ (Nat.le_of_ble_eq_true rfl) (by rfl) (by simp only [List.all_cons, List.all_nil, o1, o2, o3, o4]; rfl) nmK30 fun w5 u5 hb5 z5 => ⟨(Up.of_ex e2).trans u5, ?_⟩
  (repeat (first | (refine go ?_; intros) | (refine goK30 ?_; intros)))
  exact k u1 u2 u3 u4 w5 ex_ o1 o2 o3 o4

/-- The plain message. -/
def Mg.cells (g : Mg) (v0 v1 v2 v3 v4 : Value) : Array Value := #[.int .i64 g.k, .int .u64 g.to, .int .u64 g.fr, .int .u64 g.te, .int .u64 0, .int .u64 g.ix, .int .u64 0, .int .u64 0, .int .u64 0, v0, .string ByteArray.empty, .int .u64 0, .int .u64 0, v1, v2, v3, v4, .bool false, .bool false, .string ByteArray.empty, .slice none 0 0]

theorem k94 {b : Nat} {mg : Mg} (hg : MG b mg w) (hk : IntKind.i64.wrap mg.k = mg.k)
    (k : ∀ v0 v1 v2 v3 v4 w', Ex w w' → one v0 = true → one v1 = true → one v2 = true → one v3 = true → one v4 = true → K (.agg (mg.cells v0 v1 v2 v3 v4)) w') : CK Pr 94 #[.pointer (some ⟨b, 0, none⟩)] w K := by
  refine c94 ?_
  unfold t94
  refine e_allocA fun b0 w0 e0 hb0 sa sb => ?_
  have g0 := hg.ex e0
  refine cl_fn (k135 g0 ?_)
  (repeat (first | (refine go ?_; intros) | (refine goK30 ?_; intros)))
  rw [hk]
  refine cl_fn (k136 g0 ?_)
  refine cl_fn (k137 g0 ?_)
  refine cl_fn (k138 g0 ?_)
  refine cl_fn (k139 g0 ?_)
  refine cl_fn (k140 g0 ?_)
  refine cl_fn (k141 g0 ?_)
  refine cl_fn (k142 g0 ?_)
  refine cl_fn (k143 g0 ?_)
  refine cl_fn (k144 g0 ?_)
  refine cl_fn (k86 (l := []) (ps := []) (te := none) (.nil _ _) (.nil _) (by simp) (fun e he => by cases he) fun v0 w1 e1 o0 => ?_)
  have g1 := g0.ex e1
  refine cl_fn (k117 g1 ?_)
  refine cl_fn (k90n fun v1 v2 v3 v4 w2 e2 o1 o2 o3 o4 => ?_)
  have g2 := g1.ex e2
  refine cl_fn (k145 g2 ?_)
  refine cl_fn (k146 g2 ?_)
  refine q_strS (s := ByteArray.empty) (te := none) (fun w' hw => by exact Sl.nil _ _) ?_
  have oo := o0.sl.one
  refine b64_0_1_2_3_4_5_6_7_8_9_10_11_12 rfl rfl rfl rfl rfl rfl rfl rfl rfl oo rfl rfl ?_
  refine e_allocA fun b3 w3 e3 hb3 sc sd => ?_
  refine u_stA hb3 (Nat.le_of_ble_eq_true rfl) (by rfl) (by simp only [List.all_cons, List.all_nil, oo, o1, o2, o3, o4]; rfl) nmK30 fun w4 u4 hb4 z4 => ?_
  clear hb3
  have z1 := e1.size
  have z2 := e2.size
  have z3 := e3.size
  have e4 : Ex w2 w4 := e3.new u4 (by intro x hx; subst hx; omega)
  have hb04 : Bk w4 b0 _ := e4.at_ (e2.at_ (e1.at_ hb0))
  refine cl_fn (k147 (g2.ex e4) ?_)
  (repeat (first | (refine go ?_; intros) | (refine goK30 ?_; intros)))
  refine loop_n (α := Unit) (fun _ τ w' => g τ 1 = .int .i64 0 ∧ w' = w4) (fun _ => 0) () ⟨rfl, rfl⟩ ?_
  rintro _ τ w' R ⟨h0, rfl⟩ hR
  rw [h0]
  (repeat (first | (refine go ?_; intros) | (refine goK30 ?_; intros)))
  refine u_stA hb04 (Nat.le_of_ble_eq_true rfl) (by rfl) (by simp only [List.all_cons, List.all_nil, oo, o1, o2, o3, o4]; rfl) nmK30 fun w5 u5 hb5 z5 => ?_
  refine q_ldW hb5 (by rfl) ?_
  exact k v0 v1 v2 v3 v4 w5 ((((e0.trans e1).trans e2).trans e4).new u5 (by intro x hx; subst hx; omega)) oo o1 o2 o3 o4

/-- The messages of a machine in memory: none, or one. -/
def AF (v : Value) (l : Option Mg) (w : World) : Prop := match l with
  | none => v = .slice none 0 0
  | some g => ∃ b, Sl w (some 86) 1 v [[.pointer (some ⟨b, 0, none⟩)]] ∧ MG b g w
theorem AF.ex {v : Value} {l : Option Mg} {w' : World} (u : Ex w w') (h : AF v l w) : AF v l w' := by
  cases l with
  | none => exact h
  | some g => obtain ⟨b, h1, h2⟩ := h; exact ⟨b, h1.ex u, h2.ex u⟩
theorem AF.mt {v : Value} {l : Option Mg} {C : Nat → Prop} {T : List Nat} {w' : World} (u : Up C T w w') (hT : (T.contains 121 || T.contains 115 || T.contains 24) = false) (h2 : T.contains 88 = false) (h : AF v l w) : AF v l w' := by
  cases l with
  | none => exact h
  | some g => obtain ⟨b, h1, h3⟩ := h; exact ⟨b, h1.typ u h2, h3.mt u hT⟩
/-- The plain messages. -/
def PA (v : Value) (l : Option Mg) (w : World) : Prop := match l with
  | none => v = .slice none 0 0
  | some g => ∃ v0 v1 v2 v3 v4, Sl w (some 64) 21 v [(g.cells v0 v1 v2 v3 v4).toList]
theorem PA.ex {v : Value} {l : Option Mg} {w' : World} (u : Ex w w') (h : PA v l w) : PA v l w' := by
  cases l with
  | none => exact h
  | some g => obtain ⟨v0, v1, v2, v3, v4, h1⟩ := h; exact ⟨v0, v1, v2, v3, v4, h1.ex u⟩
theorem PA.mt {v : Value} {l : Option Mg} {C : Nat → Prop} {T : List Nat} {w' : World} (u : Up C T w w') (hT : T.contains 66 = false) (h : PA v l w) : PA v l w' := by
  cases l with
  | none => exact h
  | some g => obtain ⟨v0, v1, v2, v3, v4, h1⟩ := h; exact ⟨v0, v1, v2, v3, v4, h1.typ u hT⟩
theorem PA.one {v : Value} {l : Option Mg} (h : PA v l w) : one v = true := by
  cases l with
  | none => subst h; rfl
  | some g => obtain ⟨v0, v1, v2, v3, v4, h1⟩ := h; exact h1.one

theorem k53 {v : Value} {l : Option Mg} (hv : AF v l w) (hk : ∀ g, l = some g → IntKind.i64.wrap g.k = g.k) (h : ∀ v' w', Ex w w' → PA v' l w' → K v' w') : CK Pr 53 #[v] w K := by
  refine c53 ?_
  unfold t53
  cases l with
  | none =>
    obtain rfl := hv
    (repeat (first | (refine go ?_; intros) | (refine goK30 ?_; intros)))
    refine loop_n (α := Unit) (fun _ τ w' => g τ 0 = .slice none 0 0 ∧ g τ 2 = .int .i64 0 ∧ w' = w) (fun _ => 0) () ⟨rfl, rfl, rfl⟩ ?_
    rintro _ τ w' R ⟨h0, h2, rfl⟩ hR
    rw [h0, h2]
    (repeat (first | (refine go ?_; intros) | (refine goK30 ?_; intros)))
    exact h _ _ (.refl _ _ _) rfl
  | some mg =>
    obtain ⟨b, hs, hm⟩ := hv
    refine q_lenSl hs ?_
    refine loop_n (α := Bool) (fun a τ w' => if a then g τ 2 = .int .i64 1 ∧ Ex w w' ∧ PA (g τ 0) (some mg) w' else g τ 2 = .int .i64 0 ∧ w' = w ∧ g τ 0 = .slice none 0 0) (fun a => if a then 0 else 1) false ⟨rfl, rfl, rfl⟩ ?_
    intro a τ w' R ha hR
    cases a with
    | false =>
      obtain ⟨h2, rfl, h0⟩ := ha
      rw [h2, h0]
      (repeat (first | (refine go ?_; intros) | (refine goK30 ?_; intros)))
      refine q_ixs 0 hs rfl (by rfl) fun _ => ?_
      refine cl_fn (k94 hm (hk mg rfl) fun v0 v1 v2 v3 v4 w1 e1 o0 o1 o2 o3 o4 => ?_)
      refine e_push (n := 21) (base := w1.heap.size) (Own.nil _ _ _ _) (by rfl) (by omega) ?_ (by simp) (by simp) (Nat.le_refl _) fun _ v' w3 u3 ow3 hbl z3 => ?_
      · intro u hu
        simp only [Value.cells, Mg.cells, List.mem_cons, List.not_mem_nil, or_false] at hu
        rcases hu with rfl | rfl | rfl | rfl | rfl | rfl | rfl | rfl | rfl | rfl | rfl | rfl | rfl | rfl | rfl | rfl | rfl | rfl | rfl | rfl | rfl <;> first | rfl | assumption
      (repeat (first | (refine go ?_; intros) | (refine goK30 ?_; intros)))
      refine hR true _ _ ?_ (by simp)
      refine ⟨rfl, e1.new u3 (by intro x hx; cases hx), v0, v1, v2, v3, v4, ow3.sl⟩
    | true =>
      obtain ⟨h2, he, hp⟩ := ha
      rw [h2]
      (repeat (first | (refine go ?_; intros) | (refine goK30 ?_; intros)))
      exact h _ _ he hp

end Go.Proofs.YtmmpogfbhelioaaGreat
/-
  Contract: a machine is made, something is called on it, and what it is then is told, with an answer.
  Conditions: the data is whole; nothing is sent at once, and one answer at most behind.
-/
namespace Go.Proofs.YtmmpogfbhelioaaGreat
set_option maxRecDepth 10000
set_option linter.unusedVariables false
set_option linter.unusedSimpArgs false
theorem nmK34 {p : Prop} (h : p := by (try simp only [List.getElem?_toArray, List.getElem?_cons_zero, List.getElem?_cons_succ, List.setIfInBounds_toArray, List.set_cons_zero, List.set_cons_succ, List.toList_toArray, List.drop_zero, List.drop_succ_cons, List.take_zero, List.take_succ_cons, Nat.zero_add, Nat.add_zero, Nat.reduceAdd, putCells, Mac.cells, Aft0]) <;> rfl) : p := h
theorem goK34 {G H : Prop} (h : H) (s : Stp G H := by (apply Stp.of; intro hS; (first | (refine q_ld bk_ nmK34 ?_) | (refine q_ldU bk_ rfl nmK34 ?_) | (refine q_ldW bk_ (by rfl) ?_) | (refine q_ldWU bk_ rfl (by rfl) ?_) | (refine q_ldP bk_ (Nat.le_of_ble_eq_true rfl) nmK34 ?_) | (refine q_ldPU bk_ rfl (Nat.le_of_ble_eq_true rfl) nmK34 ?_) | (refine q_ext nmK34 ?_) | (refine u_st bk_ (Nat.le_of_ble_eq_true rfl) (by first | rfl | assumption) nmK34 ?_) | (refine u_stA bk_ (Nat.le_of_ble_eq_true rfl) (by rfl) (by rfl) nmK34 ?_) | (refine q_field nmK34 ?_)); exact hS.out)) : G := s.f h
attribute [local irreducible] Instr.box Instr.alloc Instr.loadAt Instr.storeAt Instr.fieldAt Instr.indexAt Instr.build Instr.buildSlice Instr.makeSlice Instr.makeMap Instr.mapUpdate Instr.lookup Instr.range Instr.next Instr.entry Instr.extract Instr.makeInterface Instr.makeFunc Instr.sliceAt Instr.typeAssert Instr.field Instr.index Builtin.len_ Builtin.cap_ Builtin.max_ Builtin.min_ Builtin.append_ Builtin.copy_ Builtin.delete_ convert binS pickS nilS callV callM Op.unary Own Mp It Cu

variable {K : Value → World → Prop} {w : World} {te : Option Nat}

theorem PA.kp {v : Value} {l : Option Mg} {a z : Nat} {w' : World} (u : Kp a z w w') (h : PA v l w) : PA v l w' := by
  cases l with
  | none => exact h
  | some g => obtain ⟨v0, v1, v2, v3, v4, h1⟩ := h; exact ⟨v0, v1, v2, v3, v4, h1.kp u rfl (by decide)⟩

theorem k49g {m : Mac} {mb cb ob fnc : Nat} [TFn Pr fnc] {cap : Array Value} {wm : World} {Φ : Rf → Lg → Ps → List Int → List Int → Bool → Option Mg → Prop} (hm : IsMac wm m) (em : Ex wm w) (hob0 : wm.heap.size ≤ ob) (wh : Whole m) (hpl : m.pe.length ≤ 2147483647)
    (hmb : Bk w mb (.cells m.cells 32 (0, 0))) (hcb : Bk w cb (.cells #[.func (.func fnc) #[] cap] 77 (0, 0))) (hob : Bk w ob (.cells (Aft0 false) 38 (0, 0)))
    (hcall : ∀ base b lb vb lm pm vt ro most sb ps w1 (K' : Value → World → Prop), Ex w w1 → w.heap.size ≤ base → ps.map (·.1) = m.vo ++ m.le → RM base b (mkR m lb vb lm pm vt ro most) (mkL m sb) ps m.vo m.le w1 →
      (∀ ok R L ps vo le l w2 T, Up (fun x => base ≤ x) T w1 w2 → RM base b R L ps vo le w2 → Fine m R L ps vo le → R.ms = .slice none 0 0 → AF R.af l w2 → (∀ g, l = some g → IntKind.i64.wrap g.k = g.k) → Φ R L ps vo le ok l → K' (.bool ok) w2) → CK Pr fnc (#[.pointer (some ⟨b, 0, none⟩)] ++ cap) w1 K')
    (h : ∀ mo ok R L ps vo le l lv w', Up (fun x => x = ob) [40] w w' → Bk w' ob (.cells (Aft mo (.slice none 0 0) lv ok false) 38 (0, 0)) → MF m R L ps vo le mo → (∀ w'', Kp wm.heap.size w.heap.size w' w'' → IsMac w'' mo ∧ PA lv l w'') → Φ R L ps vo le ok l → K (.tuple #[]) w') :
    CK Pr 49 #[.pointer (some ⟨mb, 0, none⟩), .pointer (some ⟨cb, 0, none⟩), .pointer (some ⟨ob, 0, none⟩)] w K := by
  refine c49 ?_
  unfold t49
  (repeat (first | (refine go ?_; intros) | (refine goK34 ?_; intros)))
  refine cl_fn (k50 (hm.ex em) wh hpl fun base b lb vb lm pm vt ro most sb ps w1 e1 hbase hk r1 => ?_)
  have hmb1 := e1.at_ hmb
  have hcb1 := e1.at_ hcb
  have hob1 := e1.at_ hob
  (repeat (first | (refine go ?_; intros) | (refine goK34 ?_; intros)))
  refine cl_clo (hcall base b lb vb lm pm vt ro most sb ps w1 _ e1 hbase hk r1 fun ok R L ps2 vo le l w2 T u2 r2 fin hms haf hlk hΦ => ?_)
  have z1 := e1.size
  have z2 := u2.size
  have ob1 := hob1.lt
  have e12 : Ex w w2 := e1.new u2 (fun x hx => by omega)
  have hb2 := e12.at_ hob
  have hmb2 := e12.at_ hmb
  clear hmb1 hcb1 hob1 hcb hob hmb
  (repeat (first | (refine go ?_; intros) | (refine goK34 ?_; intros)))
  rename_i w3 u3 hb3 z3
  have hmb3 := u3.at_ hmb2 rfl
  clear hmb2 hb2
  have r3 := r2.mt (w' := w3) rfl rfl u3
  have em3 : Ex wm w3 := (em.trans e12).new u3 (by intro x hx; subst hx; exact hob0)
  (repeat (first | (refine go ?_; intros) | (refine goK34 ?_; intros)))
  refine cl_fn (k51 hm em3 r3 (by have := wh.row.len; rw [List.length_append] at this; omega) fin.off fin.st fin.kk fin.sm fin.len fin.nd fin.vo fin.le fun mo w4 e4 mf hmo => ?_)
  have hb4 := e4.at_ hb3
  have r4 := r3.ex e4
  clear hb3 hmb3
  have hz : Up (fun x => wm.heap.size ≤ x) [40, 6, 45] w4 w4 := .refl _ _ _
  have o1 := (hmo w4 hz.kp).one1
  (repeat (first | (refine go ?_; intros) | (refine goK34 ?_; intros)))
  refine u_stA hb4 (Nat.le_of_ble_eq_true rfl) (by rfl) (by simp only [Mac.cells, List.all_cons, List.all_nil, o1.1, o1.2.1, o1.2.2.1, o1.2.2.2.1, o1.2.2.2.2.1, o1.2.2.2.2.2.1, o1.2.2.2.2.2.2.1, o1.2.2.2.2.2.2.2.1, o1.2.2.2.2.2.2.2.2.1, o1.2.2.2.2.2.2.2.2.2]; rfl) nmK34 fun w5 u5 hb5 z5 => ?_
  have r5 := r4.mt (w' := w5) rfl rfl u5
  clear hb4
  refine cl_fn (k52 r5.bk fun w6 e6 => ?_)
  have hb6 := e6.at_ hb5
  clear hb5
  have af6 : AF R.af l w6 := ((((haf.mt u3 rfl rfl).ex e4).mt u5 rfl rfl).ex e6)
  (repeat (first | (refine go ?_; intros) | (refine goK34 ?_; intros)))
  rw [hms]
  refine cl_fn (k53n ?_)
  refine cl_fn (k53 af6 hlk fun lv w6b e6b pa => ?_)
  have hb6b := e6b.at_ hb6
  clear hb6
  have plv := pa.one
  (repeat (first | (refine go ?_; intros) | (refine goK34 ?_; intros)))
  rename_i w7 u7 hb7 z7 w8 u8 hb8 z8
  have U3 : Up (fun x => x = ob) [40] w w3 := (Up.of_ex e12).trans u3
  have U48 : Up (fun x => x = ob) [40] w4 w8 := (((u5.ex e6).ex e6b).trans u7).trans u8
  have U68 : Up (fun x => x = ob) [40] w6b w8 := u7.trans u8
  have mono : ∀ {a c : World}, Up (fun x => x = ob) [40] a c → Up (fun x => wm.heap.size ≤ x) [40, 6, 45] a c := fun u => u.mono (fun y _ hy => by subst hy; exact hob0) (fun k hk => by simp at hk; simp [hk])
  refine h mo ok R L ps2 vo le l lv w8 ((U3.ex e4).trans U48) hb8 mf (fun w9 u9 => ⟨hmo w9 (((mono U48).kp.trans u9).mono (by have := e12.size; have := u3.size; omega)), pa.kp ((mono U68).kp.trans u9)⟩) hΦ

theorem k29g {m : Mac} {fnc : Nat} [TFn Pr fnc] {cap : Array Value} {Φ : Rf → Lg → Ps → List Int → List Int → Bool → Option Mg → Prop} {wm : World} (hm : IsMac wm m) (em : Ex wm w) (wh : Whole m) (hpl : m.pe.length ≤ 2147483647)
    (hcall : ∀ base b lb vb lm pm vt ro most sb ps w0 w1 (K' : Value → World → Prop), Ex w w0 → Ex w0 w1 → w0.heap.size ≤ base → ps.map (·.1) = m.vo ++ m.le → RM base b (mkR m lb vb lm pm vt ro most) (mkL m sb) ps m.vo m.le w1 →
      (∀ ok R L ps vo le l w2 T, Up (fun x => base ≤ x) T w1 w2 → RM base b R L ps vo le w2 → Fine m R L ps vo le → R.ms = .slice none 0 0 → AF R.af l w2 → (∀ g, l = some g → IntKind.i64.wrap g.k = g.k) → Φ R L ps vo le ok l → K' (.bool ok) w2) → CK Pr fnc (#[.pointer (some ⟨b, 0, none⟩)] ++ cap) w1 K')
    (h : ∀ mo ok R L ps vo le l lv w', Ex w w' → MF m R L ps vo le mo → (∀ w'', Kp wm.heap.size w.heap.size w' w'' → IsMac w'' mo ∧ PA lv l w'') → Φ R L ps vo le ok l → K (.agg (Aft mo (.slice none 0 0) lv ok false)) w') :
    CK Pr 29 #[.agg m.cells, .func (.func fnc) #[] cap] w K := by
  refine c29 ?_
  unfold t29
  refine e_boxA fun mb w1 e1 hb1 s1 s2 => ?_
  refine e_box1 rfl fun cb w2 e2 hb2 s3 s4 => ?_
  refine e_allocA fun rb w3 e3 hb3 s5 s6 => ?_
  refine e_allocA fun ob w4 e4 hb4 s7 s8 => ?_
  have hmb : Bk w4 mb (.cells m.cells 32 (0, 0)) := e4.at_ (e3.at_ (e2.at_ hb1))
  have hcb := e4.at_ (e3.at_ hb2)
  have zm := em.size
  have z1 := e1.size
  have z2 := e2.size
  have z3 := e3.size
  have z4 := e4.size
  have ew4 : Ex w w4 := ((e1.trans e2).trans e3).trans e4
  refine q_mkf ?_
  refine cl_fn (k48 (C := fun x => x = ob) (T := [40]) (Q := fun a c => ∃ mo ok R L ps vo le l lv, Bk c ob (.cells (Aft mo (.slice none 0 0) lv ok false) 38 (0, 0)) ∧ MF m R L ps vo le mo ∧ (∀ w'', Kp wm.heap.size w.heap.size c w'' → IsMac w'' mo ∧ PA lv l w'') ∧ Φ R L ps vo le ok l) rfl (fun w5 e5 => ?_) fun w5 w6 w7 e5 u6 q6 u7 => ?_)
  · refine k49g (wm := wm) (Φ := Φ) hm ((em.trans ew4).trans e5) (by omega) wh hpl (e5.at_ hmb) (e5.at_ hcb) (e5.at_ hb4) ?_ ?_
    · intro base b lb vb lm pm vt ro most sb ps wa K' ea hbase hk r hK
      exact hcall base b lb vb lm pm vt ro most sb ps w5 wa K' (ew4.trans e5) ea hbase hk r hK
    · intro mo ok R L ps vo le l lv w' u hb mf hmo hΦ
      exact ⟨u, mo, ok, R, L, ps, vo, le, l, lv, hb, mf, fun w9 u9 => hmo w9 (u9.mono (by have := (ew4.trans e5).size; omega)), hΦ⟩
  · obtain ⟨mo, ok, R, L, ps, vo, le, l, lv, hb, mf, hmo, hΦ⟩ := q6
    have hb7 := u7.at_ hb rfl
    have hrb7 : Bk w7 rb _ := u7.at_ (u6.off (e5.at_ (e4.at_ hb3)) (by intro h; omega)) rfl
    have U67 : Up (fun x => wm.heap.size ≤ x) [40, 6, 45] w6 w7 := u7.mono (fun y _ hy => by subst hy; omega) (fun k hk => by simp at hk; simp [hk])
    have o1 := (hmo w7 U67.kp).1.one1
    have olv := (hmo w7 U67.kp).2.one
    have ew7 : Ex w w7 := (((ew4.trans e5).new u6 (by intro x hx; subst hx; omega))).new u7 (by intro x hx; subst hx; omega)
    have hne : rb ≠ ob := by omega
    (repeat (first | (refine go ?_; intros) | (refine goK34 ?_; intros)))
    refine u_stA hrb7 (Nat.le_of_ble_eq_true rfl) (by rfl) (by simp only [Aft, List.toList_toArray, List.all_cons, List.all_nil, olv, o1.1, o1.2.1, o1.2.2.1, o1.2.2.2.1, o1.2.2.2.2.1, o1.2.2.2.2.2.1, o1.2.2.2.2.2.2.1, o1.2.2.2.2.2.2.2.1, o1.2.2.2.2.2.2.2.2.1, o1.2.2.2.2.2.2.2.2.2]; rfl) (putCells_all (by rfl)) fun w8 u8 hb8 z8 => ?_
    have U8 : Up (fun x => wm.heap.size ≤ x) [40, 6, 45] w7 w8 := u8.mono (fun y _ hy => by subst hy; omega) (fun k hk => by simp at hk; simp [hk])
    clear hb hb7 hrb7
    refine q_ldW hb8 (by rfl) ?_
    exact h mo ok R L ps vo le l lv w8 (ew7.new u8 (by intro x hx; subst hx; omega)) mf (fun w9 u9 => hmo w9 ((U67.trans U8).kp.trans u9)) hΦ

end Go.Proofs.YtmmpogfbhelioaaGreat
/-
  Contract: Becomes.
  Conditions: the machine is whole; a leader becomes a follower alone.
-/
namespace Go.Proofs.YtmmpogfbhelioaaGreat
set_option maxRecDepth 10000
set_option linter.unusedVariables false
set_option linter.unusedSimpArgs false
attribute [local irreducible] Instr.box Instr.alloc Instr.loadAt Instr.storeAt Instr.fieldAt Instr.indexAt Instr.build Instr.buildSlice Instr.makeSlice Instr.makeMap Instr.mapUpdate Instr.lookup Instr.range Instr.next Instr.entry Instr.extract Instr.makeInterface Instr.makeFunc Instr.sliceAt Instr.typeAssert Instr.field Instr.index Builtin.len_ Builtin.cap_ Builtin.max_ Builtin.min_ Builtin.append_ Builtin.copy_ Builtin.delete_ convert binS pickS nilS callV callM Op.unary Own Mp It Cu

variable {K : Value → World → Prop} {w : World} {te : Option Nat}

theorem Whole.keys {m : Mac} (wh : Whole m) {ps : Ps} (hk : ps.map (·.1) = m.vo ++ m.le) : ps.length ≤ 13 ∧ (ps.map (·.1)).Nodup ∧ m.vo.length ≤ 9 ∧ m.le.length ≤ 4 := by
  have h1 : m.vo.length ≤ 9 := wh.mem.v9
  have h2 : m.le.length ≤ 4 := wh.mem.l4
  have := congrArg List.length hk
  simp only [List.length_map, List.length_append] at this
  exact ⟨by omega, by rw [hk]; exact wh.mem.nd, h1, h2⟩

theorem Whole.fine {m : Mac} (wh : Whole m) {R : Rf} {ps : Ps} {sb : Nat} (hk : ps.map (·.1) = m.vo ++ m.le) (hst : 0 ≤ R.st ∧ R.st ≤ 3) : Fine m R (mkL m sb) ps m.vo m.le := by
  obtain ⟨h1, h2, h3, h4⟩ := wh.keys hk
  refine ⟨hst, fun _ e he => ?_, fun e he => ?_, fun s hs => (by cases hs), h1, h2, by omega, by omega⟩
  · obtain ⟨j, hj⟩ := List.getElem?_of_mem he
    have hjl : j < m.st.length := (List.getElem?_eq_some_iff.1 hj).1
    have := (wh.row.at_ j e (by rw [List.getElem?_append_left hjl]; exact hj)).1
    show e.i < m.base.i + m.st.length + 1
    omega
  · obtain ⟨j, hj⟩ := List.getElem?_of_mem (List.mem_append_right m.st (show e ∈ m.fr from he))
    have := (wh.row.at_ j e hj).2.2.2.1
    rw [this]
    exact ⟨by omega, by omega⟩

/-- What term, vote and leader a machine has that became something. -/
def tgt (m : Mac) (role term lead : Int) : Int × Int × Int :=
  if role = 0 then (term, if m.term = term then m.vote else 0, lead) else if role = 1 then (m.term + 1, m.id, 0) else (m.term, m.vote, 0)

/-- What Becomes leaves. -/
def PhB (m : Mac) (role term lead : Int) (R : Rf) (L : Lg) (ps : Ps) (vo le : List Int) (ok : Bool) : Prop :=
  R.id = m.id ∧ (R.term, R.vote, R.lead) = tgt m role term lead ∧ R.st = role ∧ (∃ sb, L = mkL m sb) ∧ vo = m.vo ∧ le = m.le ∧ ok = false

end Go.Proofs.YtmmpogfbhelioaaGreat
/-
  Contract: RestoreSnap.
  Conditions: the machine is whole and a follower; the snapshot is one that it may be handed.
-/
namespace Go.Proofs.YtmmpogfbhelioaaGreat
set_option maxRecDepth 10000
set_option linter.unusedVariables false
set_option linter.unusedSimpArgs false
attribute [local irreducible] Instr.box Instr.alloc Instr.loadAt Instr.storeAt Instr.fieldAt Instr.indexAt Instr.build Instr.buildSlice Instr.makeSlice Instr.makeMap Instr.mapUpdate Instr.lookup Instr.range Instr.next Instr.entry Instr.extract Instr.makeInterface Instr.makeFunc Instr.sliceAt Instr.typeAssert Instr.field Instr.index Builtin.len_ Builtin.cap_ Builtin.max_ Builtin.min_ Builtin.append_ Builtin.copy_ Builtin.delete_ convert binS pickS nilS callV callM Op.unary Own Mp It Cu

variable {K : Value → World → Prop} {w : World} {te : Option Nat}

/-- The term of the machine's entry at an index. -/
def Mac.tat (m : Mac) (i : Int) : Option Int := if i < m.base.i then none else (((⟨m.base.t, m.base.i, 0, ByteArray.empty⟩ : En) :: (m.st ++ m.fr))[(i - m.base.i).toNat]?).map (·.t)

/-- A snapshot that the machine may be handed. -/
structure SnapOk (m : Mac) (s : Sn) : Prop where
  i : 1 ≤ s.i ∧ s.i ≤ 1099511627776
  t : 1 ≤ s.t ∧ s.t ≤ m.term
  d : s.d.size ≤ 100
  c : MembersOk s.c
  inn : m.id ∈ s.c.v ∨ m.id ∈ s.c.l

theorem MembersOk.ck {c : Cf} (h : MembersOk c) : CfOk c :=
  ⟨h.o, h.n, h.a, h.nd, by intro hh; have := h.v0; rw [hh] at this; simp at this, fun x hx hh => by have := (h.id x hx).1; omega, h.v9, h.l4⟩
theorem MembersOk.sm {c : Cf} (h : MembersOk c) : CfSm c := ⟨by have := h.v9; omega, by have := h.l4; omega, by rw [h.o]; simp, by rw [h.n]; simp⟩

/-- What a snapshot that is not taken leaves of the log. -/
structure PhN (m : Mac) (s : Sn) (L : Lg) (ps : Ps) (vo le : List Int) (cm : Int) : Prop where
  us : L.us = none
  un : L.un = m.fr
  keys : ps.map (·.1) = m.vo ++ m.le
  vo : vo = m.vo
  le : le = m.le
  cm : L.cm = cm
/-- What a snapshot that is taken leaves. -/
structure PhT (m : Mac) (s : Sn) (L : Lg) (ps : Ps) (vo le : List Int) : Prop where
  us : L.us = some s
  un : L.un = []
  cm : L.cm = s.i
  keys : (ps.map (·.1)).Perm (vo ++ le)
  vo : vo.Perm s.c.v
  le : le.Perm s.c.l

/-- The three ways. -/
def PhW (m : Mac) (s : Sn) (L : Lg) (ps : Ps) (vo le : List Int) (ok : Bool) : Prop :=
  (ok = false ∧ s.i ≤ m.commit ∧ PhN m s L ps vo le m.commit) ∨ (ok = false ∧ m.commit < s.i ∧ m.tat s.i = some s.t ∧ PhN m s L ps vo le s.i) ∨ (ok = true ∧ m.commit < s.i ∧ m.tat s.i ≠ some s.t ∧ PhT m s L ps vo le)

/-- What the snapshot leaves of the machine. -/
structure PhR (m : Mac) (s : Sn) (R : Rf) (L : Lg) (ps : Ps) (vo le : List Int) (ok : Bool) (l : Option Mg) : Prop where
  id : R.id = m.id
  term : R.term = m.term
  vote : R.vote = m.vote
  lead : R.lead = m.lead
  st : R.st = 0
  l : l = none
  way : PhW m s L ps vo le ok

theorem mkL_pl (m : Mac) (sb : Nat) : (mkL m sb).Pl ⟨m.base.t, m.base.i, 0, ByteArray.empty⟩ m.st := ⟨rfl, rfl, rfl⟩
theorem mkL_at (m : Mac) (sb : Nat) (i : Int) : (mkL m sb).at ⟨m.base.t, m.base.i, 0, ByteArray.empty⟩ m.st i = m.tat i := rfl

theorem PhT.fine {m : Mac} {s : Sn} {R : Rf} {L : Lg} {ps : Ps} {vo le : List Int} (h : PhT m s L ps vo le) (so : MembersOk s.c) (hst : 0 ≤ R.st ∧ R.st ≤ 3) : Fine m R L ps vo le := by
  have e1 := h.vo.length_eq
  have e2 := h.le.length_eq
  have e3 := h.keys.length_eq
  have i1 := so.v9
  have i2 := so.l4
  rw [List.length_append, List.length_map] at e3
  refine ⟨hst, fun hn => ?_, fun e he => ?_, fun s' hs => ?_, by omega, ?_, by omega, by omega⟩
  · rw [h.us] at hn; cases hn
  · rw [h.un] at he; cases he
  · rw [h.us] at hs; cases hs; exact so.sm
  · exact (h.keys.nodup_iff).2 ((List.Perm.nodup_iff (h.vo.append h.le)).2 so.nd)
theorem PhN.fine {m : Mac} {s : Sn} {R : Rf} {L : Lg} {ps : Ps} {vo le : List Int} {cm : Int} {sb : Nat} (h : PhN m s L ps vo le cm) (wh : Whole m) (hst : 0 ≤ R.st ∧ R.st ≤ 3) (hoff : L.off = (mkL m sb).off) : Fine m R L ps vo le := by
  have f := wh.fine (R := R) (sb := sb) h.keys hst
  refine ⟨hst, fun _ e he => by rw [hoff]; exact f.off rfl e he, fun e he => f.kk e (by rw [h.un] at he; exact he), fun s' hs => (by rw [h.us] at hs; cases hs), f.len, f.nd, by rw [h.vo]; exact f.vo, by rw [h.le]; exact f.le⟩

theorem k31R {m : Mac} {s : Sn} {base b lb vb pm vt ro sb : Nat} {lm : Option Nat} {most : Int} {ps : Ps} {v : Value} (wh : Whole m) (hrole : m.role = 0) (so : SnapOk m s) (hs : PS v s w) (hk : ps.map (·.1) = m.vo ++ m.le)
    (r : RM base b (mkR m lb vb lm pm vt ro most) (mkL m sb) ps m.vo m.le w)
    (h : ∀ ok R L ps vo le l w2 T, Up (fun x => base ≤ x) T w w2 → RM base b R L ps vo le w2 → Fine m R L ps vo le → R.ms = .slice none 0 0 → AF R.af l w2 → (∀ g, l = some g → IntKind.i64.wrap g.k = g.k) → PhR m s R L ps vo le ok l → K (.bool ok) w2) :
    CK Pr 31 #[.pointer (some ⟨b, 0, none⟩), v] w K := by
  refine c31 ?_
  unfold t31
  have h0 : ∀ {R : Rf}, R.st = 0 → 0 ≤ R.st ∧ R.st ≤ 3 := fun e => by rw [e]; exact ⟨Int.le_refl _, by omega⟩
  have ist : (mkR m lb vb lm pm vt ro most).st = 0 := hrole
  have i1 := so.i
  have i2 := so.d
  refine cl_fn (k54 r ist (mkL_pl m sb) hs so.inn so.c.ck ⟨by omega, by omega⟩ (by omega) so.c.sm (fun w2 u hle r2 => ?_) (fun w2 u hlt hat r2 => ?_) fun vb2 lm2 pm2 vt2 il xs ys ps2 w2 u hlt hat px py pk r2 => ?_)
  · have pn : PhN m s (mkL m sb) ps m.vo m.le m.commit := ⟨rfl, rfl, hk, rfl, rfl, rfl⟩
    exact h false _ _ _ _ _ none w2 _ u r2 (pn.fine wh (h0 ist) (sb := sb) rfl) rfl rfl (fun g hg => by cases hg) ⟨rfl, rfl, rfl, rfl, ist, rfl, .inl ⟨rfl, hle, pn⟩⟩
  · have pn : PhN m s { mkL m sb with cm := s.i } ps m.vo m.le s.i := ⟨rfl, rfl, hk, rfl, rfl, rfl⟩
    exact h false _ _ _ _ _ none w2 _ u r2 (pn.fine wh (h0 ist) (sb := sb) rfl) rfl rfl (fun g hg => by cases hg) ⟨rfl, rfl, rfl, rfl, ist, rfl, .inr (.inl ⟨rfl, hlt, by rw [← mkL_at m sb]; exact hat, pn⟩)⟩
  · have pt : PhT m s ((mkL m sb).snap s) ps2 xs ys := ⟨rfl, rfl, rfl, pk, px, py⟩
    exact h true _ _ _ _ _ none w2 _ u r2 (pt.fine so.c (h0 (R := (mkR m lb vb lm pm vt ro most).snap vb2 lm2 pm2 vt2 il) ist)) rfl rfl (fun g hg => by cases hg) ⟨rfl, rfl, rfl, rfl, ist, rfl, .inr (.inr ⟨rfl, hlt, by rw [← mkL_at m sb]; exact hat, pt⟩)⟩

theorem k11 {m : Mac} {s : Sn} {v1 v2 v3 v4 : Value} {wm : World} (hm : IsMac wm m) (em : Ex wm w) (hs : IsCf wm v1 v2 v3 v4 s.c) (wh : Whole m) (hpl : m.pe.length ≤ 2147483647) (hrole : m.role = 0) (so : SnapOk m s)
    (h : ∀ mo ok R L ps vo le l lv w', Ex w w' → MF m R L ps vo le mo → (∀ w'', Kp wm.heap.size w.heap.size w' w'' → IsMac w'' mo ∧ PA lv l w'') → PhR m s R L ps vo le ok l → K (.agg (Aft mo (.slice none 0 0) lv ok false)) w') :
    CK Pr 11 #[.agg m.cells, .agg (snCells s v1 v2 v3 v4)] w K := by
  refine c11 ?_
  unfold t11
  have o1 := hs.v.one
  have o2 := hs.l.one
  have o3 := hs.o.one
  have o4 := hs.n.one
  refine e_boxA fun mb w1 e1 hb1 s1 s2 => ?_
  refine e_boxA fun sb w2 e2 hb2 s3 s4 => ?_
  refine e_allocA fun rb w5 e5 hb5 s9 s10 => ?_
  have ew : Ex w w5 := (e1.trans e2).trans e5
  have gm : Bk w5 mb (.cells m.cells 32 (0, 0)) := e5.at_ (e2.at_ hb1)
  have gs : Bk w5 sb (.cells (snCells s v1 v2 v3 v4) 27 (0, 0)) := e5.at_ hb2
  refine q_ldW gm (by rfl) ?_
  refine q_mkf ?_
  refine cl_fn (k29g (Φ := PhR m s) hm (em.trans ew) wh hpl ?_ ?_)
  · intro base b lb vb lm pm vt ro most sb' ps w0 w6 K' e0 e6 hbase hk r hK
    have ee : Ex w5 w6 := e0.trans e6
    have gs6 := ee.at_ gs
    have em6 : Ex wm w6 := (em.trans ew).trans ee
    refine c30 ?_
    unfold t30
    refine q_ldW gs6 (by rfl) ?_
    have i2 := so.d
    have sm := so.c.sm
    refine cl_fn (k32 (by omega) (hs.v.ex em6) (hs.l.ex em6) (hs.o.ex em6) (hs.n.ex em6) sm.v sm.l sm.o sm.n fun v w7 e7 hps => ?_)
    refine cl_fn (k31R wh hrole so hps hk (r.ex e7) fun ok R L ps vo le l w8 T u r8 f ms af hl ph => ?_)
    exact hK ok R L ps vo le l w8 T ((Up.of_ex e7).trans u) r8 f ms af hl ph
  · intro mo ok R L ps vo le l lv w6 e6 mf hmo hΦ
    have hb6 := e6.at_ hb5
    have o1 := (hmo w6 (Up.kp (.refl _ _ _))).1.one1
    have olv := (hmo w6 (Up.kp (.refl _ _ _))).2.one
    refine u_stA hb6 (Nat.le_of_ble_eq_true rfl) (by rfl) (by simp only [Aft, List.toList_toArray, List.all_cons, List.all_nil, olv, o1.1, o1.2.1, o1.2.2.1, o1.2.2.2.1, o1.2.2.2.2.1, o1.2.2.2.2.2.1, o1.2.2.2.2.2.2.1, o1.2.2.2.2.2.2.2.1, o1.2.2.2.2.2.2.2.2.1, o1.2.2.2.2.2.2.2.2.2]; rfl) (putCells_all (by rfl)) fun w7 u7 hb7 z7 => ?_
    refine q_ldW hb7 (by rfl) ?_
    have zm := em.size
    have zw := e1.size
    have zw2 := e2.size
    have U7 : Up (fun x => wm.heap.size ≤ x) [40, 6, 45] w6 w7 := u7.mono (fun y _ hy => by subst hy; omega) (fun k hk => by simp at hk; simp [hk])
    have zw5 := ew.size
    exact h mo ok R L ps vo le l lv w7 ((ew.trans e6).new u7 (by intro x hx; subst hx; omega)) mf (fun w8 u8 => hmo w8 ((U7.kp.trans u8).mono (by omega))) hΦ

end Go.Proofs.YtmmpogfbhelioaaGreat
/-
  Contracts: a message of the answers is sent; an empty entry is appended; the machine becomes a leader.
  Conditions: each one's own.
-/
namespace Go.Proofs.YtmmpogfbhelioaaGreat
set_option maxRecDepth 10000
set_option linter.unusedVariables false
set_option linter.unusedSimpArgs false
theorem nmK32 {p : Prop} (h : p := by (try simp only [List.getElem?_toArray, List.getElem?_cons_zero, List.getElem?_cons_succ, List.setIfInBounds_toArray, List.set_cons_zero, List.set_cons_succ, List.toList_toArray, List.drop_zero, List.drop_succ_cons, List.take_zero, List.take_succ_cons, Nat.zero_add, Nat.add_zero, Nat.reduceAdd, putCells, Rf.cells, MGc]) <;> rfl) : p := h
theorem goK32 {G H : Prop} (h : H) (s : Stp G H := by (apply Stp.of; intro hS; (first | (refine q_ld bk_ nmK32 ?_) | (refine q_ldU bk_ rfl nmK32 ?_) | (refine q_ldW bk_ (by rfl) ?_) | (refine q_ldWU bk_ rfl (by rfl) ?_) | (refine q_ldP bk_ (Nat.le_of_ble_eq_true rfl) nmK32 ?_) | (refine q_ldPU bk_ rfl (Nat.le_of_ble_eq_true rfl) nmK32 ?_) | (refine q_ext nmK32 ?_) | (refine u_st bk_ (Nat.le_of_ble_eq_true rfl) (by first | rfl | assumption) nmK32 ?_) | (refine u_stA bk_ (Nat.le_of_ble_eq_true rfl) (by rfl) (by rfl) nmK32 ?_) | (refine q_field nmK32 ?_)); exact hS.out)) : G := s.f h
attribute [local irreducible] Instr.box Instr.alloc Instr.loadAt Instr.storeAt Instr.fieldAt Instr.indexAt Instr.build Instr.buildSlice Instr.makeSlice Instr.makeMap Instr.mapUpdate Instr.lookup Instr.range Instr.next Instr.entry Instr.extract Instr.makeInterface Instr.makeFunc Instr.sliceAt Instr.typeAssert Instr.field Instr.index Builtin.len_ Builtin.cap_ Builtin.max_ Builtin.min_ Builtin.append_ Builtin.copy_ Builtin.delete_ convert binS pickS nilS callV callM Op.unary Own Mp It Cu

variable {K : Value → World → Prop} {w : World} {te : Option Nat}

theorem k119 {base b mb : Nat} {R : Rf} {L : Lg} {ps : Ps} {vo le : List Int} {to ix : Int} (r : RM base b R L ps vo le w) (hm : MG mb ⟨4, to, 0, 0, ix⟩ w) (haf : R.af = .slice none 0 0)
    (h : ∀ v w', Up (fun x => x = mb ∨ x = b) [121, 189] w w' → RM base b { R with af := v } L ps vo le w' → AF v (some ⟨4, to, R.id, R.term, ix⟩) w' → K (.tuple #[]) w') :
    CK Pr 119 #[.pointer (some ⟨b, 0, none⟩), .pointer (some ⟨mb, 0, none⟩)] w K := by
  refine c119 ?_
  unfold t119
  have rb := r.bk
  refine cl_fn (k137 hm ?_)
  obtain ⟨vk, vt, vf, vm, vi, hmb, p0, p1, p2, p3, p4⟩ := hm
  have o0 := p0.one
  have o1 := p1.one
  have o3 := p3.one
  have o4 := p4.one
  (repeat (first | (refine go ?_; intros) | (refine goK32 ?_; intros)))
  rename_i fb w1 e1 hfb s1 s2 w2 u2 hb2 z2
  have U2 : Up (fun x => x = mb) [121] w w2 := (Up.of_ex e1).trans u2
  have g2 : MG mb ⟨4, to, R.id, 0, ix⟩ w2 := ⟨vk, vt, .pointer (some ⟨fb, 0, none⟩), vm, vi, hb2, p0.mt rfl U2, p1.mt rfl U2, .inr ⟨fb, rfl, u2.at_ hfb rfl⟩, p3.mt rfl U2, p4.mt rfl U2⟩
  have r2 : RM base b R L ps vo le w2 := r.mt rfl rfl U2
  have rb2 := r2.bk
  clear rb hmb hb2
  unfold t119_2
  refine cl_fn (k135 g2 ?_)
  (repeat (first | (refine go ?_; intros) | (refine goK32 ?_; intros)))
  refine cl_fn (k135 g2 ?_)
  (repeat (first | (refine go ?_; intros) | (refine goK32 ?_; intros)))
  refine cl_fn (k135 g2 ?_)
  (repeat (first | (refine go ?_; intros) | (refine goK32 ?_; intros)))
  refine cl_fn (k135 g2 ?_)
  (repeat (first | (refine go ?_; intros) | (refine goK32 ?_; intros)))
  refine cl_fn (k138 g2 ?_)
  (repeat (first | (refine go ?_; intros) | (refine goK32 ?_; intros)))
  refine cl_fn (k135 g2 ?_)
  (repeat (first | (refine go ?_; intros) | (refine goK32 ?_; intros)))
  refine cl_fn (k135 g2 ?_)
  obtain ⟨vk, vt, vf, vm, vi, hmb, p0, p1, p2, p3, p4⟩ := g2
  have o0 := p0.one
  have o1 := p1.one
  have o2 := p2.one
  have o4 := p4.one
  (repeat (first | (refine go ?_; intros) | (refine goK32 ?_; intros)))
  rename_i tb w3 e3 htb s3 s4 w4 u4 hb4 z4
  have U4 : Up (fun x => x = mb) [121] w2 w4 := (Up.of_ex e3).trans u4
  have g4 : MG mb ⟨4, to, R.id, R.term, ix⟩ w4 := ⟨vk, vt, vf, .pointer (some ⟨tb, 0, none⟩), vi, hb4, p0.mt rfl U4, p1.mt rfl U4, p2.mt rfl U4, .inr ⟨tb, rfl, u4.at_ htb rfl⟩, p4.mt rfl U4⟩
  have r4 : RM base b R L ps vo le w4 := r2.mt rfl rfl U4
  have rb4 := r4.bk
  clear rb2 hmb hb4
  unfold t119_1
  refine cl_fn (k135 g4 ?_)
  (repeat (first | (refine go ?_; intros) | (refine goK32 ?_; intros)))
  rw [haf]
  refine e_push1 (base := w4.heap.size) (Own.nil _ _ _ _) rfl (by simp) (by simp) (Nat.le_refl _) fun s5 v5 w5 u5 o5 hb5 z5 => ?_
  have e5 : Ex w4 w5 := u5.no fun b hb hc => by cases hc
  have r5 := r4.ex e5
  have rb5 := r5.bk
  have v5o := o5.sl.one
  clear rb4
  (repeat (first | (refine go ?_; intros) | (refine goK32 ?_; intros)))
  rename_i w6 u6 hb6 z6
  have U : Up (fun x => x = mb ∨ x = b) [121, 189] w w5 := (((U2.trans U4).ex e5).mono (fun _ _ h => .inl h) (fun k hk => by simp at hk; simp [hk]))
  refine h v5 w6 (U.trans (u6.mono (fun _ _ h => .inr h) (fun k hk => by simp at hk; simp [hk]))) (r5.put u6 hb6 ⟨rfl, rfl, rfl, rfl, rfl, rfl⟩) ⟨mb, o5.sl.typ u6 rfl, (g4.ex e5).mt u6 rfl⟩

end Go.Proofs.YtmmpogfbhelioaaGreat
/-
  Contracts: a message with a snapshot in words of the package.
  Conditions: the snapshot has an index.
-/
namespace Go.Proofs.YtmmpogfbhelioaaGreat
set_option maxRecDepth 10000
set_option linter.unusedVariables false
set_option linter.unusedSimpArgs false
theorem nmK59 {p : Prop} (h : p := by (try simp only [List.getElem?_toArray, List.getElem?_cons_zero, List.getElem?_cons_succ, List.setIfInBounds_toArray, List.set_cons_zero, List.set_cons_succ, List.toList_toArray, List.drop_zero, List.drop_succ_cons, List.take_zero, List.take_succ_cons, Nat.zero_add, Nat.add_zero, Nat.reduceAdd, putCells, SnM]) <;> rfl) : p := h
theorem goK59 {G H : Prop} (h : H) (s : Stp G H := by (apply Stp.of; intro hS; (first | (refine q_ld bk_ nmK59 ?_) | (refine q_ldU bk_ rfl nmK59 ?_) | (refine q_ldW bk_ (by rfl) ?_) | (refine q_ldWU bk_ rfl (by rfl) ?_) | (refine q_ldP bk_ (Nat.le_of_ble_eq_true rfl) nmK59 ?_) | (refine q_ldPU bk_ rfl (Nat.le_of_ble_eq_true rfl) nmK59 ?_) | (refine q_ext nmK59 ?_) | (refine u_st bk_ (Nat.le_of_ble_eq_true rfl) (by first | rfl | assumption) nmK59 ?_) | (refine u_stA bk_ (Nat.le_of_ble_eq_true rfl) (by rfl) (by rfl) nmK59 ?_) | (refine q_field nmK59 ?_)); exact hS.out)) : G := s.f h
attribute [local irreducible] Instr.box Instr.alloc Instr.loadAt Instr.storeAt Instr.fieldAt Instr.indexAt Instr.build Instr.buildSlice Instr.makeSlice Instr.makeMap Instr.mapUpdate Instr.lookup Instr.range Instr.next Instr.entry Instr.extract Instr.makeInterface Instr.makeFunc Instr.sliceAt Instr.typeAssert Instr.field Instr.index Builtin.len_ Builtin.cap_ Builtin.max_ Builtin.min_ Builtin.append_ Builtin.copy_ Builtin.delete_ convert binS pickS nilS callV callM Op.unary Own Mp It Cu

variable {K : Value → World → Prop} {w : World} {te : Option Nat}

theorem k64 {n : Int} (h : ∀ v w', Ex w w' → PN 22 .u64 v n w' → K v w') : CK Pr 64 #[.int .u64 n] w K := by
  refine c64 ?_
  unfold t64
  refine q_eql ?_
  refine if_split (fun hb => ?_) (fun hb => ?_)
  · exact h _ w (.refl _ _ _) (.inl ⟨rfl, by simpa using hb⟩)
  · refine e_box1 rfl fun b w1 e1 hb1 s1 s2 => ?_
    exact h _ w1 e1 (.inr ⟨b, rfl, hb1⟩)

/-- The plain message that hands a snapshot on. -/
def SnM (to fr term : Int) (s : Sn) (v1 v2 v3 v4 : Value) : Array Value := #[.int .i64 7, .int .u64 to, .int .u64 fr, .int .u64 term, .int .u64 0, .int .u64 0, .int .u64 0, .int .u64 0, .int .u64 0, .slice none 0 0, .string s.d, .int .u64 s.i, .int .u64 s.t, v1, v2, v3, v4, .bool s.c.a, .bool false, .string ByteArray.empty, .slice none 0 0]

/-- Block b is the package's message from fr with the snapshot s. -/
def MS1 (b : Nat) (fr : Int) (s : Sn) (w : World) : Prop := ∃ cs vf vs, Bk w b (.cells cs 119 (0, 0)) ∧ cs[2]? = some vf ∧ cs[9]? = some vs ∧ PN 22 .u64 vf fr w ∧ PS vs s w

theorem k44 {to fr term : Int} {s : Sn} {v1 v2 v3 v4 : Value} (hs : IsCf w v1 v2 v3 v4 s.c) (hi : s.i ≠ 0) (hd : s.d.size ≤ 1000000) (sm : CfSm s.c)
    (h : ∀ b w', Ex w w' → w.heap.size ≤ b → MS1 b fr s w' → K (.pointer (some ⟨b, 0, none⟩)) w') : CK Pr 44 #[.agg (SnM to fr term s v1 v2 v3 v4)] w K := by
  refine c44 ?_
  unfold t44
  have p1 := hs.v.one
  have p2 := hs.l.one
  have p3 := hs.o.one
  have p4 := hs.n.one
  refine e_boxA fun mb w0 e0 hmb s1 s2 => ?_
  refine dr_rule No [] fun w1 e1 z1 => ?_
  have hb1 := e1.at_ hmb
  (repeat (first | (refine go ?_; intros) | (refine goK59 ?_; intros)))
  rename_i b2 w2 e2 hb2 s3 s4
  refine ⟨e2, ?_⟩
  (repeat (first | (refine go ?_; intros) | (refine goK59 ?_; intros)))
  refine cl_fn (k64 fun u1 w3 e3 n1 => ⟨e2.trans e3, ?_⟩)
  (repeat (first | (refine go ?_; intros) | (refine goK59 ?_; intros)))
  refine cl_fn (k64 fun u2 w4 e4 n2 => ⟨(e2.trans e3).trans e4, ?_⟩)
  (repeat (first | (refine go ?_; intros) | (refine goK59 ?_; intros)))
  refine cl_fn (k64 fun u3 w5 e5 n3 => ⟨((e2.trans e3).trans e4).trans e5, ?_⟩)
  (repeat (first | (refine go ?_; intros) | (refine goK59 ?_; intros)))
  refine cl_fn (k64 fun u4 w6 e6 n4 => ⟨(((e2.trans e3).trans e4).trans e5).trans e6, ?_⟩)
  have E6 : Ex w1 w6 := (((e2.trans e3).trans e4).trans e5).trans e6
  (repeat (first | (refine go ?_; intros) | (refine goK59 ?_; intros)))
  refine cl_fn (k64 fun u5 w7 e7 n5 => ⟨E6.trans e7, ?_⟩)
  (repeat (first | (refine go ?_; intros) | (refine goK59 ?_; intros)))
  refine cl_fn (k64 fun u6 w8 e8 n6 => ⟨(E6.trans e7).trans e8, ?_⟩)
  (repeat (first | (refine go ?_; intros) | (refine goK59 ?_; intros)))
  refine cl_fn (k64 fun u7 w9 e9 n7 => ⟨((E6.trans e7).trans e8).trans e9, ?_⟩)
  (repeat (first | (refine go ?_; intros) | (refine goK59 ?_; intros)))
  refine cl_fn (k64 fun u8 w10 e10 n8 => ⟨(((E6.trans e7).trans e8).trans e9).trans e10, ?_⟩)
  have E10 : Ex w1 w10 := (((E6.trans e7).trans e8).trans e9).trans e10
  (repeat (first | (refine go ?_; intros) | (refine goK59 ?_; intros)))
  refine cl_fn (k65 (te := none) (l := []) (.nil _ _) (by simp) (by simp) fun u9 w11 ps e11 o9 q9 => ⟨E10.trans e11, ?_⟩)
  (repeat (first | (refine go ?_; intros) | (refine goK59 ?_; intros)))
  refine cl_fn (k55 (s := ByteArray.empty) (by decide) fun u10 w12 e12 o10 => ⟨(E10.trans e11).trans e12, ?_⟩)
  have E12 : Ex w1 w12 := (E10.trans e11).trans e12
  have e212 : Ex w4 w12 := ((((((((e5.trans e6).trans e7).trans e8).trans e9).trans e10)).trans e11).trans e12)
  refine b119_0_1_2_3_4_5_7_8_11_6_12 rfl n1.one n2.one n3.one n4.one n5.one n6.one n7.one n8.one o9.sl.one o10.one ?_
  refine e_boxA fun xb w13 e13 hxb t1 t2 => ⟨E12.trans e13, ?_⟩
  have E13 : Ex w0 w13 := (e1.trans E12).trans e13
  have hmb13 := E13.at_ hmb
  have n2' : PN 22 .u64 u2 fr w13 := (n2.ex e212).ex e13
  have zz0 := e0.size
  have zz := E13.size
  have zz12 := E12.size
  have zz1 := e1.size
  clear hb1 hmb
  unfold Jo
  (repeat (first | (refine go ?_; intros) | (refine goK59 ?_; intros)))
  unfold t44_1
  unfold Jo
  (repeat (first | (refine go ?_; intros) | (refine goK59 ?_; intros)))
  rename_i sb w14 e14 hsb t3 t4
  refine u_stA hsb (Nat.le_of_ble_eq_true rfl) (by rfl) (by simp only [List.all_cons, List.all_nil, p1, p2, p3, p4]; rfl) (putCells_all (by rfl)) fun w15 u15 hsb15 z15 => ?_
  have E15 : Ex w13 w15 := e14.new u15 (by intro y hy; omega)
  have hxb15 := E15.at_ hxb
  have hmb15 := E15.at_ hmb13
  have q0 : (s.i == 0) = false := by simpa using hi
  clear hsb hxb hmb13
  (repeat (first | (refine go ?_; intros) | (refine goK59 ?_; intros)))
  rw [q0, Bool.not_false]
  (repeat (first | (refine go ?_; intros) | (refine goK59 ?_; intros)))
  have EW : Ex w w15 := (e0.trans E13).trans E15
  refine cl_fn (k32 (s := s) (by omega) (hs.v.ex EW) (hs.l.ex EW) (hs.o.ex EW) (hs.n.ex EW) sm.v sm.l sm.o sm.n fun vs w16 e16 hps => ?_)
  have hxb16 := e16.at_ hxb15
  have hmb16 := e16.at_ hmb15
  have ops := hps.one
  have zz14 := e14.size
  clear hxb15 hmb15 hsb15
  (repeat (first | (refine go ?_; intros) | (refine goK59 ?_; intros)))
  rename_i w17 u17 hxb17 z17
  have hmb17 := u17.at_ hmb16 rfl
  have zz16 := e16.size
  have E17 : Ex w w17 := (EW.trans e16).new u17 (by intro y hy; omega)
  clear hmb16 hxb16
  (repeat (first | (refine go ?_; intros) | (refine goK59 ?_; intros)))
  refine loop_n (α := Unit) (fun _ τ w' => g τ 1 = .int .i64 0 ∧ w' = w17) (fun _ => 0) () ⟨rfl, rfl⟩ ?_
  rintro _ τ w' R ⟨hg, rfl⟩ hR
  rw [hg]
  (repeat (first | (refine go ?_; intros) | (refine goK59 ?_; intros)))
  refine h xb w' E17 (by omega) ⟨_, u2, vs, hxb17, rfl, rfl, ((n2'.ex E15).ex e16).mt rfl u17, hps.mt rfl u17⟩

end Go.Proofs.YtmmpogfbhelioaaGreat
/-
  Contract: handleSnapshot.
  Conditions: those of restore; no message waits.
-/
namespace Go.Proofs.YtmmpogfbhelioaaGreat
set_option maxRecDepth 10000
set_option linter.unusedVariables false
set_option linter.unusedSimpArgs false
theorem nmK60 {p : Prop} (h : p := by (try simp only [List.getElem?_toArray, List.getElem?_cons_zero, List.getElem?_cons_succ, List.setIfInBounds_toArray, List.set_cons_zero, List.set_cons_succ, List.toList_toArray, List.drop_zero, List.drop_succ_cons, List.take_zero, List.take_succ_cons, Nat.zero_add, Nat.add_zero, Nat.reduceAdd, putCells, MGc, Rf.cells]) <;> rfl) : p := h
theorem goK60 {G H : Prop} (h : H) (s : Stp G H := by (apply Stp.of; intro hS; (first | (refine q_ld bk_ nmK60 ?_) | (refine q_ldU bk_ rfl nmK60 ?_) | (refine q_ldW bk_ (by rfl) ?_) | (refine q_ldWU bk_ rfl (by rfl) ?_) | (refine q_ldP bk_ (Nat.le_of_ble_eq_true rfl) nmK60 ?_) | (refine q_ldPU bk_ rfl (Nat.le_of_ble_eq_true rfl) nmK60 ?_) | (refine q_ext nmK60 ?_) | (refine u_st bk_ (Nat.le_of_ble_eq_true rfl) (by first | rfl | assumption) nmK60 ?_) | (refine u_stA bk_ (Nat.le_of_ble_eq_true rfl) (by rfl) (by rfl) nmK60 ?_) | (refine q_field nmK60 ?_)); exact hS.out)) : G := s.f h
attribute [local irreducible] Instr.box Instr.alloc Instr.loadAt Instr.storeAt Instr.fieldAt Instr.indexAt Instr.build Instr.buildSlice Instr.makeSlice Instr.makeMap Instr.mapUpdate Instr.lookup Instr.range Instr.next Instr.entry Instr.extract Instr.makeInterface Instr.makeFunc Instr.sliceAt Instr.typeAssert Instr.field Instr.index Builtin.len_ Builtin.cap_ Builtin.max_ Builtin.min_ Builtin.append_ Builtin.copy_ Builtin.delete_ convert binS pickS nilS callV callM Op.unary Own Mp It Cu

variable {K : Value → World → Prop} {w : World} {te : Option Nat}

theorem k117s {b : Nat} {fr : Int} {s : Sn} (hm : MS1 b fr s w) (h : ∀ v, PS v s w → K v w) : CK Pr 117 #[.pointer (some ⟨b, 0, none⟩)] w K := by
  refine c117 ?_
  unfold t117
  obtain ⟨cs, vf, vs, hb, h1, h2, h3, h4⟩ := hm
  (repeat (first | (refine go ?_; intros) | (refine goK60 ?_; intros)))
  refine q_ld (o := 9) hb h2 ?_
  exact h vs h4

theorem MS1.mt {b : Nat} {fr : Int} {s : Sn} {C : Nat → Prop} {T : List Nat} {w' : World} (o : okT T = true) (h0 : T.contains 121 = false) (h1 : T.contains 24 = false) (u : Up C T w w') (h : MS1 b fr s w) : MS1 b fr s w' := by
  obtain ⟨cs, vf, vs, hb, g1, g2, g3, g4⟩ := h
  exact ⟨cs, vf, vs, u.at_ hb h0, g1, g2, g3.mt h1 u, g4.mt o u⟩

/-- The answer to a snapshot is sent. -/
theorem r63 {base b xb : Nat} {R : Rf} {L : Lg} {ps : Ps} {vo le : List Int} {fr : Int} {vf : Value} {cs : Array Value} {et : TypeId} {fz : Nat × Nat} (r : RM base b R L ps vo le w) (haf : R.af = .slice none 0 0) (hxb : Bk w xb (.cells cs et fz)) (hf : cs[2]? = some vf) (hvf : PN 22 .u64 vf fr w) (hne : xb ≠ b) (hsb : xb ≠ L.sb)
    (h : ∀ v w', Up (fun x => base ≤ x) [189, 227, 121] w w' → RM base b { R with af := v } L ps vo le w' → AF v (some ⟨4, fr, R.id, R.term, L.last⟩) w' → K (.tuple #[]) w') :
    Dr w fun S41 w42 =>
    Qu Pr (S41) (nilS (.pointer (some ⟨xb, 0, none⟩))) fun v43 =>
    Qu Pr (S41) (Instr.fieldAt 119 v43 2) fun v44 =>
    Qu Pr (S41) (Instr.loadAt 104 v44) fun v45 =>
    Cl Pr (callV (fn 120) #[(Value.int .i32 4)]) w42 fun v47 w46 => S41 w46 ∧ 
    Qu Pr (S41) (nilS (.pointer (some ⟨b, 0, none⟩))) fun v48 =>
    Qu Pr (S41) (Instr.fieldAt 187 v48 4) fun v49 =>
    Qu Pr (S41) (Instr.loadAt 128 v49) fun v50 =>
    Cl Pr (callV (fn 104) #[v50]) w46 fun v52 w51 => S41 w51 ∧ 
    Ef Pr (Instr.box 22 v52) w51 fun v54 w53 => S41 w53 ∧ 
    Qu Pr (S41) (Instr.build 119 #[(1, v45), (0, v47), (5, v54)]) fun v55 =>
    Ef Pr (Instr.box 119 v55) w53 fun v57 w56 => S41 w56 ∧ 
    Cl Pr (callV (fn 119) #[(.pointer (some ⟨b, 0, none⟩)), v57]) w56 fun _ w58 => S41 w58 ∧ 
    K (.tuple #[]) w58 := by
  have rb0 := r.bk
  have hb0 := r.b0
  have hlb := r.lg.b1
  have hbl := rb0.lt
  refine dr_ruleG (fun x => x = b ∨ x = L.sb ∨ w.heap.size ≤ x) [189, 227, 121] (fun x => (∃ cs et fz, Bk x xb (.cells cs et fz) ∧ cs[2]? = some vf) ∧ (∃ cs et fz, Bk x b (.cells cs et fz) ∧ cs[4]? = some (.pointer (some ⟨R.lb, 0, none⟩)))) (fun w1 e => ⟨⟨_, _, _, e.at_ hxb, hf⟩, ⟨_, _, _, e.at_ rb0, rfl⟩⟩) fun w1 e1 z1 => ?_
  have r1 := r.ex e1
  have hxb1 := e1.at_ hxb
  have rb1 := r1.bk
  have g0 : ∀ w', Ex w1 w' → (∃ cs et fz, Bk w' xb (.cells cs et fz) ∧ cs[2]? = some vf) ∧ (∃ cs et fz, Bk w' b (.cells cs et fz) ∧ cs[4]? = some (.pointer (some ⟨R.lb, 0, none⟩))) := fun w' e => ⟨⟨_, _, _, e.at_ hxb1, hf⟩, ⟨_, _, _, e.at_ rb1, rfl⟩⟩
  (repeat (first | (refine go ?_; intros) | (refine goK60 ?_; intros) | refine q_ldG bk_ rfl nmK60 ?_ | refine q_ldGW bk_ rfl (by rfl) ?_))
  refine q_ldX (x := vf) (fun w' s => s.2.1) ?_
  refine cl_fn (k120 fun kb w2 e2 hk2 hkb => ⟨⟨.of_ex e2, g0 w2 e2⟩, ?_⟩)
  (repeat (first | (refine go ?_; intros) | (refine goK60 ?_; intros) | refine q_ldG bk_ rfl nmK60 ?_ | refine q_ldGW bk_ rfl (by rfl) ?_))
  refine q_ldX (x := .pointer (some ⟨R.lb, 0, none⟩)) (fun w' s => s.2.2) ?_
  have r2 := r1.ex e2
  have rb2 := r2.bk
  have hxb2 := e2.at_ hxb1
  refine cl_fn (k104 r2.lg r2.lok fun w3 u3 z3 lg3 => ?_)
  have r3 : RM base b R L ps vo le w3 := r2.log (u3.tu (fun _ h => h) (T' := [227, 198]) rfl) lg3 r2.lok
  have hxb3 : Bk w3 xb (.cells cs et fz) := u3.off hxb2 hsb
  have hkb3 := u3.at_ hkb rfl
  have U3 : Up (fun x => x = b ∨ x = L.sb ∨ w.heap.size ≤ x) [189, 227, 121] w1 w3 := (Up.of_ex e2).trans (u3.tu (fun y hy => .inr (.inl hy)) rfl)
  refine ⟨⟨U3, ⟨_, _, _, hxb3, hf⟩, ⟨_, _, _, r3.bk, rfl⟩⟩, ?_⟩
  refine e_box1 rfl fun ib w4 e4 hib s1 s2 => ⟨⟨U3.ex e4, ⟨_, _, _, e4.at_ hxb3, hf⟩, ⟨_, _, _, e4.at_ r3.bk, rfl⟩⟩, ?_⟩
  refine b119_1_0_5 hvf.one rfl rfl ?_
  refine e_boxA fun nb w5 e5 hnb s3 s4 => ⟨⟨(U3.ex e4).ex e5, ⟨_, _, _, e5.at_ (e4.at_ hxb3), hf⟩, ⟨_, _, _, e5.at_ (e4.at_ r3.bk), rfl⟩⟩, ?_⟩
  have e45 : Ex w3 w5 := e4.trans e5
  have zz1 := e1.size
  have zz2 := e2.size
  have zz3 := u3.size
  have zz4 := e4.size
  have zz5 := e5.size
  have hvf5 : PN 22 .u64 vf fr w5 := (((hvf.ex (e1.trans e2)).mt rfl u3).ex e45)
  have mg : MG nb ⟨4, fr, 0, 0, L.last⟩ w5 := ⟨_, _, _, _, _, hnb, .inr ⟨kb, rfl, e45.at_ hkb3⟩, hvf5, .inl ⟨rfl, rfl⟩, .inl ⟨rfl, rfl⟩, .inr ⟨ib, rfl, e5.at_ hib⟩⟩
  have hxb5 := e45.at_ hxb3
  have hxl := hxb3.lt
  refine cl_fn (k119 (r3.ex e45) mg haf fun v w6 u6 r6 af6 => ?_)
  have U6 : Up (fun x => x = b ∨ x = L.sb ∨ w.heap.size ≤ x) [189, 227, 121] w1 w6 := ((U3.ex e45).trans (u6.tu (fun y hy => hy.elim (fun e => .inr (.inr (by omega))) (fun e => .inl e)) rfl))
  refine ⟨⟨U6, ⟨_, _, _, u6.off hxb5 (fun hh => hh.elim (fun e => by omega) hne), hf⟩, ⟨_, _, _, r6.bk, rfl⟩⟩, ?_⟩
  exact h v w6 ((Up.of_ex e1).trans (U6.tu (fun y hy => by rcases hy with hy | hy | hy; (subst hy; exact hb0); (subst hy; exact hlb.1); omega) rfl)) r6 af6

/-- The answer to a snapshot that is not taken is sent. -/
theorem r63b {base b xb : Nat} {R : Rf} {L : Lg} {ps : Ps} {vo le : List Int} {fr : Int} {vf : Value} {cs : Array Value} {et : TypeId} {fz : Nat × Nat} (r : RM base b R L ps vo le w) (haf : R.af = .slice none 0 0) (hxb : Bk w xb (.cells cs et fz)) (hf : cs[2]? = some vf) (hvf : PN 22 .u64 vf fr w) (hne : xb ≠ b) (hsb : xb ≠ L.sb)
    (h : ∀ v w', Up (fun x => base ≤ x) [189, 227, 121] w w' → RM base b { R with af := v } L ps vo le w' → AF v (some ⟨4, fr, R.id, R.term, L.cm⟩) w' → K (.tuple #[]) w') :
    Dr w fun S41 w42 =>
    Qu Pr (S41) (nilS (.pointer (some ⟨xb, 0, none⟩))) fun v43 =>
    Qu Pr (S41) (Instr.fieldAt 119 v43 2) fun v44 =>
    Qu Pr (S41) (Instr.loadAt 104 v44) fun v45 =>
    Cl Pr (callV (fn 120) #[(Value.int .i32 4)]) w42 fun v47 w46 => S41 w46 ∧ 
    Qu Pr (S41) (nilS (.pointer (some ⟨b, 0, none⟩))) fun v48 =>
    Qu Pr (S41) (Instr.fieldAt 187 v48 4) fun v49 =>
    Qu Pr (S41) (Instr.loadAt 128 v49) fun v50 =>
    Qu Pr (S41) (nilS v50) fun v70 =>
    Qu Pr (S41) (Instr.fieldAt 196 v70 2) fun v71 =>
    Qu Pr (S41) (Instr.loadAt 22 v71) fun v52 =>
    Ef Pr (Instr.box 22 v52) w46 fun v54 w53 => S41 w53 ∧ 
    Qu Pr (S41) (Instr.build 119 #[(1, v45), (0, v47), (5, v54)]) fun v55 =>
    Ef Pr (Instr.box 119 v55) w53 fun v57 w56 => S41 w56 ∧ 
    Cl Pr (callV (fn 119) #[(.pointer (some ⟨b, 0, none⟩)), v57]) w56 fun _ w58 => S41 w58 ∧ 
    K (.tuple #[]) w58 := by
  have rb0 := r.bk
  have hb0 := r.b0
  have hlb := r.lg.b1
  have hbl := rb0.lt
  refine dr_ruleG (fun x => x = b ∨ x = L.sb ∨ w.heap.size ≤ x) [189, 227, 121] (fun x => (∃ cs et fz, Bk x xb (.cells cs et fz) ∧ cs[2]? = some vf) ∧ (∃ cs et fz, Bk x b (.cells cs et fz) ∧ cs[4]? = some (.pointer (some ⟨R.lb, 0, none⟩)))) (fun w1 e => ⟨⟨_, _, _, e.at_ hxb, hf⟩, ⟨_, _, _, e.at_ rb0, rfl⟩⟩) fun w1 e1 z1 => ?_
  have r1 := r.ex e1
  have hxb1 := e1.at_ hxb
  have rb1 := r1.bk
  have g0 : ∀ w', Ex w1 w' → (∃ cs et fz, Bk w' xb (.cells cs et fz) ∧ cs[2]? = some vf) ∧ (∃ cs et fz, Bk w' b (.cells cs et fz) ∧ cs[4]? = some (.pointer (some ⟨R.lb, 0, none⟩))) := fun w' e => ⟨⟨_, _, _, e.at_ hxb1, hf⟩, ⟨_, _, _, e.at_ rb1, rfl⟩⟩
  (repeat (first | (refine go ?_; intros) | (refine goK60 ?_; intros) | refine q_ldG bk_ rfl nmK60 ?_ | refine q_ldGW bk_ rfl (by rfl) ?_))
  refine q_ldX (x := vf) (fun w' s => s.2.1) ?_
  refine cl_fn (k120 fun kb w2 e2 hk2 hkb => ⟨⟨.of_ex e2, g0 w2 e2⟩, ?_⟩)
  (repeat (first | (refine go ?_; intros) | (refine goK60 ?_; intros) | refine q_ldG bk_ rfl nmK60 ?_ | refine q_ldGW bk_ rfl (by rfl) ?_))
  refine q_ldX (x := .pointer (some ⟨R.lb, 0, none⟩)) (fun w' s => s.2.2) ?_
  have r2 := r1.ex e2
  have rb2 := r2.bk
  have hxb2 := e2.at_ hxb1
  obtain ⟨lim, vs, ve, qs, y1, y2, y3, y4, y5, y6, y7, y8, y9, y10⟩ := r1.lg
  unfold Lg.cells at y1
  (repeat (first | (refine go ?_; intros) | (refine goK60 ?_; intros) | refine q_ldG bk_ rfl nmK60 ?_ | refine q_ldGW bk_ rfl (by rfl) ?_))
  have r3 := r2
  have hxb3 := hxb2
  have hkb3 := hkb
  have U3 : Up (fun x => x = b ∨ x = L.sb ∨ w.heap.size ≤ x) [189, 227, 121] w1 w2 := .of_ex e2
  rename_i ib w4 e4 hib s1 s2
  refine ⟨⟨U3.ex e4, ⟨_, _, _, e4.at_ hxb3, hf⟩, ⟨_, _, _, e4.at_ r3.bk, rfl⟩⟩, ?_⟩
  refine b119_1_0_5 hvf.one rfl rfl ?_
  refine e_boxA fun nb w5 e5 hnb s3 s4 => ⟨⟨(U3.ex e4).ex e5, ⟨_, _, _, e5.at_ (e4.at_ hxb3), hf⟩, ⟨_, _, _, e5.at_ (e4.at_ r3.bk), rfl⟩⟩, ?_⟩
  have e45 : Ex w2 w5 := e4.trans e5
  have zz1 := e1.size
  have zz2 := e2.size
  have zz4 := e4.size
  have zz5 := e5.size
  have hvf5 : PN 22 .u64 vf fr w5 := ((hvf.ex (e1.trans e2)).ex e45)
  have mg : MG nb ⟨4, fr, 0, 0, L.cm⟩ w5 := ⟨_, _, _, _, _, hnb, .inr ⟨kb, rfl, e45.at_ hkb3⟩, hvf5, .inl ⟨rfl, rfl⟩, .inl ⟨rfl, rfl⟩, .inr ⟨ib, rfl, e5.at_ hib⟩⟩
  have hxb5 := e45.at_ hxb3
  have hxl := hxb3.lt
  refine cl_fn (k119 (r3.ex e45) mg haf fun v w6 u6 r6 af6 => ?_)
  have U6 : Up (fun x => x = b ∨ x = L.sb ∨ w.heap.size ≤ x) [189, 227, 121] w1 w6 := ((U3.ex e45).trans (u6.tu (fun y hy => hy.elim (fun e => .inr (.inr (by omega))) (fun e => .inl e)) rfl))
  refine ⟨⟨U6, ⟨_, _, _, u6.off hxb5 (fun hh => hh.elim (fun e => by omega) hne), hf⟩, ⟨_, _, _, r6.bk, rfl⟩⟩, ?_⟩
  exact h v w6 ((Up.of_ex e1).trans (U6.tu (fun y hy => by rcases hy with hy | hy | hy; (subst hy; exact hb0); (subst hy; exact hlb.1); omega) rfl)) r6 af6

theorem k63s {base b xb : Nat} {R : Rf} {L : Lg} {ps : Ps} {vo le : List Int} {fr : Int} {s : Sn} {e : En} {rr : List En} (r : RM base b R L ps vo le w) (haf : R.af = .slice none 0 0) (hm : MS1 xb fr s w) (hne : xb ≠ b) (hsb : xb ≠ L.sb) (hst : R.st = 0) (p : L.Pl e rr) (hid : R.id ∈ s.c.v ∨ R.id ∈ s.c.l) (ck : CfOk s.c) (hi : 0 ≤ s.i ∧ s.i ≤ 100000000000000) (hd : s.d.size ≤ 1000000) (sm : CfSm s.c)
    (h1 : ∀ v w', Up (fun x => base ≤ x) [189, 198, 227, 121] w w' → s.i ≤ L.cm → RM base b { R with af := v } L ps vo le w' → AF v (some ⟨4, fr, R.id, R.term, L.cm⟩) w' → K (.tuple #[]) w')
    (h2 : ∀ v w', Up (fun x => base ≤ x) [189, 198, 227, 121] w w' → L.cm < s.i → L.at e rr s.i = some s.t → RM base b { R with af := v } { L with cm := s.i } ps vo le w' → AF v (some ⟨4, fr, R.id, R.term, s.i⟩) w' → K (.tuple #[]) w')
    (h : ∀ v vb lm pm vt il xs ys ps' w', Up (fun x => base ≤ x) [189, 198, 227, 121] w w' → L.cm < s.i → L.at e rr s.i ≠ some s.t → xs.Perm s.c.v → ys.Perm s.c.l → (ps'.map (·.1)).Perm (xs ++ ys) → RM base b { R.snap vb lm pm vt il with af := v } (L.snap s) ps' xs ys w' → AF v (some ⟨4, fr, R.id, R.term, s.i⟩) w' → K (.tuple #[]) w') :
    CK Pr 63 #[.pointer (some ⟨b, 0, none⟩), .pointer (some ⟨xb, 0, none⟩)] w K := by
  refine c63 ?_
  unfold t63
  unfold Jo
  refine cl_fn (k117s hm fun vs hps => ?_)
  refine cl_fn (k118 hps ?_)
  obtain ⟨cs, vf, vs', hb, g1, g2, g3, g4⟩ := hm
  have up : ∀ {w1 w2 : World}, Up (fun x => base ≤ x) [189, 198, 227] w w1 → Up (fun x => base ≤ x) [189, 227, 121] w1 w2 → Up (fun x => base ≤ x) [189, 198, 227, 121] w w2 := fun u v => (u.tu (fun _ h => h) (T' := [189, 198, 227, 121]) rfl).trans (v.tu (fun _ h => h) rfl)
  refine cl_fn (k54 r hst p hps hid ck hi hd sm (fun w1 u1 hle r1 => ?_) (fun w1 u1 hlt hat r1 => ?_) fun vb lm pm vt il xs ys ps' w1 u1 hlt hat px py pk r1 => ?_)
  · refine if_f ?_
    exact r63b r1 haf (u1.at_ hb rfl) g1 (g3.mt rfl u1) hne hsb fun v w2 u2 r2 a2 => h1 v w2 (up u1 u2) hle r2 a2
  · refine if_f ?_
    exact r63b r1 haf (u1.at_ hb rfl) g1 (g3.mt rfl u1) hne hsb fun v w2 u2 r2 a2 => h2 v w2 (up u1 u2) hlt hat r2 a2
  · refine if_t ?_
    exact r63 r1 haf (u1.at_ hb rfl) g1 (g3.mt rfl u1) hne hsb fun v w2 u2 r2 a2 => h v vb lm pm vt il xs ys ps' w2 (up u1 u2) hlt hat px py pk r2 a2

end Go.Proofs.YtmmpogfbhelioaaGreat
/-
  Contract: OnSnapshot.
  Conditions: the machine is whole and a follower; the snapshot is one that it may be handed.
-/
namespace Go.Proofs.YtmmpogfbhelioaaGreat
set_option maxRecDepth 10000
set_option linter.unusedVariables false
set_option linter.unusedSimpArgs false
attribute [local irreducible] Instr.box Instr.alloc Instr.loadAt Instr.storeAt Instr.fieldAt Instr.indexAt Instr.build Instr.buildSlice Instr.makeSlice Instr.makeMap Instr.mapUpdate Instr.lookup Instr.range Instr.next Instr.entry Instr.extract Instr.makeInterface Instr.makeFunc Instr.sliceAt Instr.typeAssert Instr.field Instr.index Builtin.len_ Builtin.cap_ Builtin.max_ Builtin.min_ Builtin.append_ Builtin.copy_ Builtin.delete_ convert binS pickS nilS callV callM Op.unary Own Mp It Cu

variable {K : Value → World → Prop} {w : World} {te : Option Nat}

/-- What a message with a snapshot leaves of the machine. -/
structure PhS (m : Mac) (s : Sn) (fr : Int) (R : Rf) (L : Lg) (ps : Ps) (vo le : List Int) (ok : Bool) (l : Option Mg) : Prop where
  id : R.id = m.id
  term : R.term = m.term
  vote : R.vote = m.vote
  lead : R.lead = m.lead
  st : R.st = 0
  l : l = some ⟨4, fr, m.id, m.term, L.cm⟩
  way : ∃ tk, PhW m s L ps vo le tk

theorem k43R {m : Mac} {s : Sn} {fr : Int} {base b xb lb vb pm vt ro sb : Nat} {lm : Option Nat} {most : Int} {ps : Ps} (wh : Whole m) (hrole : m.role = 0) (so : SnapOk m s) (hm : MS1 xb fr s w) (hne : xb ≠ b) (hsb : xb ≠ sb) (hk : ps.map (·.1) = m.vo ++ m.le)
    (r : RM base b (mkR m lb vb lm pm vt ro most) (mkL m sb) ps m.vo m.le w)
    (h : ∀ ok R L ps vo le l w2 T, Up (fun x => base ≤ x) T w w2 → RM base b R L ps vo le w2 → Fine m R L ps vo le → R.ms = .slice none 0 0 → AF R.af l w2 → (∀ g, l = some g → IntKind.i64.wrap g.k = g.k) → PhS m s fr R L ps vo le ok l → K (.tuple #[]) w2) :
    CK Pr 43 #[.pointer (some ⟨b, 0, none⟩), .pointer (some ⟨xb, 0, none⟩)] w K := by
  refine c43 ?_
  unfold t43
  have h0 : ∀ {R : Rf}, R.st = 0 → 0 ≤ R.st ∧ R.st ≤ 3 := fun e => by rw [e]; exact ⟨Int.le_refl _, by omega⟩
  have ist : (mkR m lb vb lm pm vt ro most).st = 0 := hrole
  have i1 := so.i
  have i2 := so.d
  have hk4 : ∀ {t f e i : Int} (g : Mg), some (⟨4, t, f, e, i⟩ : Mg) = some g → IntKind.i64.wrap g.k = g.k := fun g hg => by cases hg; rfl
  refine cl_fn (k63s r rfl hm hne hsb ist (mkL_pl m sb) so.inn so.c.ck ⟨by omega, by omega⟩ (by omega) so.c.sm (fun v w2 u hle r2 a2 => ?_) (fun v w2 u hlt hat r2 a2 => ?_) fun v vb2 lm2 pm2 vt2 il xs ys ps2 w2 u hlt hat px py pk r2 a2 => ?_)
  · have pn : PhN m s (mkL m sb) ps m.vo m.le m.commit := ⟨rfl, rfl, hk, rfl, rfl, rfl⟩
    exact h false _ _ _ _ _ _ w2 _ u r2 (pn.fine wh (h0 ist) (sb := sb) rfl) rfl a2 hk4 ⟨rfl, rfl, rfl, rfl, ist, rfl, false, .inl ⟨rfl, hle, pn⟩⟩
  · have pn : PhN m s { mkL m sb with cm := s.i } ps m.vo m.le s.i := ⟨rfl, rfl, hk, rfl, rfl, rfl⟩
    exact h false _ _ _ _ _ _ w2 _ u r2 (pn.fine wh (h0 ist) (sb := sb) rfl) rfl a2 hk4 ⟨rfl, rfl, rfl, rfl, ist, rfl, false, .inr (.inl ⟨rfl, hlt, by rw [← mkL_at m sb]; exact hat, pn⟩)⟩
  · have pt : PhT m s ((mkL m sb).snap s) ps2 xs ys := ⟨rfl, rfl, rfl, pk, px, py⟩
    exact h false _ _ _ _ _ _ w2 _ u r2 (pt.fine so.c (h0 (R := { (mkR m lb vb lm pm vt ro most).snap vb2 lm2 pm2 vt2 il with af := v }) ist)) rfl a2 hk4 ⟨rfl, rfl, rfl, rfl, ist, rfl, true, .inr (.inr ⟨rfl, hlt, by rw [← mkL_at m sb]; exact hat, pt⟩)⟩

theorem LG.sbl {base lb : Nat} {L : Lg} (h : LG base lb L w) : L.sb < w.heap.size := by
  obtain ⟨_, _, _, _, _, _, _, _, _, _, _, _, _, h⟩ := h
  exact h

theorem k21 {m : Mac} {s : Sn} {to fr term : Int} {v1 v2 v3 v4 : Value} {wm : World} (hm : IsMac wm m) (em : Ex wm w) (hs : IsCf wm v1 v2 v3 v4 s.c) (wh : Whole m) (hpl : m.pe.length ≤ 2147483647) (hrole : m.role = 0) (so : SnapOk m s)
    (h : ∀ mo ok R L ps vo le l lv w', Ex w w' → MF m R L ps vo le mo → (∀ w'', Kp wm.heap.size w.heap.size w' w'' → IsMac w'' mo ∧ PA lv l w'') → PhS m s fr R L ps vo le ok l → K (.agg (Aft mo (.slice none 0 0) lv ok false)) w') :
    CK Pr 21 #[.agg m.cells, .agg (SnM to fr term s v1 v2 v3 v4)] w K := by
  refine c21 ?_
  unfold t21
  have o1 := hs.v.one
  have o2 := hs.l.one
  have o3 := hs.o.one
  have o4 := hs.n.one
  refine e_boxA fun mb w1 e1 hb1 s1 s2 => ?_
  refine e_boxA fun sb w2 e2 hb2 s3 s4 => ?_
  refine e_allocA fun rb w5 e5 hb5 s9 s10 => ?_
  have ew : Ex w w5 := (e1.trans e2).trans e5
  have gm : Bk w5 mb (.cells m.cells 32 (0, 0)) := e5.at_ (e2.at_ hb1)
  have gs : Bk w5 sb (.cells (SnM to fr term s v1 v2 v3 v4) 64 (0, 0)) := e5.at_ hb2
  refine q_ldW gm (by rfl) ?_
  refine q_mkf ?_
  refine cl_fn (k29g (Φ := PhS m s fr) hm (em.trans ew) wh hpl ?_ ?_)
  · intro base b lb vb lm pm vt ro most sb' ps w0 w6 K' e0 e6 hbase hk r hK
    have ee : Ex w5 w6 := e0.trans e6
    have gs6 := ee.at_ gs
    have em6 : Ex wm w6 := (em.trans ew).trans ee
    refine c42 ?_
    unfold t42
    refine q_ldW gs6 (by rfl) ?_
    have i1 := so.i
    have i2 := so.d
    have sm := so.c.sm
    have bl := r.bk.lt
    have sl : sb' < w6.heap.size := r.lg.sbl
    refine cl_fn (k44 ⟨hs.v.ex em6, hs.l.ex em6, hs.o.ex em6, hs.n.ex em6⟩ (by omega) (by omega) sm fun xb w7 e7 hx hms => ?_)
    refine cl_fn (k43R wh hrole so hms (by omega) (by omega) hk (r.ex e7) fun ok R L ps vo le l w8 T u r8 f ms af hl ph => ?_)
    exact hK false R L ps vo le l w8 T ((Up.of_ex e7).trans u) r8 f ms af hl ⟨ph.id, ph.term, ph.vote, ph.lead, ph.st, ph.l, ph.way⟩
  · intro mo ok R L ps vo le l lv w6 e6 mf hmo hΦ
    have hb6 := e6.at_ hb5
    have o1 := (hmo w6 (Up.kp (.refl _ _ _))).1.one1
    have olv := (hmo w6 (Up.kp (.refl _ _ _))).2.one
    refine u_stA hb6 (Nat.le_of_ble_eq_true rfl) (by rfl) (by simp only [Aft, List.toList_toArray, List.all_cons, List.all_nil, olv, o1.1, o1.2.1, o1.2.2.1, o1.2.2.2.1, o1.2.2.2.2.1, o1.2.2.2.2.2.1, o1.2.2.2.2.2.2.1, o1.2.2.2.2.2.2.2.1, o1.2.2.2.2.2.2.2.2.1, o1.2.2.2.2.2.2.2.2.2]; rfl) (putCells_all (by rfl)) fun w7 u7 hb7 z7 => ?_
    refine q_ldW hb7 (by rfl) ?_
    have zm := em.size
    have zw := e1.size
    have zw2 := e2.size
    have U7 : Up (fun x => wm.heap.size ≤ x) [40, 6, 45] w6 w7 := u7.mono (fun y _ hy => by subst hy; omega) (fun k hk => by simp at hk; simp [hk])
    have zw5 := ew.size
    exact h mo ok R L ps vo le l lv w7 ((ew.trans e6).new u7 (by intro x hx; subst hx; omega)) mf (fun w8 u8 => hmo w8 ((U7.kp.trans u8).mono (by omega))) hΦ

end Go.Proofs.YtmmpogfbhelioaaGreat
/-
  Rules: structs of numbers and strings are compared.
  Conditions: closed facts on the types.
-/
namespace Go.Proofs.YtmmpogfbhelioaaGreat
set_option maxRecDepth 10000
set_option linter.unusedVariables false
set_option linter.unusedSimpArgs false

def intTy (P : Program) (t : TypeId) : Bool := match P.underlying t with | some (.int _) => true | _ => false
def strTy (P : Program) (t : TypeId) : Bool := match P.underlying t with | some .string => true | _ => false

def s3B (P : Program) (t : TypeId) : Bool := (match P.underlying t with
  | some (.struct fs) => (match fs.toList with
    | [a, b, c] => a.name != "_" && b.name != "_" && c.name != "_" && Nat.beq a.offset 0 && Nat.beq b.offset 1 && Nat.beq c.offset 2 && intTy P a.type && intTy P b.type && intTy P c.type
    | _ => false)
  | _ => false) && !P.stoodInHeld t && !P.eqGuardType P.depth t
def s4B (P : Program) (t : TypeId) : Bool := (match P.underlying t with
  | some (.struct fs) => (match fs.toList with
    | [a, b, c, d] => a.name != "_" && b.name != "_" && c.name != "_" && d.name != "_" && Nat.beq a.offset 0 && Nat.beq b.offset 1 && Nat.beq c.offset 2 && Nat.beq d.offset 3 && intTy P a.type && intTy P b.type && intTy P c.type && strTy P d.type
    | _ => false)
  | _ => false) && !P.stoodInHeld t && !P.eqGuardType P.depth t

variable {P : Program} {t : TypeId} {w : World}

theorem intTy.facts {t : TypeId} (h : intTy P t = true) : ∃ k, P.underlying t = some (.int k) := by
  unfold intTy at h
  split at h
  · exact ⟨_, by assumption⟩
  · cases h
theorem strTy.facts {t : TypeId} (h : strTy P t = true) : P.underlying t = some .string := by
  unfold strTy at h
  split at h
  · assumption
  · cases h

theorem run_partI {t : TypeId} {k : IntKind} (hu : P.underlying t = some (.int k)) {cs : Array Value} {o : Nat} {v : Value} (hv : cs[o]? = some v) : (part t cs o).run P w = .ok v w := by
  simp only [part, Sem.run_bind, run_isAgg hu, isAggD, Result.andThen_ok, hv]
  simp
theorem run_partS {t : TypeId} (hu : P.underlying t = some .string) {cs : Array Value} {o : Nat} {v : Value} (hv : cs[o]? = some v) : (part t cs o).run P w = .ok v w := by
  simp only [part, Sem.run_bind, run_isAgg hu, isAggD, Result.andThen_ok, hv]
  simp
theorem run_eqI {t : TypeId} {k q : IntKind} {d : Nat} (hu : P.underlying t = some (.int k)) {a b : Int} : (Op.equalIn (d + 1) t (.int q a) (.int q b)).run P w = .ok (a == b) w := by
  simp [Op.equalIn, run_und hu]
theorem run_eqS {t : TypeId} {d : Nat} (hu : P.underlying t = some .string) {a b : ByteArray} : (Op.equalIn (d + 1) t (.string a) (.string b)).run P w = .ok (a == b) w := by
  simp [Op.equalIn, run_und hu]

theorem run_eq3 (h : s3B P t = true) {q0 q1 q2 : IntKind} {a0 a1 a2 b0 b1 b2 : Int} : (Op.equal t (.agg #[.int q0 a0, .int q1 a1, .int q2 a2]) (.agg #[.int q0 b0, .int q1 b1, .int q2 b2])).run P w = .ok (a0 == b0 && (a1 == b1 && a2 == b2)) w := by
  unfold s3B at h
  simp only [Bool.and_eq_true, Bool.not_eq_true'] at h
  obtain ⟨⟨h, hs⟩, hg⟩ := h
  split at h
  · rename_i fs hu
    split at h
    · rename_i a b c hfs
      simp only [Bool.and_eq_true, bne_iff_ne, ne_eq] at h
      obtain ⟨⟨⟨⟨⟨⟨⟨⟨n1, n2⟩, n3⟩, o1⟩, o2⟩, o3⟩, i1⟩, i2⟩, i3⟩ := h
      have o1 := Nat.eq_of_beq_eq_true o1
      have o2 := Nat.eq_of_beq_eq_true o2
      have o3 := Nat.eq_of_beq_eq_true o3
      obtain ⟨k1, i1⟩ := intTy.facts i1
      obtain ⟨k2, i2⟩ := intTy.facts i2
      obtain ⟨k3, i3⟩ := intTy.facts i3
      have hfa : fs = #[a, b, c] := by rw [← Array.toArray_toList (xs := fs), hfs]
      subst hfa
      refine (show (Op.equalIn 10000 t _ _).run P w = _ from ?_)
      have e1 : ∀ w, (part a.type #[Value.int q0 a0, .int q1 a1, .int q2 a2] 0).run P w = .ok (.int q0 a0) w := fun w => run_partI i1 rfl
      have e1' : ∀ w, (part a.type #[Value.int q0 b0, .int q1 b1, .int q2 b2] 0).run P w = .ok (.int q0 b0) w := fun w => run_partI i1 rfl
      have e2 : ∀ w, (part b.type #[Value.int q0 a0, .int q1 a1, .int q2 a2] 1).run P w = .ok (.int q1 a1) w := fun w => run_partI i2 rfl
      have e2' : ∀ w, (part b.type #[Value.int q0 b0, .int q1 b1, .int q2 b2] 1).run P w = .ok (.int q1 b1) w := fun w => run_partI i2 rfl
      have e3 : ∀ w, (part c.type #[Value.int q0 a0, .int q1 a1, .int q2 a2] 2).run P w = .ok (.int q2 a2) w := fun w => run_partI i3 rfl
      have e3' : ∀ w, (part c.type #[Value.int q0 b0, .int q1 b1, .int q2 b2] 2).run P w = .ok (.int q2 b2) w := fun w => run_partI i3 rfl
      have f1 : ∀ w, (Op.equalIn 9999 a.type (.int q0 a0) (.int q0 b0)).run P w = .ok (a0 == b0) w := fun w => run_eqI i1
      have f2 : ∀ w, (Op.equalIn 9999 b.type (.int q1 a1) (.int q1 b1)).run P w = .ok (a1 == b1) w := fun w => run_eqI i2
      have f3 : ∀ w, (Op.equalIn 9999 c.type (.int q2 a2) (.int q2 b2)).run P w = .ok (a2 == b2) w := fun w => run_eqI i3
      rw [Op.equalIn]
      simp [run_und hu, hs, o1, o2, o3, n1, n2, n3, e1, e1', e2, e2', e3, e3', f1, f2, f3]
      by_cases g0 : a0 = b0 <;> by_cases g1 : a1 = b1 <;> by_cases g2 : a2 = b2 <;> simp [g0, g1, g2]
    · cases h
  · cases h

theorem run_eq4 (h : s4B P t = true) {q0 q1 q2 : IntKind} {a0 a1 a2 b0 b1 b2 : Int} {a3 b3 : ByteArray} : (Op.equal t (.agg #[.int q0 a0, .int q1 a1, .int q2 a2, .string a3]) (.agg #[.int q0 b0, .int q1 b1, .int q2 b2, .string b3])).run P w = .ok (a0 == b0 && (a1 == b1 && (a2 == b2 && a3 == b3))) w := by
  unfold s4B at h
  simp only [Bool.and_eq_true, Bool.not_eq_true'] at h
  obtain ⟨⟨h, hs⟩, hg⟩ := h
  split at h
  · rename_i fs hu
    split at h
    · rename_i a b c d hfs
      simp only [Bool.and_eq_true, bne_iff_ne, ne_eq] at h
      obtain ⟨⟨⟨⟨⟨⟨⟨⟨⟨⟨⟨n1, n2⟩, n3⟩, n4⟩, o1⟩, o2⟩, o3⟩, o4⟩, i1⟩, i2⟩, i3⟩, i4⟩ := h
      have o1 := Nat.eq_of_beq_eq_true o1
      have o2 := Nat.eq_of_beq_eq_true o2
      have o3 := Nat.eq_of_beq_eq_true o3
      have o4 := Nat.eq_of_beq_eq_true o4
      obtain ⟨k1, i1⟩ := intTy.facts i1
      obtain ⟨k2, i2⟩ := intTy.facts i2
      obtain ⟨k3, i3⟩ := intTy.facts i3
      have i4 := strTy.facts i4
      have hfa : fs = #[a, b, c, d] := by rw [← Array.toArray_toList (xs := fs), hfs]
      subst hfa
      refine (show (Op.equalIn 10000 t _ _).run P w = _ from ?_)
      have e1 : ∀ w, (part a.type #[Value.int q0 a0, .int q1 a1, .int q2 a2, .string a3] 0).run P w = .ok (.int q0 a0) w := fun w => run_partI i1 rfl
      have e1' : ∀ w, (part a.type #[Value.int q0 b0, .int q1 b1, .int q2 b2, .string b3] 0).run P w = .ok (.int q0 b0) w := fun w => run_partI i1 rfl
      have e2 : ∀ w, (part b.type #[Value.int q0 a0, .int q1 a1, .int q2 a2, .string a3] 1).run P w = .ok (.int q1 a1) w := fun w => run_partI i2 rfl
      have e2' : ∀ w, (part b.type #[Value.int q0 b0, .int q1 b1, .int q2 b2, .string b3] 1).run P w = .ok (.int q1 b1) w := fun w => run_partI i2 rfl
      have e3 : ∀ w, (part c.type #[Value.int q0 a0, .int q1 a1, .int q2 a2, .string a3] 2).run P w = .ok (.int q2 a2) w := fun w => run_partI i3 rfl
      have e3' : ∀ w, (part c.type #[Value.int q0 b0, .int q1 b1, .int q2 b2, .string b3] 2).run P w = .ok (.int q2 b2) w := fun w => run_partI i3 rfl
      have e4 : ∀ w, (part d.type #[Value.int q0 a0, .int q1 a1, .int q2 a2, .string a3] 3).run P w = .ok (.string a3) w := fun w => run_partS i4 rfl
      have e4' : ∀ w, (part d.type #[Value.int q0 b0, .int q1 b1, .int q2 b2, .string b3] 3).run P w = .ok (.string b3) w := fun w => run_partS i4 rfl
      have f1 : ∀ w, (Op.equalIn 9999 a.type (.int q0 a0) (.int q0 b0)).run P w = .ok (a0 == b0) w := fun w => run_eqI i1
      have f2 : ∀ w, (Op.equalIn 9999 b.type (.int q1 a1) (.int q1 b1)).run P w = .ok (a1 == b1) w := fun w => run_eqI i2
      have f3 : ∀ w, (Op.equalIn 9999 c.type (.int q2 a2) (.int q2 b2)).run P w = .ok (a2 == b2) w := fun w => run_eqI i3
      have f4 : ∀ w, (Op.equalIn 9999 d.type (.string a3) (.string b3)).run P w = .ok (a3 == b3) w := fun w => run_eqS i4
      rw [Op.equalIn]
      simp [run_und hu, hs, o1, o2, o3, o4, n1, n2, n3, n4, e1, e1', e2, e2', e3, e3', e4, e4', f1, f2, f3, f4]
      by_cases g0 : a0 = b0 <;> by_cases g1 : a1 = b1 <;> by_cases g2 : a2 = b2 <;> cases g3 : (a3 == b3) <;> simp [g0, g1, g2, g3]
    · cases h
  · cases h

variable {K : Value → Prop} {S : World → Prop} {x y : Operand}
theorem guard_agg {op : BinOp} (hg : P.eqGuardType P.depth t = false) {a b : Array Value} : (eqGuard op t x y (.agg a) (.agg b)).run P w = .ok () w := by
  unfold eqGuard
  cases op <;> simp [hg]
theorem q_eql3 (h : s3B P t = true) {q0 q1 q2 : IntKind} {a0 a1 a2 b0 b1 b2 : Int} (k : K (.bool (a0 == b0 && (a1 == b1 && a2 == b2)))) : Qu P S (binS .eql t x y (.agg #[.int q0 a0, .int q1 a1, .int q2 a2]) (.agg #[.int q0 b0, .int q1 b1, .int q2 b2])) K :=
  q_bin (fun w => guard_agg (by unfold s3B at h; simp only [Bool.and_eq_true, Bool.not_eq_true'] at h; exact h.2)) (fun w => by simp [binOp, run_eq3 h]) k
theorem q_neq4 (h : s4B P t = true) {q0 q1 q2 : IntKind} {a0 a1 a2 b0 b1 b2 : Int} {a3 b3 : ByteArray} (k : K (.bool (!(a0 == b0 && (a1 == b1 && (a2 == b2 && a3 == b3)))))) : Qu P S (binS .neq t x y (.agg #[.int q0 a0, .int q1 a1, .int q2 a2, .string a3]) (.agg #[.int q0 b0, .int q1 b1, .int q2 b2, .string b3])) K :=
  q_bin (fun w => guard_agg (by unfold s4B at h; simp only [Bool.and_eq_true, Bool.not_eq_true'] at h; exact h.2)) (fun w => by simp [binOp, run_eq4 h]) k

theorem s3_41 : s3B Pr 41 = true := by kernel_rfl
theorem s4_56 : s4B Pr 56 = true := by kernel_rfl

end Go.Proofs.YtmmpogfbhelioaaGreat
/-
  Contracts: the reference's side: the same machine, a follower.
  Conditions: each one's own.
-/
namespace Go.Proofs.YtmmpogfbhelioaaGreat
set_option maxRecDepth 10000
set_option linter.unusedVariables false
set_option linter.unusedSimpArgs false
theorem nmK26 {p : Prop} (h : p := by (try simp only [List.getElem?_toArray, List.getElem?_cons_zero, List.getElem?_cons_succ, List.setIfInBounds_toArray, List.set_cons_zero, List.set_cons_succ, List.toList_toArray, List.drop_zero, List.drop_succ_cons, List.take_zero, List.take_succ_cons, Nat.zero_add, Nat.add_zero, Nat.reduceAdd, putCells, Mac.cells, Nd.cells, Mac.nd]) <;> rfl) : p := h
theorem goK26 {G H : Prop} (h : H) (s : Stp G H := by (apply Stp.of; intro hS; (first | (refine q_ld bk_ nmK26 ?_) | (refine q_ldU bk_ rfl nmK26 ?_) | (refine q_ldW bk_ (by rfl) ?_) | (refine q_ldWU bk_ rfl (by rfl) ?_) | (refine q_ldP bk_ (Nat.le_of_ble_eq_true rfl) nmK26 ?_) | (refine q_ldPU bk_ rfl (Nat.le_of_ble_eq_true rfl) nmK26 ?_) | (refine q_ext nmK26 ?_) | (refine u_st bk_ (Nat.le_of_ble_eq_true rfl) (by first | rfl | assumption) nmK26 ?_) | (refine u_stA bk_ (Nat.le_of_ble_eq_true rfl) (by rfl) (by rfl) nmK26 ?_) | (refine q_field nmK26 ?_)); exact hS.out)) : G := s.f h
attribute [local irreducible] Instr.box Instr.alloc Instr.loadAt Instr.storeAt Instr.fieldAt Instr.indexAt Instr.build Instr.buildSlice Instr.makeSlice Instr.makeMap Instr.mapUpdate Instr.lookup Instr.range Instr.next Instr.entry Instr.extract Instr.makeInterface Instr.makeFunc Instr.sliceAt Instr.typeAssert Instr.field Instr.index Builtin.len_ Builtin.cap_ Builtin.max_ Builtin.min_ Builtin.append_ Builtin.copy_ Builtin.delete_ convert binS pickS nilS callV callM Op.unary Own Mp It Cu

variable {K : Value → World → Prop} {w : World} {te te2 : Option Nat}

theorem ba_refl (s : ByteArray) : (s == s) = true := by
  show (s.data == s.data) = true
  exact beq_self_eq_true _

theorem k35 {v1 v2 : Value} {l : List En} (h1 : Ens w te v1 l) (h2 : Ens w te2 v2 l) (h : ∀ w', Ex w w' → K (.bool true) w') : CK Pr 35 #[v1, v2] w K := by
  refine c35 ?_
  unfold t35
  refine q_lenSl h1 ?_
  refine q_lenSl h2 ?_
  refine q_neq ?_
  rw [beq_self_eq_true]
  (repeat (first | (refine go ?_; intros) | (refine goK26 ?_; intros)))
  have hle := h1.le
  rw [List.length_map] at hle ⊢
  refine loop_n (α := Nat) (fun j τ w' => g τ 2 = .int .i64 j ∧ j ≤ l.length ∧ Ex w w') (fun j => l.length - j) 0 ⟨rfl, Nat.zero_le _, .refl _ _ _⟩ ?_
  intro j τ w' R ⟨hj, hjl, ex⟩ hR
  rw [hj]
  (repeat (first | (refine go ?_; intros) | (refine goK26 ?_; intros)))
  refine if_split (fun hb => ?_) (fun _ => h _ ex)
  have hj' : j < l.length := by simpa using hb
  obtain ⟨e, he⟩ : ∃ e, l[j]? = some e := ⟨_, List.getElem?_eq_getElem hj'⟩
  refine dr_q fun w1 e1 z1 => ?_
  refine q_ixa j (h1.ex (ex.trans e1)) rfl (by rw [List.getElem?_map, he]; rfl) fun _ => ?_
  refine q_ixa j (h2.ex (ex.trans e1)) rfl (by rw [List.getElem?_map, he]; rfl) fun _ => ?_
  refine q_neq4 (q0 := .u64) (q1 := .u64) (q2 := .i64) (a0 := e.t) (a1 := e.i) (a2 := e.k) (a3 := e.d) (b0 := e.t) (b1 := e.i) (b2 := e.k) (b3 := e.d) s4_56 ?_
  rw [beq_self_eq_true, beq_self_eq_true, beq_self_eq_true, ba_refl]
  (repeat (first | (refine go ?_; intros) | (refine goK26 ?_; intros)))
  rw [wrapS (by omega)]
  exact hR (j + 1) _ _ ⟨rfl, by omega, ex.trans e1⟩ (by omega)

theorem k14 {mo : Mac} {n : Nd} {role : Int} (hm : IsMac w mo) (hl : mo.st.length + mo.fr.length ≤ 1000000000000) (hn : Ens w te n.logV n.log) (on : one n.cvV = true ∧ one n.clV = true ∧ one n.coV = true ∧ one n.cnV = true)
    (hrole : mo.role = role) (hlead : mo.lead = n.lead) (hterm : mo.term = n.term) (hvote : mo.vote = n.vote) (hcom : mo.commit = n.commit) (hbi : mo.base.i = n.base.i) (hbt : mo.base.t = n.base.t) (hlog : mo.st ++ mo.fr = n.log)
    (h : ∀ w', Ex w w' → K (.bool true) w') : CK Pr 14 #[.agg mo.cells, .int .i64 role, .agg n.cells] w K := by
  refine c14 ?_
  unfold t14
  obtain ⟨o1, o2, o3, o4⟩ := on
  have on := hn.one
  refine e_boxA fun b1 w1 e1 hb1 s1 s2 => ?_
  refine e_boxA fun b2 w2 e2 hb2 s3 s4 => ?_
  have hb12 := e2.at_ hb1
  refine q_ldW hb12 (by rfl) ?_
  refine cl_fn (k12 (hm.ex (e1.trans e2)) hl fun v w3 e3 o3' => ?_)
  have p1 := hm.one1
  have ov := o3'.sl.one
  refine e_allocA fun b4 w4 e4 hb4 s5 s6 => ?_
  refine u_stA hb4 (Nat.le_of_ble_eq_true rfl) (by rfl) (by simp only [Mac.nd, Nd.cells, List.toList_toArray, List.all_cons, List.all_nil, p1.1, p1.2.1, p1.2.2.1, p1.2.2.2.1, ov]; rfl) (putCells_all (by rfl)) fun w5 u5 hb5 z5 => ?_
  have z1 := e1.size
  have z2 := e2.size
  have z3 := e3.size
  have hbm : Bk w5 b1 (.cells mo.cells 32 (0, 0)) := u5.at_ (e4.at_ (e3.at_ hb12)) rfl
  have hbn : Bk w5 b2 (.cells n.cells 43 (0, 0)) := u5.off (e4.at_ (e3.at_ hb2)) (by intro h; omega)
  have hbk : Bk w5 b4 (.cells (mo.nd v).cells 43 (0, 0)) := hb5
  clear hb5 hb4 hb12 hb1 hb2
  have ew5 : Ex w w5 := (((e1.trans e2).trans e3).trans e4).new u5 (by intro x hx; subst hx; omega)
  have hne : b4 ≠ b2 := by omega
  (repeat (first | (refine go ?_; intros) | (refine goK26 ?_; intros)))
  rw [hrole, beq_self_eq_true]
  (repeat (first | (refine go ?_; intros) | (refine goK26 ?_; intros)))
  rw [hlead, beq_self_eq_true]
  (repeat (first | (refine go ?_; intros) | (refine goK26 ?_; intros)))
  refine q_eql3 s3_41 ?_
  rw [hterm, hvote, hcom, beq_self_eq_true, beq_self_eq_true, beq_self_eq_true]
  (repeat (first | (refine go ?_; intros) | (refine goK26 ?_; intros)))
  rw [hbi, beq_self_eq_true]
  (repeat (first | (refine go ?_; intros) | (refine goK26 ?_; intros)))
  rw [hbt, beq_self_eq_true]
  (repeat (first | (refine go ?_; intros) | (refine goK26 ?_; intros)))
  have hlogw : Ens w5 te n.logV n.log := hn.ex ew5
  have hmine : Ens w5 (some 56) v n.log := by
    rw [← hlog]
    exact ((o3'.sl.ex e4).typ u5 rfl)
  refine cl_fn (k35 hmine hlogw fun w6 e6 => ?_)
  (repeat (first | (refine go ?_; intros) | (refine goK26 ?_; intros)))
  exact h w6 (ew5.trans e6)

/-- A node that follows. -/
def Nd.follows (n : Nd) (t l : Int) : Nd := { n with term := if t > n.term then t else n.term, vote := if t > n.term then 0 else n.vote, lead := l }

end Go.Proofs.YtmmpogfbhelioaaGreat
/-
  Contracts: the reference's side: the term of an entry, the commit, a snapshot.
  Conditions: the node's entries stand one behind the other.
-/
namespace Go.Proofs.YtmmpogfbhelioaaGreat
set_option maxRecDepth 10000
set_option linter.unusedVariables false
set_option linter.unusedSimpArgs false
theorem nmK55 {p : Prop} (h : p := by (try simp only [List.getElem?_toArray, List.getElem?_cons_zero, List.getElem?_cons_succ, List.setIfInBounds_toArray, List.set_cons_zero, List.set_cons_succ, List.toList_toArray, List.drop_zero, List.drop_succ_cons, List.take_zero, List.take_succ_cons, Nat.zero_add, Nat.add_zero, Nat.reduceAdd, putCells, Nd.cells, snCells]) <;> rfl) : p := h
theorem goK55 {G H : Prop} (h : H) (s : Stp G H := by (apply Stp.of; intro hS; (first | (refine q_ld bk_ nmK55 ?_) | (refine q_ldU bk_ rfl nmK55 ?_) | (refine q_ldW bk_ (by rfl) ?_) | (refine q_ldWU bk_ rfl (by rfl) ?_) | (refine q_ldP bk_ (Nat.le_of_ble_eq_true rfl) nmK55 ?_) | (refine q_ldPU bk_ rfl (Nat.le_of_ble_eq_true rfl) nmK55 ?_) | (refine q_ext nmK55 ?_) | (refine u_st bk_ (Nat.le_of_ble_eq_true rfl) (by first | rfl | assumption) nmK55 ?_) | (refine u_stA bk_ (Nat.le_of_ble_eq_true rfl) (by rfl) (by rfl) nmK55 ?_) | (refine q_field nmK55 ?_)); exact hS.out)) : G := s.f h
attribute [local irreducible] Instr.box Instr.alloc Instr.loadAt Instr.storeAt Instr.fieldAt Instr.indexAt Instr.build Instr.buildSlice Instr.makeSlice Instr.makeMap Instr.mapUpdate Instr.lookup Instr.range Instr.next Instr.entry Instr.extract Instr.makeInterface Instr.makeFunc Instr.sliceAt Instr.typeAssert Instr.field Instr.index Builtin.len_ Builtin.cap_ Builtin.max_ Builtin.min_ Builtin.append_ Builtin.copy_ Builtin.delete_ convert binS pickS nilS callV callM Op.unary Own Mp It Cu

variable {K : Value → World → Prop} {w : World} {te te2 : Option Nat}

/-- The term of the node's entry at an index. -/
def Nd.tat (n : Nd) (i : Int) : Option Int := if i < n.base.i then none else (((⟨n.base.t, n.base.i, 0, ByteArray.empty⟩ : En) :: n.log)[(i - n.base.i).toNat]?).map (·.t)

/-- A node's parts fit. -/
structure NdOk (n : Nd) (w : World) (te : Option Nat) : Prop where
  ens : Ens w te n.logV n.log
  o1 : one n.cvV = true
  o2 : one n.clV = true
  o3 : one n.coV = true
  o4 : one n.cnV = true
  len : n.log.length ≤ 100
  bi : 0 ≤ n.base.i ∧ n.base.i ≤ 1099511627776
  last : (n.log.getLast?.map (·.i)).getD n.base.i = n.base.i + n.log.length
theorem NdOk.ex {n : Nd} {w' : World} (e : Ex w w') (h : NdOk n w te) : NdOk n w' te := ⟨h.ens.ex e, h.o1, h.o2, h.o3, h.o4, h.len, h.bi, h.last⟩

theorem tat_ge {n : Nd} {i : Int} (h : ¬ i < n.base.i) (h2 : n.base.i + n.log.length < i) : n.tat i = none := by
  unfold Nd.tat
  rw [if_neg h, List.getElem?_eq_none (by simp only [List.length_cons]; omega)]
  rfl

theorem k33 {n : Nd} {i : Int} (ok : NdOk n w te) (hi : 0 ≤ i ∧ i ≤ 2000000000000000)
    (h0 : ∀ w', Ex w w' → n.tat i = none → K (.tuple #[.int .u64 0, .bool false]) w')
    (h1 : ∀ w' t, Ex w w' → n.tat i = some t → K (.tuple #[.int .u64 t, .bool true]) w') : CK Pr 33 #[.agg n.cells, .int .u64 i] w K := by
  refine c33 ?_
  unfold t33
  obtain ⟨ens, o1, o2, o3, o4, len, bi, last⟩ := ok
  have olv := ens.one
  refine e_boxA fun b1 w1 e1 hb1 s1 s2 => ?_
  refine q_ldW hb1 (by rfl) ?_
  refine cl_fn (k19 (n := n) (te := te) (ens.ex e1) ⟨o1, o2, o3, o4⟩ fun w2 e2 => ?_)
  rw [last]
  have hb2 := e2.at_ hb1
  have ens2 := (ens.ex e1).ex e2
  clear hb1
  (repeat (first | (refine go ?_; intros) | (refine goK55 ?_; intros)))
  by_cases c1 : i < n.base.i
  · rw [decide_eq_true c1]
    (repeat (first | (refine go ?_; intros) | (refine goK55 ?_; intros)))
    exact h0 _ (e1.trans e2) (by unfold Nd.tat; rw [if_pos c1])
  rw [decide_eq_false c1]
  (repeat (first | (refine go ?_; intros) | (refine goK55 ?_; intros)))
  by_cases c2 : n.base.i + n.log.length < i
  · rw [decide_eq_true c2]
    (repeat (first | (refine go ?_; intros) | (refine goK55 ?_; intros)))
    exact h0 _ (e1.trans e2) (tat_ge c1 c2)
  rw [decide_eq_false c2]
  (repeat (first | (refine go ?_; intros) | (refine goK55 ?_; intros)))
  by_cases c3 : i = n.base.i
  · rw [show (i == n.base.i) = true by simp [c3]]
    (repeat (first | (refine go ?_; intros) | (refine goK55 ?_; intros)))
    refine h1 _ _ (e1.trans e2) ?_
    unfold Nd.tat
    rw [if_neg c1, show (i - n.base.i).toNat = 0 by omega]
    rfl
  rw [show (i == n.base.i) = false by simp [c3]]
  (repeat (first | (refine go ?_; intros) | (refine goK55 ?_; intros)))
  obtain ⟨j, hj⟩ : ∃ j : Nat, i = n.base.i + 1 + j := ⟨(i - n.base.i - 1).toNat, by omega⟩
  have hjl : j < n.log.length := by omega
  obtain ⟨x, hx⟩ : ∃ x, n.log[j]? = some x := ⟨_, List.getElem?_eq_getElem hjl⟩
  rw [wrapU (n := i - n.base.i) (by omega) (by omega), wrapU (n := i - n.base.i - 1) (by omega) (by omega)]
  refine q_ixf (y := .int .u64 x.t) j ens2 (by omega) (by rw [List.getElem?_map, hx]; rfl) rfl fun _ _ => ?_
  refine h1 _ _ (e1.trans e2) ?_
  unfold Nd.tat
  rw [if_neg c1, show (i - n.base.i).toNat = j + 1 by omega, List.getElem?_cons_succ, hx]
  rfl

theorem k34 {n : Nd} {i : Int} (ok : NdOk n w te) (hi : n.commit < i ∧ i ≤ n.base.i + n.log.length) (h : ∀ w', Ex w w' → K (.agg ({ n with commit := i } : Nd).cells) w') : CK Pr 34 #[.agg n.cells, .int .u64 i] w K := by
  refine c34 ?_
  unfold t34
  obtain ⟨ens, o1, o2, o3, o4, len, bi, last⟩ := ok
  have olv := ens.one
  refine e_boxA fun b1 w1 e1 hb1 s1 s2 => ?_
  refine e_allocA fun b2 w2 e2 hb2 s3 s4 => ?_
  have hb12 := e2.at_ hb1
  clear hb1
  refine q_ldW hb12 (by rfl) ?_
  refine cl_fn (k19 (n := n) (te := te) ((ens.ex e1).ex e2) ⟨o1, o2, o3, o4⟩ fun w3 e3 => ?_)
  rw [last]
  have hb13 := e3.at_ hb12
  have hb23 := e3.at_ hb2
  clear hb12 hb2
  (repeat (first | (refine go ?_; intros) | (refine goK55 ?_; intros)))
  refine q_min ?_
  refine q_max ?_
  rw [if_neg (show ¬ n.base.i + (n.log.length : Int) < i by omega), if_pos (show i > n.commit by omega)]
  (repeat (first | (refine go ?_; intros) | (refine goK55 ?_; intros)))
  rename_i w4 u4 hb4 z4
  have hb24 := u4.off hb23 (by intro h; omega)
  clear hb13 hb23
  refine u_stA hb24 (Nat.le_of_ble_eq_true rfl) (by rfl) (by simp only [Nd.cells, List.toList_toArray, List.all_cons, List.all_nil, o1, o2, o3, o4, olv]; rfl) (putCells_all (by rfl)) fun w5 u5 hb5 z5 => ?_
  refine q_ldW hb5 (by rfl) ?_
  have zz1 := e1.size
  have zz2 := e2.size
  have zz3 := e3.size
  exact h w5 ((((e1.trans e2).trans e3).new u4 (by intro y hy; omega)).new u5 (by intro y hy; omega))

/-- The node behind a snapshot. -/
def Nd.snap (n : Nd) (s : Sn) (v1 v2 v3 v4 : Value) : Nd := { n with base := s, cvV := v1, clV := v2, coV := v3, cnV := v4, logV := .slice none 0 0, log := [], commit := s.i }

theorem k13 {n : Nd} {s : Sn} {v1 v2 v3 v4 : Value} (ok : NdOk n w te) (hs : one v1 = true ∧ one v2 = true ∧ one v3 = true ∧ one v4 = true) (hi : 0 ≤ s.i ∧ s.i ≤ 1099511627776)
    (h0 : ∀ w', Ex w w' → s.i ≤ n.commit → K (.tuple #[.agg n.cells, .bool false]) w')
    (h1 : ∀ w', Ex w w' → n.commit < s.i → n.tat s.i = some s.t → K (.tuple #[.agg ({ n with commit := s.i } : Nd).cells, .bool false]) w')
    (h2 : ∀ w', Ex w w' → n.commit < s.i → n.tat s.i ≠ some s.t → K (.tuple #[.agg (n.snap s v1 v2 v3 v4).cells, .bool true]) w') : CK Pr 13 #[.agg n.cells, .agg (snCells s v1 v2 v3 v4)] w K := by
  refine c13 ?_
  unfold t13
  have ok0 := ok
  obtain ⟨ens, o1, o2, o3, o4, len, bi, last⟩ := ok
  obtain ⟨p1, p2, p3, p4⟩ := hs
  have olv := ens.one
  refine e_boxA fun b1 w1 e1 hb1 s1 s2 => ?_
  refine e_boxA fun b2 w2 e2 hb2 s3 s4 => ?_
  refine e_allocA fun b3 w3 e3 hb3 s5 s6 => ?_
  have E3 : Ex w w3 := (e1.trans e2).trans e3
  have hb13 : Bk w3 b1 (.cells n.cells 43 (0, 0)) := e3.at_ (e2.at_ hb1)
  have hb23 : Bk w3 b2 (.cells (snCells s v1 v2 v3 v4) 27 (0, 0)) := e3.at_ hb2
  have zz1 := e1.size
  have zz2 := e2.size
  have zz3 := e3.size
  clear hb1 hb2
  have fin : ∀ (w4 w5 : World) (n' : Nd) (tk : Bool), Ex w3 w4 → one n'.cvV = true → one n'.clV = true → one n'.coV = true → one n'.cnV = true → one n'.logV = true → (∀ w', Ex w w' → K (.tuple #[.agg n'.cells, .bool tk]) w') → Eu Pr (Instr.storeAt 43 (.pointer (some ⟨b3, 0, none⟩)) (.agg n'.cells)) w4 fun w44 => Qu Pr (Is w44) (Instr.loadAt 43 (.pointer (some ⟨b3, 0, none⟩))) fun v45 => K (.tuple #[v45, (Value.bool tk)]) w44 := by
    intro w4 _ n' tk e4 q1 q2 q3 q4 q5 hk
    have hb34 := e4.at_ hb3
    refine u_stA hb34 (Nat.le_of_ble_eq_true rfl) (by rfl) (by simp only [Nd.cells, List.toList_toArray, List.all_cons, List.all_nil, q1, q2, q3, q4, q5]; rfl) (putCells_all (by rfl)) fun w5 u5 hb5 z5 => ?_
    refine q_ldW hb5 (by rfl) ?_
    exact hk w5 ((E3.trans e4).new u5 (by intro y hy; omega))
  (repeat (first | (refine go ?_; intros) | (refine goK55 ?_; intros)))
  by_cases c1 : s.i ≤ n.commit
  · rw [decide_eq_true c1]
    (repeat (first | (refine go ?_; intros) | (refine goK55 ?_; intros)))
    exact fin w3 w3 n false (.refl _ _ _) o1 o2 o3 o4 olv fun w' e => h0 w' e c1
  rw [decide_eq_false c1]
  have c1' : n.commit < s.i := by omega
  (repeat (first | (refine go ?_; intros) | (refine goK55 ?_; intros)))
  have go2 : n.tat s.i ≠ some s.t → ∀ w4, Ex w3 w4 → (Eu Pr (Instr.storeAt 27 (.pointer (some ⟨b1, 0 + 5, none⟩)) (.agg (snCells s v1 v2 v3 v4))) w4 fun w48 => 
      Qu Pr (Is w48) (Instr.fieldAt 43 (.pointer (some ⟨b1, 0, none⟩)) 4) fun v49 =>
      Eu Pr (Instr.storeAt 28 v49 (Value.slice none 0 0)) w48 fun w50 => 
      Qu Pr (Is w50) (Instr.fieldAt 27 (.pointer (some ⟨b2, 0, none⟩)) 1) fun v51 =>
      Qu Pr (Is w50) (Instr.loadAt 22 v51) fun v52 =>
      Qu Pr (Is w50) (Instr.fieldAt 43 (.pointer (some ⟨b1, 0, none⟩)) 2) fun v53 =>
      Qu Pr (Is w50) (Instr.fieldAt 41 v53 2) fun v54 =>
      Eu Pr (Instr.storeAt 22 v54 v52) w50 fun w55 => 
      Qu Pr (Is w55) (Instr.loadAt 43 (.pointer (some ⟨b1, 0, none⟩))) fun v56 =>
      Eu Pr (Instr.storeAt 43 (.pointer (some ⟨b3, 0, none⟩)) v56) w55 fun w57 => 
      Qu Pr (Is w57) (Instr.loadAt 43 (.pointer (some ⟨b3, 0, none⟩))) fun v58 =>
      K (.tuple #[v58, (Value.bool true)]) w57) := by
    intro hat w4 e4
    have hb14 := e4.at_ hb13
    have hb24 := e4.at_ hb23
    have hb34 := e4.at_ hb3
    clear hb13 hb23 hb3
    refine u_stA hb14 (Nat.le_of_ble_eq_true rfl) (by rfl) (by simp only [snCells, List.toList_toArray, List.all_cons, List.all_nil, p1, p2, p3, p4]; rfl) nmK55 fun w5 u5 hb5 z5 => ?_
    have hb25 := u5.off hb24 (by intro h; omega)
    have hb35 := u5.off hb34 (by intro h; omega)
    clear hb14 hb24 hb34
    refine q_fa ?_
    refine u_st hb5 (Nat.le_of_ble_eq_true rfl) rfl nmK55 fun w6 u6 hb6 z6 => ?_
    have hb26 := u6.off hb25 (by intro h; omega)
    have hb36 := u6.off hb35 (by intro h; omega)
    clear hb5 hb25 hb35
    (repeat (first | (refine go ?_; intros) | (refine goK55 ?_; intros)))
    rename_i w7 u7 hb7 z7
    have hb37 := u7.off hb36 (by intro h; omega)
    refine u_stA hb37 (Nat.le_of_ble_eq_true rfl) (by rfl) (by simp only [List.toList_toArray, List.all_cons, List.all_nil, p1, p2, p3, p4]; rfl) (putCells_all (by rfl)) fun w8 u8 hb8 z8 => ?_
    refine q_ldW hb8 (by rfl) ?_
    exact h2 w8 ((((((E3.trans e4).new u5 (by intro y hy; omega)).new u6 (by intro y hy; omega)).new u7 (by intro y hy; omega)).new u8 (by intro y hy; omega))) c1' hat
  refine cl_fn (k33 (n := n) (te := te) (ok0.ex E3) ⟨hi.1, by omega⟩ (fun w4 e4 ht => ?_) (fun w4 t e4 ht => ?_))
  · have hb14 := e4.at_ hb13
    have hb24 := e4.at_ hb23
    (repeat (first | (refine go ?_; intros) | (refine goK55 ?_; intros)))
    exact go2 (by rw [ht]; simp) w4 e4
  · have hb14 := e4.at_ hb13
    have hb24 := e4.at_ hb23
    (repeat (first | (refine go ?_; intros) | (refine goK55 ?_; intros)))
    by_cases ct : t = s.t
    · subst ct
      rw [beq_self_eq_true]
      (repeat (first | (refine go ?_; intros) | (refine goK55 ?_; intros)))
      have hcm : s.i ≤ n.base.i + n.log.length := by
        refine Int.not_lt.1 fun hlt => ?_
        have := tat_ge (n := n) (i := s.i) (by omega) hlt
        rw [this] at ht
        cases ht
      refine cl_fn (k34 (te := te) ((ok0.ex E3).ex e4) ⟨c1', hcm⟩ fun w5 e5 => ?_)
      exact fin w5 w5 { n with commit := s.i } false (e4.trans e5) o1 o2 o3 o4 olv fun w' e => h1 w' e c1' ht
    · rw [show (t == s.t) = false by simp [ct]]
      (repeat (first | (refine go ?_; intros) | (refine goK55 ?_; intros)))
      exact go2 (by rw [ht]; simp [ct]) w4 e4

end Go.Proofs.YtmmpogfbhelioaaGreat
