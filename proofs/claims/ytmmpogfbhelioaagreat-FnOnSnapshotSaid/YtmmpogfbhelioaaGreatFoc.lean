/-
  PARTS: S0 S1 S2 S3 S4 S5.
-/
import Derived.Test.YtmmpogfbhelioaaGreatFob
/-
  Contracts: sorting numbers in place; what is told is that the numbers stay, in some order.
  Conditions: each one's own.
-/
namespace Go.Proofs.YtmmpogfbhelioaaGreat
set_option maxRecDepth 10000
set_option linter.unusedVariables false
set_option linter.unusedSimpArgs false
attribute [local irreducible] Instr.box Instr.alloc Instr.loadAt Instr.storeAt Instr.fieldAt Instr.indexAt Instr.build Instr.buildSlice Instr.makeSlice Instr.makeMap Instr.mapUpdate Instr.lookup Instr.range Instr.next Instr.entry Instr.extract Instr.makeInterface Instr.makeFunc Instr.sliceAt Instr.typeAssert Instr.field Instr.index Builtin.len_ Builtin.cap_ Builtin.max_ Builtin.min_ Builtin.append_ Builtin.copy_ Builtin.delete_ convert binS pickS nilS callV callM Op.unary Own Mp It Cu

attribute [local irreducible] Nm

variable {K : Value → World → Prop} {w : World} {te : Nat} {v : Value} {xs : List Int}

/-- A drawn region of stores to places that hang on no world. -/
theorem dr_top {F : (World → Prop) → World → Prop} (h : ∀ w1, Ex w w1 → w1.heap.size = w.heap.size → F (fun _ => True) w1) : Dr w F :=
  .mk (fun _ => True) trivial (h _ (Up.drew _ _ _) rfl)

instance tfn208 : TFn Pr 208 := ⟨by kernel_rfl⟩
instance tfn209 : TFn Pr 209 := ⟨by kernel_rfl⟩
instance tfn269 : TFn Pr 269 := ⟨by kernel_rfl⟩
instance tfn270 : TFn Pr 270 := ⟨by kernel_rfl⟩
instance tfn271 : TFn Pr 271 := ⟨by kernel_rfl⟩
instance tfn272 : TFn Pr 272 := ⟨by kernel_rfl⟩
instance tfn273 : TFn Pr 273 := ⟨by kernel_rfl⟩
instance tfn274 : TFn Pr 274 := ⟨by kernel_rfl⟩
instance tfn275 : TFn Pr 275 := ⟨by kernel_rfl⟩
instance tfn276 : TFn Pr 276 := ⟨by kernel_rfl⟩
instance tfn277 : TFn Pr 277 := ⟨by kernel_rfl⟩
instance tfn278 : TFn Pr 278 := ⟨by kernel_rfl⟩
instance tfn279 : TFn Pr 279 := ⟨by kernel_rfl⟩
instance tfn310 : TFn Pr 310 := ⟨by kernel_rfl⟩
instance tfn311 : TFn Pr 311 := ⟨by kernel_rfl⟩
instance tfn312 : TFn Pr 312 := ⟨by kernel_rfl⟩
instance tfn313 : TFn Pr 313 := ⟨by kernel_rfl⟩
instance tfn314 : TFn Pr 314 := ⟨by kernel_rfl⟩
instance tfn315 : TFn Pr 315 := ⟨by kernel_rfl⟩
instance tfn329 : TFn Pr 329 := ⟨by kernel_rfl⟩

theorem k315 {a : Int} (h : K (.bool false) w) : CK Pr 315 #[.int .u64 a] w K := by
  refine c315 ?_
  unfold t315
  (repeat (first | (refine go ?_; intros) | (refine gon ?_; intros)))
  simpa using h

theorem k275 {a b : Int} (h : K (.bool (decide (a < b))) w) : CK Pr 275 #[.int .u64 a, .int .u64 b] w K := by
  refine c275 ?_
  unfold t275
  refine cl_fn (k315 ?_)
  (repeat (first | (refine go ?_; intros) | (refine gon ?_; intros)))
  exact h

def So (te : Nat) (v : Value) (xs : List Int) (w : World) (w' : World) (xs' : List Int) : Prop :=
  Up (sb v) [te + 2] w w' ∧ w.heap.size ≤ w'.heap.size ∧ xs'.Perm xs ∧ Nm te v xs' w'
theorem So.refl (h : Nm te v xs w) : So te v xs w w xs := ⟨.refl _ _ _, Nat.le_refl _, .refl _, h⟩
theorem So.nm {w' : World} {xs' : List Int} (h : So te v xs w w' xs') : Nm te v xs' w' := h.2.2.2
theorem So.len {w' : World} {xs' : List Int} (h : So te v xs w w' xs') : xs'.length = xs.length := h.2.2.1.length_eq
theorem So.trans {w' w'' : World} {xs' xs'' : List Int} (h : So te v xs w w' xs') (h' : So te v xs' w' w'' xs'') : So te v xs w w'' xs'' :=
  ⟨h.1.trans h'.1, Nat.le_trans h.2.1 h'.2.1, h'.2.2.1.trans h.2.2.1, h'.2.2.2⟩
theorem So.ex {w' w'' : World} {xs' : List Int} (h : So te v xs w w' xs') (e : Ex w' w'') (z : w''.heap.size = w'.heap.size) : So te v xs w w'' xs' :=
  ⟨h.1.ex e, Nat.le_trans h.2.1 e.size, h.2.2.1, h.2.2.2.ex e⟩
theorem So.new {w' w'' : World} {xs' : List Int} (h : So te v xs w w' xs') (e : Ex w' w'') : So te v xs w w'' xs' :=
  ⟨h.1.ex e, Nat.le_trans h.2.1 e.size, h.2.2.1, h.2.2.2.ex e⟩

/-- Two elements change places: the two stores. -/
theorem So.swap {w1 w2 w3 : World} {i j : Nat} {a b : Int} (ha : xs[i]? = some a) (hb : xs[j]? = some b) (h1 : Up (sb v) [te + 2] w w2) (z1 : w2.heap.size = w.heap.size) (h2 : Up (sb v) [te + 2] w2 w3) (z2 : w3.heap.size = w2.heap.size)
    (hn : Nm te v ((xs.set i b).set j a) w3) : So te v xs w w3 ((xs.set i b).set j a) := ⟨h1.trans h2, Nat.le_trans h1.size h2.size, perm_swap ha hb, hn⟩

theorem q_ldNI {t : Nat} [TCell Pr t] {K : Value → Prop} {j : Nat} {x : Int} (h : Nm te v xs w) (hx : xs[j]? = some x) (kk : K (.int .u64 x)) : Qu Pr (Is w) (Instr.loadAt t (ea v j)) K :=
  q_ldN (te := te) (S := Is w) (fun w' u => by cases u; exact h) hx kk
theorem q_ldNE {t : Nat} [TCell Pr t] {K : Value → Prop} {j : Nat} {x : Int} (h : Nm te v xs w) (hx : xs[j]? = some x) (kk : K (.int .u64 x)) : Qu Pr (Ex w) (Instr.loadAt t (ea v j)) K :=
  q_ldN (te := te) (S := Ex w) (fun w' u => h.ex u) hx kk

theorem get_of {xs : List Int} {j : Nat} (h : j < xs.length) : ∃ x, xs[j]? = some x := ⟨_, List.getElem?_eq_getElem h⟩

theorem k269 {a b : Nat} (hn : Nm te v xs w) (hb : b ≤ xs.length) (hl : xs.length ≤ 1000000) (hab : a ≤ 1000000) (h : ∀ w' xs', So te v xs w w' xs' → K (.tuple #[]) w') :
    CK Pr 269 #[v, .int .i64 a, .int .i64 b] w K := by
  refine c269 ?_
  unfold t269
  (repeat (first | (refine go ?_; intros) | (refine gon ?_; intros)))
  rw [wrapS (by omega)]
  refine loop_n (α := Nat × List Int) (fun p τ w' => g τ 0 = .int .i64 (p.1 : Nat) ∧ a < p.1 ∧ p.1 ≤ 1000002 ∧ So te v xs w w' p.2) (fun p => 1000003 - p.1) (a + 1, xs) ⟨rfl, by simp, by simp; omega, So.refl hn⟩ ?_
  rintro ⟨i, ys⟩ τ w' R ⟨hi, hai, hile, hs⟩ hR
  simp only at hi hai hile hs hR
  rw [hi]
  (repeat (first | (refine go ?_; intros) | (refine gon ?_; intros)))
  refine if_split (fun hlt => ?_) (fun _ => h _ _ hs)
  have hlt := of_decide_eq_true hlt
  have hib : i < b := by omega
  refine loop_n (α := Nat × List Int) (fun p τ w' => g τ 0 = .int .i64 (p.1 : Nat) ∧ a ≤ p.1 ∧ p.1 ≤ i ∧ So te v xs w w' p.2) (fun p => p.1) (i, ys) ⟨rfl, by simp; omega, by simp, hs⟩ ?_
  rintro ⟨j, zs⟩ τ2 w2 R2 ⟨hj, haj, hji, hs2⟩ hR2
  simp only at hj haj hji hs2 hR2
  rw [hj]
  have hzl := hs2.len
  refine dr_rule No [] fun w3 x3 z3 => ?_
  have hs3 := hs2.ex x3 z3
  by_cases hja : (a : Int) < j
  · obtain ⟨x, hx⟩ := get_of (xs := zs) (j := j) (by omega)
    obtain ⟨y, hy⟩ := get_of (xs := zs) (j := j - 1) (by omega)
    have hj1 : IntKind.i64.wrap ((j : Int) - 1) = ((j - 1 : Nat) : Int) := by rw [wrap64 (by omega) (by omega)]; omega
    (repeat (first | (refine go ?_; intros) | (refine gon ?_; intros)))
    rw [decide_eq_true hja]
    (repeat (first | (refine go ?_; intros) | (refine gon ?_; intros)))
    (try simp only [hj1])
    refine q_ixN j hs3.nm rfl (by omega) ?_
    (repeat (first | (refine go ?_; intros) | (refine gon ?_; intros)))
    refine q_ldNE (t := 22) hs3.nm hx ?_
    (repeat (first | (refine go ?_; intros) | (refine gon ?_; intros)))
    (try simp only [hj1])
    refine q_ixN (j - 1) hs3.nm rfl (by omega) ?_
    (repeat (first | (refine go ?_; intros) | (refine gon ?_; intros)))
    refine q_ldNE (t := 22) hs3.nm hy ?_
    (repeat (first | (refine go ?_; intros) | (refine gon ?_; intros)))
    refine cl_fn (k275 ⟨.refl _ _ _, ?_⟩)
    (repeat (first | (refine go ?_; intros) | (refine gon ?_; intros)))
    refine if_split (fun hxy => ?_) (fun hxy => ?_)
    · refine dr_top fun wA xA zA => ?_
      have hs3a := hs3.ex xA zA
      (repeat (first | (refine go ?_; intros) | (refine gon ?_; intros)))
      (try simp only [hj1])
      refine q_ixN (j - 1) hs3a.nm rfl (by omega) ?_
      refine q_ldNI (t := 22) hs3a.nm hy ?_
      refine q_ixN j hs3a.nm rfl (by omega) ?_
      refine q_ldNI (t := 22) hs3a.nm hx ?_
      refine q_ixN j hs3a.nm rfl (by omega) ?_
      refine u_stN hs3a.nm (by omega) fun wb ub nb zb => ⟨trivial, ?_⟩
      refine q_ixN (j - 1) hs3a.nm rfl (by omega) ?_
      refine u_stN nb (by simp; omega) fun wc uc nc zc => ⟨trivial, ?_⟩
      have hs5 := hs3a.trans (So.swap (w1 := wb) hx hy ub zb uc zc nc)
      (repeat (first | (refine go ?_; intros) | (refine gon ?_; intros)))
      rw [hj1]
      exact hR2 (j - 1, _) _ _ ⟨rfl, by simp; omega, by simp; omega, hs5⟩ (by simp; omega)
    · (repeat (first | (refine go ?_; intros) | (refine gon ?_; intros)))
      rw [wrapS (by omega)]
      exact hR (i + 1, zs) _ _ ⟨rfl, by simp; omega, by simp; omega, hs3⟩ (by simp; omega)
  · (repeat (first | (refine go ?_; intros) | (refine gon ?_; intros)))
    rw [decide_eq_false hja]
    (repeat (first | (refine go ?_; intros) | (refine gon ?_; intros)))
    rw [wrapS (by omega)]
    exact hR (i + 1, zs) _ _ ⟨rfl, by simp; omega, by simp; omega, hs3⟩ (by simp; omega)

end Go.Proofs.YtmmpogfbhelioaaGreat
/-
  Contracts: the pattern defeating sort's parts.
  Conditions: each one's own.
-/
namespace Go.Proofs.YtmmpogfbhelioaaGreat
set_option maxRecDepth 10000
set_option linter.unusedVariables false
set_option linter.unusedSimpArgs false
attribute [local irreducible] Instr.box Instr.alloc Instr.loadAt Instr.storeAt Instr.fieldAt Instr.indexAt Instr.build Instr.buildSlice Instr.makeSlice Instr.makeMap Instr.mapUpdate Instr.lookup Instr.range Instr.next Instr.entry Instr.extract Instr.makeInterface Instr.makeFunc Instr.sliceAt Instr.typeAssert Instr.field Instr.index Builtin.len_ Builtin.cap_ Builtin.max_ Builtin.min_ Builtin.append_ Builtin.copy_ Builtin.delete_ convert binS pickS nilS callV callM Op.unary Own Mp It Cu

attribute [local irreducible] Nm

variable {K : Value → World → Prop} {w : World} {te : Nat} {v : Value} {xs : List Int}

theorem q_quo {P : Program} {S : World → Prop} {t : TypeId} {x y : Operand} {K : Value → Prop} {k : IntKind} {a b : Int} (hb : b ≠ 0) (h : K (.int k (k.wrap (a.tdiv b)))) : Qu P S (binS .quo t x y (.int k a) (.int k b)) K :=
  q_bin (fun _ => guard_int) (fun w => by simp [binOp, Op.intDiv, hb]) h

theorem k329 {i j : Nat} {pb : Nat} {n : Int} (hn : Nm te v xs w) (hi : i < xs.length) (hj : j < xs.length) (hb : Bk w pb (.cells #[.int .i64 n] 3 (0, 0)))
    (h : ∀ w' i' j' n', Up (fun x => x = pb) [5] w w' → w'.heap.size = w.heap.size → Bk w' pb (.cells #[.int .i64 n'] 3 (0, 0)) → (i' = i ∧ j' = j ∨ i' = j ∧ j' = i) → K (.tuple #[.int .i64 (i' : Nat), .int .i64 (j' : Nat)]) w') :
    CK Pr 329 #[v, .int .i64 i, .int .i64 j, .pointer (some ⟨pb, 0, none⟩)] w K := by
  refine c329 ?_
  unfold t329
  obtain ⟨x, hx⟩ := get_of hi
  obtain ⟨y, hy⟩ := get_of hj
  refine dr_rule No [] fun w1 x1 z1 => ?_
  have n1 := hn.ex x1
  refine q_ixN j n1 rfl (by omega) ?_
  refine q_ldNE (t := 22) n1 hy ?_
  refine q_ixN i n1 rfl (by omega) ?_
  refine q_ldNE (t := 22) n1 hx ?_
  refine cl_fn (k275 ⟨.refl _ _ _, ?_⟩)
  have hb1 : Bk w1 pb _ := x1.at_ hb
  refine if_split (fun _ => ?_) (fun _ => ?_)
  · (repeat (first | (refine go ?_; intros) | (refine gon ?_; intros)))
    rename_i w2 u2 hb2 z2
    exact h w2 j i _ ((Up.of_ex x1).trans u2) (by omega) hb2 (.inr ⟨rfl, rfl⟩)
  · (repeat (first | (refine go ?_; intros) | (refine gon ?_; intros)))
    exact h w1 i j _ (.of_ex x1) z1 hb1 (.inl ⟨rfl, rfl⟩)

theorem Nm.off {pb : Nat} {w' : World} (hn : Nm te v xs w) (u : Up (fun x => x = pb) [5] w w') (hv : ¬ sb v pb) : Nm te v xs w' :=
  hn.up u (.inr fun b hb hx => hv (hx ▸ hb))

theorem k314 {i j m : Nat} {pb : Nat} {n : Int} (hn : Nm te v xs w) (hi : i < xs.length) (hj : j < xs.length) (hm : m < xs.length) (hb : Bk w pb (.cells #[.int .i64 n] 3 (0, 0))) (hv : ¬ sb v pb)
    (h : ∀ w' (r : Nat) n', Up (fun x => x = pb) [5] w w' → w'.heap.size = w.heap.size → Bk w' pb (.cells #[.int .i64 n'] 3 (0, 0)) → (r = i ∨ r = j ∨ r = m) → K (.int .i64 (r : Nat)) w') :
    CK Pr 314 #[v, .int .i64 i, .int .i64 j, .int .i64 m, .pointer (some ⟨pb, 0, none⟩)] w K := by
  refine c314 ?_
  unfold t314
  refine cl_fn (k329 hn hi hj hb fun w1 i1 j1 n1 u1 z1 b1 h1 => ?_)
  (repeat (first | (refine go ?_; intros) | (refine gon ?_; intros)))
  have hn1 := hn.off u1 hv
  refine cl_fn (k329 hn1 (by rcases h1 with ⟨_, rfl⟩ | ⟨_, rfl⟩ <;> assumption) hm b1 fun w2 i2 j2 n2 u2 z2 b2 h2 => ?_)
  (repeat (first | (refine go ?_; intros) | (refine gon ?_; intros)))
  refine cl_fn (k329 (hn1.off u2 hv) (by rcases h1 with ⟨rfl, _⟩ | ⟨rfl, _⟩ <;> assumption) (by rcases h1 with ⟨_, rfl⟩ | ⟨_, rfl⟩ <;> rcases h2 with ⟨rfl, _⟩ | ⟨rfl, _⟩ <;> assumption) b2 fun w3 i3 j3 n3 u3 z3 b3 h3 => ?_)
  (repeat (first | (refine go ?_; intros) | (refine gon ?_; intros)))
  refine h w3 j3 _ ((u1.trans u2).trans u3) (by omega) b3 ?_
  omega

theorem k272 (hn : Nm te v xs w) (hl : xs.length = 13) (hv : ∀ b, sb v b → b < w.heap.size) (h : ∀ w' (r : Nat) (g : Int), Ex w w' → r < 13 → (g = 0 ∨ g = 1 ∨ g = 2) → K (.tuple #[.int .i64 (r : Nat), .int .i64 g]) w') :
    CK Pr 272 #[v, .int .i64 0, .int .i64 13] w K := by
  refine c272 ?_
  unfold t272
  unfold Jo
  (repeat (first | (refine go ?_; intros) | (refine gon ?_; intros)))
  rename_i b1 w1 e1 hb1 s1 s2
  have e3 : IntKind.i64.wrap ((13 : Int).tdiv 4) = 3 := by rfl
  refine q_quo (by omega) ?_
  (repeat (first | (refine go ?_; intros) | (refine gon ?_; intros)))
  refine q_quo (by omega) ?_
  (repeat (first | (refine go ?_; intros) | (refine gon ?_; intros)))
  refine q_quo (by omega) ?_
  (repeat (first | (refine go ?_; intros) | (refine gon ?_; intros)))
  refine cl_fn (k314 (i := 3) (j := 6) (m := 9) (hn.ex e1) (by omega) (by omega) (by omega) hb1 (fun hx => by have := hv _ hx; omega) fun w2 r n2 u2 z2 b2 h2 => ?_)
  have ex : Ex w w2 := Up.no (Up.new (Up.of_ex e1 : Up No [] w w1) u2 (by intro _ h; subst h; omega)) (fun _ _ => id)
  (repeat (first | (refine go ?_; intros) | (refine gon ?_; intros)))
  refine if_split (fun _ => h w2 r 1 ex (by omega) (by omega)) (fun _ => ?_)
  (repeat (first | (refine go ?_; intros) | (refine gon ?_; intros)))
  exact if_split (fun _ => h w2 r 2 ex (by omega) (by omega)) (fun _ => h w2 r 0 ex (by omega) (by omega))

theorem k273 {a b : Nat} (hn : Nm te v xs w) (hb : b ≤ xs.length) (hl : xs.length ≤ 1000000) (hab : a < b) (h : ∀ w' xs', So te v xs w w' xs' → K (.tuple #[]) w') :
    CK Pr 273 #[v, .int .i64 a, .int .i64 b] w K := by
  refine c273 ?_
  unfold t273
  (repeat (first | (refine go ?_; intros) | (refine gon ?_; intros)))
  have hb1 : IntKind.i64.wrap ((b : Int) - 1) = ((b - 1 : Nat) : Int) := by rw [wrap64 (by omega) (by omega)]; omega
  rw [hb1]
  refine loop_n (α := Nat × Nat × List Int) (fun p τ w' => g τ 0 = .int .i64 (p.1 : Nat) ∧ g τ 1 = .int .i64 (p.2.1 : Nat) ∧ p.2.1 < b ∧ (p.1 < 1000002) ∧ So te v xs w w' p.2.2) (fun p => 1000003 - p.1) (a, b - 1, xs) ⟨rfl, rfl, by simp; omega, by simp; omega, So.refl hn⟩ ?_
  rintro ⟨i, j, ys⟩ τ w' R ⟨hi, hj, hjb, hia, hs⟩ hR
  simp only at hi hj hjb hia hs hR
  rw [hi, hj]
  (repeat (first | (refine go ?_; intros) | (refine gon ?_; intros)))
  refine if_split (fun hlt => ?_) (fun _ => h _ _ hs)
  have hlt := of_decide_eq_true hlt
  have hyl := hs.len
  obtain ⟨x, hx⟩ := get_of (xs := ys) (j := i) (by omega)
  obtain ⟨y, hy⟩ := get_of (xs := ys) (j := j) (by omega)
  have hj1 : IntKind.i64.wrap ((j : Int) - 1) = ((j - 1 : Nat) : Int) := by rw [wrap64 (by omega) (by omega)]; omega
  refine dr_top fun wA xA zA => ?_
  have hsa := hs.ex xA zA
  (repeat (first | (refine go ?_; intros) | (refine gon ?_; intros)))
  (try simp only [hj1])
  refine q_ixN j hsa.nm rfl (by omega) ?_
  refine q_ldNI (t := 22) hsa.nm hy ?_
  refine q_ixN i hsa.nm rfl (by omega) ?_
  refine q_ldNI (t := 22) hsa.nm hx ?_
  refine q_ixN i hsa.nm rfl (by omega) ?_
  refine u_stN hsa.nm (by omega) fun wb ub nb zb => ⟨trivial, ?_⟩
  refine q_ixN j hsa.nm rfl (by omega) ?_
  refine u_stN nb (by simp; omega) fun wc uc nc zc => ⟨trivial, ?_⟩
  have hs5 := hsa.trans (So.swap (w1 := wb) hx hy ub zb uc zc nc)
  (repeat (first | (refine go ?_; intros) | (refine gon ?_; intros)))
  rw [hj1, wrapS (by omega)]
  exact hR (i + 1, j - 1, _) _ _ ⟨rfl, rfl, by simp; omega, by simp; omega, hs5⟩ (by simp; omega)

theorem k274 {a b : Nat} (hn : Nm te v xs w) (hb : b ≤ xs.length) (hl : xs.length ≤ 1000000) (hab : a < b) (h50 : b - a < 50) (h : ∀ w' r, Ex w w' → w'.heap.size = w.heap.size → K (.bool r) w') :
    CK Pr 274 #[v, .int .i64 a, .int .i64 b] w K := by
  refine c274 ?_
  unfold t274
  (repeat (first | (refine go ?_; intros) | (refine gon ?_; intros)))
  rw [wrapS (by omega)]
  refine loop_n (α := Unit) (fun p τ w' => g τ 1 = .int .i64 (a + 1 : Nat) ∧ g τ 2 = .int .i64 0 ∧ w' = w) (fun _ => 0) () ⟨rfl, rfl, rfl⟩ ?_
  rintro _ τ w' R ⟨h1, h2, rfl⟩ hR
  rw [h2]
  (repeat (first | (refine go ?_; intros) | (refine gon ?_; intros)))
  unfold t274_5
  refine loop_n (α := Nat) (fun i τ1 w1 => g τ1 0 = .int .i64 i ∧ a < i ∧ i ≤ b ∧ Ex w' w1 ∧ w1.heap.size = w'.heap.size) (fun i => b - i) (a + 1) ⟨h1, by omega, by omega, .refl _ _ _, rfl⟩ ?_
  rintro i τ1 w1 R1 ⟨hi, hai, hib, e1, z1⟩ hR1
  rw [hi]
  refine dr_rule No [] fun w3 x3 z3 => ?_
  have n3 : Nm te v xs w3 := (hn.ex e1).ex x3
  have ex3 : Ex w' w3 := e1.trans x3
  have fin : t274_4 = t274_4 := rfl
  have hd : IntKind.i64.wrap ((b : Int) - a) = ((b - a : Nat) : Int) := by rw [wrap64 (by omega) (by omega)]; omega
  by_cases hlt : (i : Int) < b
  · obtain ⟨x, hx⟩ := get_of (xs := xs) (j := i) (by omega)
    obtain ⟨y, hy⟩ := get_of (xs := xs) (j := i - 1) (by omega)
    have hj1 : IntKind.i64.wrap ((i : Int) - 1) = ((i - 1 : Nat) : Int) := by rw [wrap64 (by omega) (by omega)]; omega
    (repeat (first | (refine go ?_; intros) | (refine gon ?_; intros)))
    rw [decide_eq_true hlt]
    (repeat (first | (refine go ?_; intros) | (refine gon ?_; intros)))
    refine q_ixN i n3 rfl (by omega) ?_
    (repeat (first | (refine go ?_; intros) | (refine gon ?_; intros)))
    refine q_ldNE (t := 22) n3 hx ?_
    (repeat (first | (refine go ?_; intros) | (refine gon ?_; intros)))
    rw [hj1]
    refine q_ixN (i - 1) n3 rfl (by omega) ?_
    (repeat (first | (refine go ?_; intros) | (refine gon ?_; intros)))
    refine q_ldNE (t := 22) n3 hy ?_
    (repeat (first | (refine go ?_; intros) | (refine gon ?_; intros)))
    refine cl_fn (k275 ⟨.refl _ _ _, ?_⟩)
    (repeat (first | (refine go ?_; intros) | (refine gon ?_; intros)))
    refine if_split (fun hxy => ?_) (fun hxy => ?_)
    · (repeat (first | (refine go ?_; intros) | (refine gon ?_; intros)))
      rw [wrapS (by omega)]
      exact hR1 (i + 1) _ _ ⟨rfl, by omega, by omega, ex3, by omega⟩ (by omega)
    · unfold t274_4
      rw [hi]
      (repeat (first | (refine go ?_; intros) | (refine gon ?_; intros)))
      refine if_split (fun _ => h _ _ ex3 (by omega)) (fun _ => ?_)
      unfold t274_3
      (repeat (first | (refine go ?_; intros) | (refine gon ?_; intros)))
      rw [hd]
      refine if_split (fun _ => h _ _ ex3 (by omega)) (fun hc => ?_)
      have := of_decide_eq_false hc
      omega
  · (repeat (first | (refine go ?_; intros) | (refine gon ?_; intros)))
    rw [decide_eq_false hlt]
    (repeat (first | (refine go ?_; intros) | (refine gon ?_; intros)))
    unfold t274_4
    rw [hi]
    (repeat (first | (refine go ?_; intros) | (refine gon ?_; intros)))
    refine if_split (fun _ => h _ _ ex3 (by omega)) (fun hc => ?_)
    have := of_decide_eq_false hc
    omega

end Go.Proofs.YtmmpogfbhelioaaGreat
/-
  Contracts: the pattern defeating sort's partition.
  Conditions: each one's own.
-/
namespace Go.Proofs.YtmmpogfbhelioaaGreat
set_option maxRecDepth 10000
set_option linter.unusedVariables false
set_option linter.unusedSimpArgs false
attribute [local irreducible] Instr.box Instr.alloc Instr.loadAt Instr.storeAt Instr.fieldAt Instr.indexAt Instr.build Instr.buildSlice Instr.makeSlice Instr.makeMap Instr.mapUpdate Instr.lookup Instr.range Instr.next Instr.entry Instr.extract Instr.makeInterface Instr.makeFunc Instr.sliceAt Instr.typeAssert Instr.field Instr.index Builtin.len_ Builtin.cap_ Builtin.max_ Builtin.min_ Builtin.append_ Builtin.copy_ Builtin.delete_ convert binS pickS nilS callV callM Op.unary Own Mp It Cu

attribute [local irreducible] Nm

variable {K : Value → World → Prop} {w : World} {te : Nat} {v : Value} {xs : List Int}

theorem pt_1 {w0 w6 : World} {zs : List Int} {a b i j : Nat} {τ3 τ4 : List Value} {R3 : List Value → World → Prop} (hl : xs.length ≤ 1000000) (hb : b ≤ xs.length) (hs : So te v xs w0 w6 zs) (hai : a < i) (hib : i ≤ b + 1) (haj : a ≤ j) (hjb : j < b)
    (h : ∀ w' xs' (m : Nat) r, So te v xs w0 w' xs' → a ≤ m → m < b → K (.tuple #[.int .i64 (m : Nat), .bool r]) w')
    (hi4 : g τ4 0 = .int .i64 i) (hj3 : g τ3 1 = .int .i64 j)
    (hR : ∀ (i' j' : Nat) zs' τ w', g τ 0 = .int .i64 i' → g τ 1 = .int .i64 j' → i < i' → i' ≤ b + 1 → a ≤ j' → j' < b → So te v xs w0 w' zs' → R3 τ w') (q1 q2 q3 q4 q5 q6 q7 q8 q9 q10 q11 : Value) :
    t277_1 τ3 τ4 v (.int .i64 a) K R3 q1 q2 q3 q4 q5 q6 q7 q8 q9 q10 q11 w6 := by
  unfold t277_1
  have hzl := hs.len
  obtain ⟨za, hza⟩ := get_of (xs := zs) (j := a) (by omega)
  refine loop_n (α := Nat) (fun j' τ' w' => g τ' 0 = .int .i64 j' ∧ a ≤ j' ∧ j' < b ∧ So te v xs w0 w' zs) (fun j' => j') j ⟨hj3, by omega, by omega, hs⟩ ?_
  rintro j' τ5 w10 R5 ⟨hj5, haj5, hj5b, hs10⟩ hR5
  rw [hi4, hj5]
  refine dr_rule No [] fun w11 x11 z11 => ?_
  have hs11 := hs10.ex x11 z11
  obtain ⟨zj, hzj⟩ := get_of (xs := zs) (j := j') (by omega)
  by_cases hle : (i : Int) ≤ j'
  · obtain ⟨zi, hzi⟩ := get_of (xs := zs) (j := i) (by omega)
    have hj1 : IntKind.i64.wrap ((j' : Int) - 1) = ((j' - 1 : Nat) : Int) := by rw [wrap64 (by omega) (by omega)]; omega
    (repeat (first | (refine go ?_; intros) | (refine gon ?_; intros)))
    rw [decide_eq_true hle]
    (repeat (first | (refine go ?_; intros) | (refine gon ?_; intros)))
    (try simp only [hj1])
    refine q_ixN j' hs11.nm rfl (by omega) ?_
    (repeat (first | (refine go ?_; intros) | (refine gon ?_; intros)))
    refine q_ldNE (t := 22) hs11.nm hzj ?_
    (repeat (first | (refine go ?_; intros) | (refine gon ?_; intros)))
    (try simp only [hj1])
    refine q_ixN a hs11.nm rfl (by omega) ?_
    (repeat (first | (refine go ?_; intros) | (refine gon ?_; intros)))
    refine q_ldNE (t := 22) hs11.nm hza ?_
    (repeat (first | (refine go ?_; intros) | (refine gon ?_; intros)))
    refine cl_fn (k275 ⟨.refl _ _ _, ?_⟩)
    (repeat (first | (refine go ?_; intros) | (refine gon ?_; intros)))
    refine if_split (fun _ => ?_) (fun _ => ?_)
    · (repeat (first | (refine go ?_; intros) | (refine gon ?_; intros)))
      rw [hj1]
      exact hR5 (j' - 1) _ _ ⟨rfl, by omega, by omega, hs11⟩ (by omega)
    · (repeat (first | (refine go ?_; intros) | (refine gon ?_; intros)))
      refine if_split (fun hc => by have := of_decide_eq_true hc; omega) (fun _ => ?_)
      refine dr_top fun wA xA zA => ?_
      have hs11a := hs11.ex xA zA
      (repeat (first | (refine go ?_; intros) | (refine gon ?_; intros)))
      (try simp only [hj1])
      refine q_ixN j' hs11a.nm rfl (by omega) ?_
      refine q_ldNI (t := 22) hs11a.nm hzj ?_
      refine q_ixN i hs11a.nm rfl (by omega) ?_
      refine q_ldNI (t := 22) hs11a.nm hzi ?_
      refine q_ixN i hs11a.nm rfl (by omega) ?_
      refine u_stN hs11a.nm (by omega) fun wb ub nb zb => ⟨trivial, ?_⟩
      refine q_ixN j' hs11a.nm rfl (by omega) ?_
      refine u_stN nb (by simp; omega) fun wc uc nc zc => ⟨trivial, ?_⟩
      have hs12 := hs11a.trans (So.swap (w1 := wb) hzi hzj ub zb uc zc nc)
      (repeat (first | (refine go ?_; intros) | (refine gon ?_; intros)))
      rw [hj1, wrapS (by omega)]
      exact hR (i + 1) (j' - 1) _ _ _ rfl rfl (by omega) (by omega) (by omega) (by omega) hs12
  · (repeat (first | (refine go ?_; intros) | (refine gon ?_; intros)))
    rw [decide_eq_false hle]
    (repeat (first | (refine go ?_; intros) | (refine gon ?_; intros)))
    refine if_split (fun _ => ?_) (fun hc => by have := of_decide_eq_false hc; omega)
    refine dr_top fun wA xA zA => ?_
    have hs11a := hs11.ex xA zA
    (repeat (first | (refine go ?_; intros) | (refine gon ?_; intros)))
    (try simp only [hj1])
    refine q_ixN a hs11a.nm rfl (by omega) ?_
    refine q_ldNI (t := 22) hs11a.nm hza ?_
    refine q_ixN j' hs11a.nm rfl (by omega) ?_
    refine q_ldNI (t := 22) hs11a.nm hzj ?_
    refine q_ixN j' hs11a.nm rfl (by omega) ?_
    refine u_stN hs11a.nm (by omega) fun wb ub nb zb => ⟨trivial, ?_⟩
    refine q_ixN a hs11a.nm rfl (by omega) ?_
    refine u_stN nb (by simp; omega) fun wc uc nc zc => ⟨trivial, ?_⟩
    have hs12 := hs11a.trans (So.swap (w1 := wb) hzj hza ub zb uc zc nc)
    exact h _ _ j' false hs12 haj5 hj5b

theorem pt_2 {w0 w6 : World} {ys : List Int} {a b i j : Nat} {τ τ2 : List Value} (hl : xs.length ≤ 1000000) (hb : b ≤ xs.length) (hs : So te v xs w0 w6 ys) (hai : a < i) (hij : i ≤ j) (hjb : j < b)
    (h : ∀ w' xs' (m : Nat) r, So te v xs w0 w' xs' → a ≤ m → m < b → K (.tuple #[.int .i64 (m : Nat), .bool r]) w')
    (hi : g τ 0 = .int .i64 i) (hj : g τ2 0 = .int .i64 j) : t277_2 w6 v τ2 τ (.int .i64 a) K := by
  unfold t277_2
  rw [hi, hj]
  have hyl := hs.len
  obtain ⟨yj, hyj⟩ := get_of (xs := ys) (j := j) (by omega)
  obtain ⟨yi, hyi⟩ := get_of (xs := ys) (j := i) (by omega)
  have hj1 : IntKind.i64.wrap ((j : Int) - 1) = ((j - 1 : Nat) : Int) := by rw [wrap64 (by omega) (by omega)]; omega
  refine dr_top fun wA xA zA => ?_
  have hsa := hs.ex xA zA
  (repeat (first | (refine go ?_; intros) | (refine gon ?_; intros)))
  (try simp only [hj1])
  refine q_ixN j hsa.nm rfl (by omega) ?_
  refine q_ldNI (t := 22) hsa.nm hyj ?_
  refine q_ixN i hsa.nm rfl (by omega) ?_
  refine q_ldNI (t := 22) hsa.nm hyi ?_
  refine q_ixN i hsa.nm rfl (by omega) ?_
  refine u_stN hsa.nm (by omega) fun wb ub nb zb => ⟨trivial, ?_⟩
  refine q_ixN j hsa.nm rfl (by omega) ?_
  refine u_stN nb (by simp; omega) fun wc uc nc zc => ⟨trivial, ?_⟩
  have hs7 := hsa.trans (So.swap (w1 := wb) hyi hyj ub zb uc zc nc)
  (repeat (first | (refine go ?_; intros) | (refine gon ?_; intros)))
  rw [hj1, wrapS (by omega)]
  refine loop_n (α := Nat × Nat × List Int) (fun q τ' w' => g τ' 0 = .int .i64 (q.1 : Nat) ∧ g τ' 1 = .int .i64 (q.2.1 : Nat) ∧ a < q.1 ∧ q.1 ≤ b + 1 ∧ a ≤ q.2.1 ∧ q.2.1 < b ∧ So te v xs w0 w' q.2.2) (fun q => b + 2 - q.1) (i + 1, j - 1, _) ⟨rfl, rfl, by simp; omega, by simp; omega, by simp; omega, by simp; omega, hs7⟩ ?_
  clear hs7 hsa hyj hyi hs hi hj hij hjb hai hj1 hyl nb ub uc nc
  rintro ⟨i, j, zs⟩ τ3 w7 R3 ⟨hi3, hj3, ha3, hi3b, haj3, hj3b, hs⟩ hR3
  simp only at hi3 hj3 ha3 hi3b haj3 hj3b hs hR3
  have hzl := hs.len
  refine loop_n (α := Nat) (fun i' τ' w' => g τ' 0 = .int .i64 i' ∧ i ≤ i' ∧ i' ≤ b + 1 ∧ So te v xs w0 w' zs) (fun i' => b + 2 - i') i ⟨hi3, by omega, by omega, hs⟩ ?_
  rintro i' τ4 w8 R4 ⟨hi4, hii, hi4b, hs8⟩ hR4
  rw [hi4, hj3]
  refine dr_rule No [] fun w9 x9 z9 => ?_
  have hs9 := hs8.ex x9 z9
  obtain ⟨za, hza⟩ := get_of (xs := zs) (j := a) (by omega)
  by_cases hle : (i' : Int) ≤ j
  · obtain ⟨zi, hzi⟩ := get_of (xs := zs) (j := i') (by omega)
    have hj1 : True := trivial
    (repeat (first | (refine go ?_; intros) | (refine gon ?_; intros)))
    rw [decide_eq_true hle]
    (repeat (first | (refine go ?_; intros) | (refine gon ?_; intros)))
    (try simp only [hj1])
    refine q_ixN i' hs9.nm rfl (by omega) ?_
    (repeat (first | (refine go ?_; intros) | (refine gon ?_; intros)))
    refine q_ldNE (t := 22) hs9.nm hzi ?_
    (repeat (first | (refine go ?_; intros) | (refine gon ?_; intros)))
    (try simp only [hj1])
    refine q_ixN a hs9.nm rfl (by omega) ?_
    (repeat (first | (refine go ?_; intros) | (refine gon ?_; intros)))
    refine q_ldNE (t := 22) hs9.nm hza ?_
    (repeat (first | (refine go ?_; intros) | (refine gon ?_; intros)))
    refine cl_fn (k275 ⟨.refl _ _ _, ?_⟩)
    (repeat (first | (refine go ?_; intros) | (refine gon ?_; intros)))
    refine if_split (fun _ => ?_) (fun _ => ?_)
    · (repeat (first | (refine go ?_; intros) | (refine gon ?_; intros)))
      rw [wrapS (by omega)]
      exact hR4 (i' + 1) _ _ ⟨rfl, by omega, by omega, hs9⟩ (by omega)
    · exact pt_1 hl hb hs9 (by omega) hi4b haj3 hj3b h hi4 hj3 (fun i2 j2 zs' τ w' h1 h2 h3 h4 h5 h6 h7 => hR3 (i2, j2, zs') τ w' ⟨h1, h2, by simp; omega, h4, h5, h6, h7⟩ (by simp; omega)) _ _ _ _ _ _ _ _ _ _ _
  · (repeat (first | (refine go ?_; intros) | (refine gon ?_; intros)))
    rw [decide_eq_false hle]
    (repeat (first | (refine go ?_; intros) | (refine gon ?_; intros)))
    exact pt_1 hl hb hs9 (by omega) hi4b haj3 hj3b h hi4 hj3 (fun i2 j2 zs' τ w' h1 h2 h3 h4 h5 h6 h7 => hR3 (i2, j2, zs') τ w' ⟨h1, h2, by simp; omega, h4, h5, h6, h7⟩ (by simp; omega)) _ _ _ _ _ _ _ _ _ _ _

theorem pt_3 {w0 w6 : World} {ys : List Int} {a b i j : Nat} {τ τ2 : List Value} (hl : xs.length ≤ 1000000) (hb : b ≤ xs.length) (hs : So te v xs w0 w6 ys) (hai : a < i) (haj : a ≤ j) (hjb : j < b)
    (h : ∀ w' xs' (m : Nat) r, So te v xs w0 w' xs' → a ≤ m → m < b → K (.tuple #[.int .i64 (m : Nat), .bool r]) w')
    (hi : g τ 0 = .int .i64 i) (hj : g τ2 0 = .int .i64 j) : t277_3 w6 τ τ2 v (.int .i64 a) K := by
  unfold t277_3
  rw [hi, hj]
  have hyl := hs.len
  have hj1 : True := trivial
  obtain ⟨yj, hyj⟩ := get_of (xs := ys) (j := j) (by omega)
  obtain ⟨ya, hya⟩ := get_of (xs := ys) (j := a) (by omega)
  (repeat (first | (refine go ?_; intros) | (refine gon ?_; intros)))
  refine if_split (fun _ => ?_) (fun hgt => ?_)
  · refine dr_top fun wA xA zA => ?_
    have hsa := hs.ex xA zA
    (repeat (first | (refine go ?_; intros) | (refine gon ?_; intros)))
    (try simp only [hj1])
    refine q_ixN a hsa.nm rfl (by omega) ?_
    refine q_ldNI (t := 22) hsa.nm hya ?_
    refine q_ixN j hsa.nm rfl (by omega) ?_
    refine q_ldNI (t := 22) hsa.nm hyj ?_
    refine q_ixN j hsa.nm rfl (by omega) ?_
    refine u_stN hsa.nm (by omega) fun wb ub nb zb => ⟨trivial, ?_⟩
    refine q_ixN a hsa.nm rfl (by omega) ?_
    refine u_stN nb (by simp; omega) fun wc uc nc zc => ⟨trivial, ?_⟩
    have hs7 := hsa.trans (So.swap (w1 := wb) hyj hya ub zb uc zc nc)
    exact h _ _ j true hs7 haj hjb
  · have hgt := of_decide_eq_false hgt
    exact pt_2 hl hb hs hai (by omega) hjb h hi hj

theorem pt_4 {w0 w6 : World} {ys : List Int} {a b i j : Nat} {τ : List Value} (hl : xs.length ≤ 1000000) (hb : b ≤ xs.length) (hs : So te v xs w0 w6 ys) (hai : a < i) (haj : a ≤ j) (hjb : j < b)
    (h : ∀ w' xs' (m : Nat) r, So te v xs w0 w' xs' → a ≤ m → m < b → K (.tuple #[.int .i64 (m : Nat), .bool r]) w')
    (hi : g τ 0 = .int .i64 i) : t277_4 (.int .i64 j) τ v (.int .i64 a) K w6 := by
  unfold t277_4
  have hyl := hs.len
  obtain ⟨ya, hya⟩ := get_of (xs := ys) (j := a) (by omega)
  refine loop_n (α := Nat) (fun j τ' w' => g τ' 0 = .int .i64 j ∧ a ≤ j ∧ j < b ∧ So te v xs w0 w' ys) (fun j => j) j ⟨rfl, by omega, by omega, hs⟩ ?_
  clear haj hjb hs
  rintro j τ2 w4 R2 ⟨hj, haj, hjb, hs4⟩ hR2
  rw [hi, hj]
  refine dr_rule No [] fun w5 x5 z5 => ?_
  have hs5 := hs4.ex x5 z5
  by_cases hle : (i : Int) ≤ j
  · obtain ⟨yj, hyj⟩ := get_of (xs := ys) (j := j) (by omega)
    have hj1 : IntKind.i64.wrap ((j : Int) - 1) = ((j - 1 : Nat) : Int) := by rw [wrap64 (by omega) (by omega)]; omega
    (repeat (first | (refine go ?_; intros) | (refine gon ?_; intros)))
    rw [decide_eq_true hle]
    (repeat (first | (refine go ?_; intros) | (refine gon ?_; intros)))
    (try simp only [hj1])
    refine q_ixN j hs5.nm rfl (by omega) ?_
    (repeat (first | (refine go ?_; intros) | (refine gon ?_; intros)))
    refine q_ldNE (t := 22) hs5.nm hyj ?_
    (repeat (first | (refine go ?_; intros) | (refine gon ?_; intros)))
    (try simp only [hj1])
    refine q_ixN a hs5.nm rfl (by omega) ?_
    (repeat (first | (refine go ?_; intros) | (refine gon ?_; intros)))
    refine q_ldNE (t := 22) hs5.nm hya ?_
    (repeat (first | (refine go ?_; intros) | (refine gon ?_; intros)))
    refine cl_fn (k275 ⟨.refl _ _ _, ?_⟩)
    (repeat (first | (refine go ?_; intros) | (refine gon ?_; intros)))
    refine if_split (fun _ => ?_) (fun _ => ?_)
    · (repeat (first | (refine go ?_; intros) | (refine gon ?_; intros)))
      rw [hj1]
      exact hR2 (j - 1) _ _ ⟨rfl, by omega, by omega, hs5⟩ (by omega)
    · exact pt_3 hl hb hs5 hai haj hjb h hi hj
  · (repeat (first | (refine go ?_; intros) | (refine gon ?_; intros)))
    rw [decide_eq_false hle]
    (repeat (first | (refine go ?_; intros) | (refine gon ?_; intros)))
    exact pt_3 hl hb hs5 hai haj hjb h hi hj

theorem k277 {a b p : Nat} (hn : Nm te v xs w) (hb : b ≤ xs.length) (hl : xs.length ≤ 1000000) (hab : a < b) (hp : p < xs.length) (h : ∀ w' xs' (m : Nat) r, So te v xs w w' xs' → a ≤ m → m < b → K (.tuple #[.int .i64 (m : Nat), .bool r]) w') :
    CK Pr 277 #[v, .int .i64 a, .int .i64 b, .int .i64 p] w K := by
  refine c277 ?_
  unfold t277
  obtain ⟨xa, hxa⟩ := get_of (xs := xs) (j := a) (by omega)
  obtain ⟨xp, hxp⟩ := get_of hp
  have hs := So.refl hn
  have hj1 : IntKind.i64.wrap ((b : Int) - 1) = ((b - 1 : Nat) : Int) := by rw [wrap64 (by omega) (by omega)]; omega
  refine dr_top fun wA xA zA => ?_
  have hsa := hs.ex xA zA
  (repeat (first | (refine go ?_; intros) | (refine gon ?_; intros)))
  (try simp only [hj1])
  refine q_ixN p hsa.nm rfl (by omega) ?_
  refine q_ldNI (t := 22) hsa.nm hxp ?_
  refine q_ixN a hsa.nm rfl (by omega) ?_
  refine q_ldNI (t := 22) hsa.nm hxa ?_
  refine q_ixN a hsa.nm rfl (by omega) ?_
  refine u_stN hsa.nm (by omega) fun wb ub nb zb => ⟨trivial, ?_⟩
  refine q_ixN p hsa.nm rfl (by omega) ?_
  refine u_stN nb (by simp; omega) fun wc uc nc zc => ⟨trivial, ?_⟩
  have hs1 := hsa.trans (So.swap (w1 := wb) hxa hxp ub zb uc zc nc)
  (repeat (first | (refine go ?_; intros) | (refine gon ?_; intros)))
  rw [hj1, wrapS (by omega)]
  clear hs hsa nb nc
  generalize (xs.set a xp).set p xa = ys at hs1
  have hyl := hs1.len
  refine loop_n (α := Nat) (fun i τ w' => g τ 0 = .int .i64 i ∧ a < i ∧ i ≤ b ∧ So te v xs w w' ys) (fun i => b - i) (a + 1) ⟨rfl, by omega, by omega, hs1⟩ ?_
  clear hs1
  rintro i τ w1 R ⟨hi, hai, hib, hs⟩ hR
  rw [hi]
  refine dr_rule No [] fun w3 x3 z3 => ?_
  have hs3 := hs.ex x3 z3
  obtain ⟨ya, hya⟩ := get_of (xs := ys) (j := a) (by omega)
  by_cases hle : (i : Int) ≤ (b - 1 : Nat)
  · obtain ⟨yi, hyi⟩ := get_of (xs := ys) (j := i) (by omega)
    (repeat (first | (refine go ?_; intros) | (refine gon ?_; intros)))
    rw [decide_eq_true hle]
    (repeat (first | (refine go ?_; intros) | (refine gon ?_; intros)))
    (try simp only [hj1])
    refine q_ixN i hs3.nm rfl (by omega) ?_
    (repeat (first | (refine go ?_; intros) | (refine gon ?_; intros)))
    refine q_ldNE (t := 22) hs3.nm hyi ?_
    (repeat (first | (refine go ?_; intros) | (refine gon ?_; intros)))
    (try simp only [hj1])
    refine q_ixN a hs3.nm rfl (by omega) ?_
    (repeat (first | (refine go ?_; intros) | (refine gon ?_; intros)))
    refine q_ldNE (t := 22) hs3.nm hya ?_
    (repeat (first | (refine go ?_; intros) | (refine gon ?_; intros)))
    refine cl_fn (k275 ⟨.refl _ _ _, ?_⟩)
    (repeat (first | (refine go ?_; intros) | (refine gon ?_; intros)))
    refine if_split (fun _ => ?_) (fun _ => ?_)
    · (repeat (first | (refine go ?_; intros) | (refine gon ?_; intros)))
      rw [wrapS (by omega)]
      exact hR (i + 1) _ _ ⟨rfl, by omega, by omega, hs3⟩ (by omega)
    · exact pt_4 hl hb hs3 hai (by omega) (by omega) h hi
  · (repeat (first | (refine go ?_; intros) | (refine gon ?_; intros)))
    rw [decide_eq_false hle]
    (repeat (first | (refine go ?_; intros) | (refine gon ?_; intros)))
    exact pt_4 hl hb hs3 hai (by omega) (by omega) h hi

end Go.Proofs.YtmmpogfbhelioaaGreat
/-
  Contracts: the sort of at most 13 numbers.
  Conditions: each one's own.
-/
namespace Go.Proofs.YtmmpogfbhelioaaGreat
set_option maxRecDepth 10000
set_option linter.unusedVariables false
set_option linter.unusedSimpArgs false
attribute [local irreducible] Instr.box Instr.alloc Instr.loadAt Instr.storeAt Instr.fieldAt Instr.indexAt Instr.build Instr.buildSlice Instr.makeSlice Instr.makeMap Instr.mapUpdate Instr.lookup Instr.range Instr.next Instr.entry Instr.extract Instr.makeInterface Instr.makeFunc Instr.sliceAt Instr.typeAssert Instr.field Instr.index Builtin.len_ Builtin.cap_ Builtin.max_ Builtin.min_ Builtin.append_ Builtin.copy_ Builtin.delete_ convert binS pickS nilS callV callM Op.unary Own Mp It Cu

attribute [local irreducible] Nm

variable {K : Value → World → Prop} {w : World} {te : Nat} {v : Value} {xs : List Int}

theorem jo_id {α : Type} {R : α} {B : α → Prop} (h : B R) : Jo R B := h
theorem jo_rule {α : Type} {R : α} {B : α → Prop} (Q : α → Prop) (hR : Q R) (h : ∀ J, Q J → B J) : Jo R B := h R hR

theorem q_ixStr {P : Program} {S : World → Prop} {K : Value → Prop} {t : Nat} [hs : TUn P t .string] {s : ByteArray} {i : Int} {k : IntKind} {b : UInt8} (h0 : 0 ≤ i) (hb : s[i.toNat]? = some b) (kk : K (.int .u8 b.toNat)) : Qu P S (Instr.index t (.string s) (.int k i)) K :=
  .mk _ (fun w _ => by
    simp only [Instr.index, asIntOf, Sem.run_bind, Sem.run_pure, Result.andThen_ok, run_und hs.ok, if_pos h0, hb]) kk

theorem k208s {a b : Nat} {l : Int} (hn : Nm te v xs w) (hb : b ≤ xs.length) (hl : xs.length ≤ 1000000) (ha : a ≤ 1000000) (h12 : b ≤ a + 12) (h : ∀ w' xs', So te v xs w w' xs' → K (.tuple #[]) w') :
    CK Pr 208 #[v, .int .i64 a, .int .i64 b, .int .i64 l] w K := by
  refine c208 ?_
  unfold t208
  refine loop_n (α := Unit) (fun p τ w' => g τ 0 = .int .i64 a ∧ g τ 1 = .int .i64 b ∧ w' = w) (fun _ => 0) () ⟨rfl, rfl, rfl⟩ ?_
  rintro _ τ w' R ⟨h1, h2, rfl⟩ hR
  rw [h1, h2]
  refine jo_id ?_
  (repeat (first | (refine go ?_; intros) | (refine gon ?_; intros)))
  rw [wrap64 (by omega) (by omega)]
  refine if_split (fun _ => ?_) (fun hc => by have := of_decide_eq_false hc; omega)
  exact cl_fn (k269 hn hb hl ha h)

theorem Nm.lt (hn : Nm te v xs w) (h : xs ≠ []) : ∀ b, sb v b → b < w.heap.size := by
  unfold Nm at hn
  obtain ⟨a, c, rfl, hm, hc, hh⟩ := hn
  rcases hh with hh | ⟨b, o, cs, rfl, hb, _⟩
  · exact absurd hh h
  · intro x hx
    cases hx
    exact hb.lt

theorem So.lt {w' : World} {xs' : List Int} (h : So te v xs w w' xs') (hx : xs ≠ []) : ∀ b, sb v b → b < w'.heap.size :=
  h.nm.lt (by intro h0; have := h.len; rw [h0] at this; exact hx (List.eq_nil_of_length_eq_zero this.symm))

set_option maxHeartbeats 800000 in
theorem k208b {l : Int} (hn : Nm te v xs w) (hl : xs.length = 13) (hl0 : l ≠ 0) (h : ∀ w' xs', So te v xs w w' xs' → K (.tuple #[]) w') :
    CK Pr 208 #[v, .int .i64 0, .int .i64 13, .int .i64 l] w K := by
  refine c208 ?_
  unfold t208
  refine loop_n (α := Option (Nat × Nat × List Int)) (fun p τ w' => match p with
      | none => g τ 0 = .int .i64 0 ∧ g τ 1 = .int .i64 13 ∧ g τ 2 = .int .i64 l ∧ g τ 3 = .bool true ∧ g τ 4 = .bool true ∧ w' = w
      | some (a, b, ys) => g τ 0 = .int .i64 a ∧ g τ 1 = .int .i64 b ∧ b ≤ 13 ∧ a ≤ 13 ∧ b ≤ a + 12 ∧ So te v xs w w' ys) (fun p => match p with | none => 1 | some _ => 0) none ⟨rfl, rfl, rfl, rfl, rfl, rfl⟩ ?_
  intro p τ w' R hI hR
  have hne : xs ≠ [] := by intro h0; rw [h0] at hl; cases hl
  rcases p with _ | ⟨a, b, ys⟩
  · obtain ⟨h0, h1, h2, h3, h4, hw⟩ := hI
    refine jo_id ?_
    rw [h0, h1]
    (repeat (first | (refine go ?_; intros) | (refine gon ?_; intros)))
    unfold t208_5
    rw [h2]
    (repeat (first | (refine go ?_; intros) | (refine gon ?_; intros)))
    rw [show (l == 0) = false from by simpa using hl0]
    (repeat (first | (refine go ?_; intros) | (refine gon ?_; intros)))
    unfold t208_4
    rw [h3]
    (repeat (first | (refine go ?_; intros) | (refine gon ?_; intros)))
    refine jo_id ?_
    (repeat (first | (refine go ?_; intros) | (refine gon ?_; intros)))
    unfold t208_3
    rw [h0, h1]
    subst hw
    refine cl_fn (k272 hn hl (hn.lt hne) fun w1 r hint e1 hr hg => ?_)
    (repeat (first | (refine go ?_; intros) | (refine gon ?_; intros)))
    refine jo_rule (fun J => ∀ q1 q2 q3 q4 q5 q6 q7 q8 q9 q10 (p : Nat) (hint : Int) w2 ys, p < 13 → So te v xs w' w2 ys → J q1 q2 q3 q4 q5 q6 q7 q8 q9 q10 (.int .i64 p) (.int .i64 hint) w2) ?_ ?_
    rotate_left
    · intro J hJ
      have hs1 : So te v xs w' w1 xs := (So.refl hn).new e1
      refine if_split (fun _ => ?_) (fun _ => hJ _ _ _ _ _ _ _ _ _ _ _ _ _ _ hr hs1)
      refine cl_fn (k273 (a := 0) (b := 13) hs1.nm (by omega) (by omega) (by omega) fun w2 ys s2 => ?_)
      (repeat (first | (refine go ?_; intros) | (refine gon ?_; intros)))
      have hp : IntKind.i64.wrap (IntKind.i64.wrap (13 - 1) - IntKind.i64.wrap ((r : Int) - 0)) = ((12 - r : Nat) : Int) := by
        rw [show IntKind.i64.wrap (13 - 1) = 12 from rfl, wrap64 (n := (r : Int) - 0) (by omega) (by omega), wrap64 (by omega) (by omega)]
        omega
      rw [hp]
      exact hJ _ _ _ _ _ _ _ _ _ _ _ _ _ _ (by omega) (hs1.trans s2)
    · intro q1 q2 q3 q4 q5 q6 q7 q8 q9 q10 p hint w2 ys hp hs
      unfold t208_2
      rw [h3, h4]
      (repeat (first | (refine go ?_; intros) | (refine gon ?_; intros)))
      refine jo_rule (fun J => ∀ q1 q2 q3 q4 w2 ys, So te v xs w' w2 ys → J q1 q2 q3 q4 w2) ?_ ?_
      rotate_left
      · intro J hJ
        refine if_split (fun _ => ?_) (fun _ => hJ _ _ _ _ _ _ hs)
        rw [h0, h1]
        have hyl := hs.len
        refine cl_fn (k274 (a := 0) (b := 13) hs.nm (by omega) (by omega) (by omega) (by omega) fun w3 r e3 z3 => ?_)
        have hs3 := hs.ex e3 z3
        cases r
        · (repeat (first | (refine go ?_; intros) | (refine gon ?_; intros)))
          exact hJ _ _ _ _ _ _ hs3
        · (repeat (first | (refine go ?_; intros) | (refine gon ?_; intros)))
          exact h _ _ hs3
      · clear hs
        intro q1 q2 q3 q4 w2 ys hs
        have hyl := hs.len
        unfold t208_1
        refine dr_rule No [] fun w3 x3 z3 => ?_
        have hs3 := hs.ex x3 z3
        rw [h0, h1, h2]
        (repeat (first | (refine go ?_; intros) | (refine gon ?_; intros)))
        refine cl_fn (k277 (a := 0) (b := 13) hs3.nm (by omega) (by omega) (by omega) (by omega) fun w4 zs m r s4 hm1 hm2 => ?_)
        have hs4 := hs3.trans s4
        have hzl := hs4.len
        (repeat (first | (refine go ?_; intros) | (refine gon ?_; intros)))
        refine q_quo (by omega) ?_
        (repeat (first | (refine go ?_; intros) | (refine gon ?_; intros)))
        rw [wrap64 (n := (m : Int) - 0) (by omega) (by omega), wrap64 (n := 13 - (m : Int)) (by omega) (by omega)]
        refine jo_id ?_
        refine if_split (fun _ => ?_) (fun _ => ?_)
        · (repeat (first | (refine go ?_; intros) | (refine gon ?_; intros)))
          refine cl_fn (k208s (a := 0) (b := m) hs4.nm (by omega) (by omega) (by omega) (by omega) fun w5 us s5 => ?_)
          have hs5 := hs4.trans s5
          (repeat (first | (refine go ?_; intros) | (refine gon ?_; intros)))
          rw [wrapS (by omega)]
          exact hR (some (m + 1, 13, us)) _ _ ⟨rfl, rfl, by omega, by omega, by omega, hs5⟩ (by simp)
        · (repeat (first | (refine go ?_; intros) | (refine gon ?_; intros)))
          rw [wrapS (by omega)]
          refine cl_fn (k208s (a := m + 1) (b := 13) hs4.nm (by omega) (by omega) (by omega) (by omega) fun w5 us s5 => ?_)
          have hs5 := hs4.trans s5
          exact hR (some (0, m, us)) _ _ ⟨rfl, rfl, by omega, by omega, by omega, hs5⟩ (by simp)
  · obtain ⟨h0, h1, hb, ha, h12, hs⟩ := hI
    refine jo_id ?_
    rw [h0, h1]
    (repeat (first | (refine go ?_; intros) | (refine gon ?_; intros)))
    rw [wrap64 (by omega) (by omega)]
    have hyl := hs.len
    refine if_split (fun _ => ?_) (fun hc => by have := of_decide_eq_false hc; omega)
    exact cl_fn (k269 hs.nm (by omega) (by omega) (by omega) fun w2 zs s2 => h _ _ (hs.trans s2))

end Go.Proofs.YtmmpogfbhelioaaGreat
/-
  Contract: slices.Sort of at most 13 numbers: they stay, in some order.
  Conditions: each one's own.
-/
namespace Go.Proofs.YtmmpogfbhelioaaGreat
set_option maxRecDepth 10000
set_option linter.unusedVariables false
set_option linter.unusedSimpArgs false
attribute [local irreducible] Instr.box Instr.alloc Instr.loadAt Instr.storeAt Instr.fieldAt Instr.indexAt Instr.build Instr.buildSlice Instr.makeSlice Instr.makeMap Instr.mapUpdate Instr.lookup Instr.range Instr.next Instr.entry Instr.extract Instr.makeInterface Instr.makeFunc Instr.sliceAt Instr.typeAssert Instr.field Instr.index Builtin.len_ Builtin.cap_ Builtin.max_ Builtin.min_ Builtin.append_ Builtin.copy_ Builtin.delete_ convert binS pickS nilS callV callM Op.unary Own Mp It Cu

attribute [local irreducible] Nm

variable {K : Value → World → Prop} {w : World} {te : Nat} {v : Value} {xs : List Int}

instance tun305 : TUn Pr 305 (.int .u64) := ⟨by kernel_rfl⟩

set_option maxHeartbeats 1000000 in
theorem k279 {n : Nat} (hn : n ≤ 13) (h : ∀ l : Int, (n ≠ 0 → l ≠ 0) → K (.int .i64 l) w) : CK Pr 279 #[.int .u64 n] w K := by
  refine c279 ?_
  unfold t279
  unfold Jo
  have hc : n = 0 ∨ n = 1 ∨ n = 2 ∨ n = 3 ∨ n = 4 ∨ n = 5 ∨ n = 6 ∨ n = 7 ∨ n = 8 ∨ n = 9 ∨ n = 10 ∨ n = 11 ∨ n = 12 ∨ n = 13 := by omega
  rcases hc with rfl | rfl | rfl | rfl | rfl | rfl | rfl | rfl | rfl | rfl | rfl | rfl | rfl | rfl
  all_goals
    (repeat (first | (refine go ?_; intros) | (refine gon ?_; intros)))
    refine q_ixStr (by decide) rfl ?_
    (repeat (first | (refine go ?_; intros) | (refine gon ?_; intros)))
    exact h _ (by decide)

theorem k209 {n : Nat} (hn : n ≤ 13) (h : ∀ l : Int, (n ≠ 0 → l ≠ 0) → K (.int .i64 l) w) : CK Pr 209 #[.int .u64 n] w K := by
  refine c209 ?_
  unfold t209
  (repeat (first | (refine go ?_; intros) | (refine gon ?_; intros)))
  exact cl_fn (k279 hn h)

theorem k131 (hn : Nm te v xs w) (hl : xs.length ≤ 13) (h : ∀ w' xs', So te v xs w w' xs' → K (.tuple #[]) w') : CK Pr 131 #[v] w K := by
  refine c131 ?_
  unfold t131
  refine q_lenSl hn.sl ?_
  rw [show (nums xs).length = xs.length by simp [nums]]
  (repeat (first | (refine go ?_; intros) | (refine gon ?_; intros)))
  rw [wrapU (by omega) (by omega)]
  refine cl_fn (k209 hl fun l hl0 => ?_)
  by_cases h13 : xs.length = 13
  · rw [h13]
    exact cl_fn (k208b hn h13 (hl0 (by omega)) h)
  · exact cl_fn (k208s (a := 0) (b := xs.length) hn (by omega) (by omega) (by omega) (by omega) h)

end Go.Proofs.YtmmpogfbhelioaaGreat
/-
  Contracts: sorting of at most 12 numbers leaves them in order.
  Conditions: at most 12 numbers.
-/
namespace Go.Proofs.YtmmpogfbhelioaaGreat
set_option maxRecDepth 10000
set_option linter.unusedVariables false
set_option linter.unusedSimpArgs false
attribute [local irreducible] Instr.box Instr.alloc Instr.loadAt Instr.storeAt Instr.fieldAt Instr.indexAt Instr.build Instr.buildSlice Instr.makeSlice Instr.makeMap Instr.mapUpdate Instr.lookup Instr.range Instr.next Instr.entry Instr.extract Instr.makeInterface Instr.makeFunc Instr.sliceAt Instr.typeAssert Instr.field Instr.index Builtin.len_ Builtin.cap_ Builtin.max_ Builtin.min_ Builtin.append_ Builtin.copy_ Builtin.delete_ convert binS pickS nilS callV callM Op.unary Own Mp It Cu

attribute [local irreducible] Nm

variable {K : Value → World → Prop} {w : World} {te : Nat} {v : Value} {xs : List Int}

/-- The first n numbers are in order. -/
def OrdP (n : Nat) (xs : List Int) : Prop := ∀ (p q : Nat) (x y : Int), p < q → q < n → xs[p]? = some x → xs[q]? = some y → x ≤ y
/-- So they are, but for the one at j against those ahead of it. -/
def Ord (n j : Nat) (xs : List Int) : Prop := ∀ (p q : Nat) (x y : Int), p < q → q < n → q ≠ j → xs[p]? = some x → xs[q]? = some y → x ≤ y

theorem ord_swap {n j : Nat} {zs : List Int} {x y : Int} (hx : zs[j]? = some x) (hy : zs[j - 1]? = some y) (hj : 0 < j) (hjn : j < n) (hxy : x < y) (h : Ord n j zs) : Ord n (j - 1) ((zs.set (j - 1) x).set j y) := by
  have hl1 : j < zs.length := (List.getElem?_eq_some_iff.1 hx).1
  have key : ∀ k, ((zs.set (j - 1) x).set j y)[k]? = if k = j then some y else if k = j - 1 then some x else zs[k]? := by
    intro k
    rw [List.getElem?_set, List.getElem?_set, List.length_set]
    by_cases h1 : k = j
    · subst h1
      simp [hl1]
    · by_cases h2 : k = j - 1
      · subst h2
        have : j - 1 < zs.length := by omega
        simp [h1, this, Ne.symm h1]
      · simp [h1, h2, Ne.symm h1, Ne.symm h2]
  intro p q a b hpq hqn hqj ha hb
  rw [key] at ha hb
  by_cases q1 : q = j
  · rw [if_pos q1] at hb
    cases hb
    rw [if_neg (by omega)] at ha
    by_cases p1 : p = j - 1
    · rw [if_pos p1] at ha
      cases ha
      omega
    · rw [if_neg p1] at ha
      exact h p (j - 1) a y (by omega) (by omega) (by omega) ha hy
  · rw [if_neg q1, if_neg hqj] at hb
    by_cases p1 : p = j
    · rw [if_pos p1] at ha
      cases ha
      exact h (j - 1) q y b (by omega) hqn q1 hy hb
    · rw [if_neg p1] at ha
      by_cases p2 : p = j - 1
      · rw [if_pos p2] at ha
        cases ha
        exact h j q x b (by omega) hqn q1 hx hb
      · rw [if_neg p2] at ha
        exact h p q a b hpq hqn q1 ha hb
theorem ord_stop {n j : Nat} {zs : List Int} {x y : Int} (hx : zs[j]? = some x) (hy : zs[j - 1]? = some y) (hj : 0 < j) (hjn : j < n) (hxy : y ≤ x) (h : Ord n j zs) : OrdP n zs := by
  intro p q a b hpq hqn ha hb
  by_cases q1 : q = j
  · subst q1
    rw [hx] at hb
    cases hb
    by_cases p1 : p = q - 1
    · subst p1
      rw [hy] at ha
      cases ha
      exact hxy
    · have := h p (q - 1) a y (by omega) (by omega) (by omega) ha hy
      omega
  · exact h p q a b hpq hqn q1 ha hb

theorem k269o (hn : Nm te v xs w) (hl : xs.length ≤ 1000000) (h : ∀ w' xs', So te v xs w w' xs' → OrdP xs.length xs' → K (.tuple #[]) w') :
    CK Pr 269 #[v, .int .i64 0, .int .i64 (xs.length : Nat)] w K := by
  refine c269 ?_
  unfold t269
  (repeat (first | (refine go ?_; intros) | (refine gon ?_; intros)))
  refine loop_n (α := Nat × List Int) (fun p τ w' => g τ 0 = .int .i64 (p.1 : Nat) ∧ 0 < p.1 ∧ p.1 ≤ xs.length + 1 ∧ So te v xs w w' p.2 ∧ OrdP p.1 p.2) (fun p => xs.length + 2 - p.1) (1, xs) ⟨rfl, by simp, by simp, So.refl hn, fun p q x y hpq hq => by simp at hq; omega⟩ ?_
  rintro ⟨i, ys⟩ τ w' R ⟨hi, hai, hile, hs, hord⟩ hR
  simp only at hi hai hile hs hord hR
  rw [hi]
  (repeat (first | (refine go ?_; intros) | (refine gon ?_; intros)))
  refine if_split (fun hlt => ?_) (fun hlt => ?_)
  rotate_left 1
  · have hlt := of_decide_eq_false hlt
    refine h _ _ hs ?_
    intro p q x y hpq hq
    exact hord p q x y hpq (by omega)
  have hlt := of_decide_eq_true hlt
  have hib : i < xs.length := by omega
  have hord0 := hord
  refine loop_n (α := Nat × List Int) (fun p τ w' => g τ 0 = .int .i64 (p.1 : Nat) ∧ p.1 ≤ i ∧ So te v xs w w' p.2 ∧ Ord (i + 1) p.1 p.2) (fun p => p.1) (i, ys) ⟨rfl, by simp, hs, fun p q x y hpq hq hqi => hord0 p q x y hpq (by simp at hqi; omega)⟩ ?_
  rintro ⟨j, zs⟩ τ2 w2 R2 ⟨hj, hji, hs2, ho⟩ hR2
  simp only at hj hji hs2 ho hR2
  rw [hj]
  have hzl := hs2.len
  refine dr_rule No [] fun w3 x3 z3 => ?_
  have hs3 := hs2.ex x3 z3
  by_cases hja : (0 : Int) < j
  · obtain ⟨x, hx⟩ := get_of (xs := zs) (j := j) (by omega)
    obtain ⟨y, hy⟩ := get_of (xs := zs) (j := j - 1) (by omega)
    have hj1 : IntKind.i64.wrap ((j : Int) - 1) = ((j - 1 : Nat) : Int) := by rw [wrap64 (by omega) (by omega)]; omega
    (repeat (first | (refine go ?_; intros) | (refine gon ?_; intros)))
    rw [decide_eq_true hja]
    (repeat (first | (refine go ?_; intros) | (refine gon ?_; intros)))
    (try simp only [hj1])
    refine q_ixN j hs3.nm rfl (by omega) ?_
    (repeat (first | (refine go ?_; intros) | (refine gon ?_; intros)))
    refine q_ldNE (t := 22) hs3.nm hx ?_
    (repeat (first | (refine go ?_; intros) | (refine gon ?_; intros)))
    (try simp only [hj1])
    refine q_ixN (j - 1) hs3.nm rfl (by omega) ?_
    (repeat (first | (refine go ?_; intros) | (refine gon ?_; intros)))
    refine q_ldNE (t := 22) hs3.nm hy ?_
    (repeat (first | (refine go ?_; intros) | (refine gon ?_; intros)))
    refine cl_fn (k275 ⟨.refl _ _ _, ?_⟩)
    (repeat (first | (refine go ?_; intros) | (refine gon ?_; intros)))
    refine if_split (fun hxy => ?_) (fun hxy => ?_)
    · have hxy := of_decide_eq_true hxy
      refine dr_top fun wA xA zA => ?_
      have hs3a := hs3.ex xA zA
      (repeat (first | (refine go ?_; intros) | (refine gon ?_; intros)))
      (try simp only [hj1])
      refine q_ixN (j - 1) hs3a.nm rfl (by omega) ?_
      refine q_ldNI (t := 22) hs3a.nm hy ?_
      refine q_ixN j hs3a.nm rfl (by omega) ?_
      refine q_ldNI (t := 22) hs3a.nm hx ?_
      refine q_ixN j hs3a.nm rfl (by omega) ?_
      refine u_stN hs3a.nm (by omega) fun wb ub nb zb => ⟨trivial, ?_⟩
      refine q_ixN (j - 1) hs3a.nm rfl (by omega) ?_
      refine u_stN nb (by simp; omega) fun wc uc nc zc => ⟨trivial, ?_⟩
      have hs5 := hs3a.trans (So.swap (w1 := wb) hx hy ub zb uc zc nc)
      (repeat (first | (refine go ?_; intros) | (refine gon ?_; intros)))
      rw [hj1]
      exact hR2 (j - 1, _) _ _ ⟨rfl, by simp; omega, hs5, by
        show Ord _ _ ((zs.set j y).set (j - 1) x)
        rw [List.set_comm _ _ (by omega)]
        exact ord_swap hx hy (by omega) (by omega) hxy ho⟩ (by simp; omega)
    · have hxy := of_decide_eq_false hxy
      (repeat (first | (refine go ?_; intros) | (refine gon ?_; intros)))
      rw [wrapS (by omega)]
      exact hR (i + 1, zs) _ _ ⟨rfl, by simp, by simp; omega, hs3, ord_stop hx hy (by omega) (by omega) (by omega) ho⟩ (by simp; omega)
  · (repeat (first | (refine go ?_; intros) | (refine gon ?_; intros)))
    rw [decide_eq_false hja]
    (repeat (first | (refine go ?_; intros) | (refine gon ?_; intros)))
    rw [wrapS (by omega)]
    exact hR (i + 1, zs) _ _ ⟨rfl, by simp, by simp; omega, hs3, fun p q x y hpq hq => ho p q x y hpq hq (by simp; omega)⟩ (by simp; omega)

theorem k131o (hn : Nm te v xs w) (hl : xs.length ≤ 12) (h : ∀ w' xs', So te v xs w w' xs' → OrdP xs.length xs' → K (.tuple #[]) w') : CK Pr 131 #[v] w K := by
  refine c131 ?_
  unfold t131
  refine q_lenSl hn.sl ?_
  rw [show (nums xs).length = xs.length by simp [nums]]
  (repeat (first | (refine go ?_; intros) | (refine gon ?_; intros)))
  rw [wrapU (by omega) (by omega)]
  refine cl_fn (k209 (by omega) fun l hl0 => ?_)
  refine cl_fn ?_
  refine c208 ?_
  unfold t208
  refine loop_n (α := Unit) (fun p τ w' => g τ 0 = .int .i64 0 ∧ g τ 1 = .int .i64 (xs.length : Nat) ∧ w' = w) (fun _ => 0) () ⟨rfl, rfl, rfl⟩ ?_
  rintro _ τ w' R ⟨h1, h2, rfl⟩ hR
  rw [h1, h2]
  refine jo_id ?_
  (repeat (first | (refine go ?_; intros) | (refine gon ?_; intros)))
  rw [wrap64 (by omega) (by omega)]
  refine if_split (fun _ => ?_) (fun hc => by have := of_decide_eq_false hc; omega)
  exact cl_fn (k269o hn (by omega) h)

/-- Numbers in order are told by what they are. -/
theorem ord_eq : ∀ {xs ys : List Int}, xs.Perm ys → OrdP xs.length xs → OrdP ys.length ys → xs = ys
  | [], ys, hp, _, _ => (List.perm_nil.1 hp.symm).symm
  | x :: xs, [], hp, _, _ => by cases List.perm_nil.1 hp
  | x :: xs, y :: ys, hp, h1, h2 => by
    have hx : x ≤ y := by
      have hy : y ∈ x :: xs := hp.symm.mem_iff.1 (List.mem_cons_self ..)
      rcases List.mem_cons.1 hy with rfl | hy
      · exact Int.le_refl _
      · obtain ⟨j, hj⟩ := List.getElem?_of_mem hy
        have hjl : j < xs.length := (List.getElem?_eq_some_iff.1 hj).1
        exact h1 0 (j + 1) x y (by omega) (by simp; omega) rfl (by simpa using hj)
    have hy : y ≤ x := by
      have hx : x ∈ y :: ys := hp.mem_iff.1 (List.mem_cons_self ..)
      rcases List.mem_cons.1 hx with rfl | hx
      · exact Int.le_refl _
      · obtain ⟨j, hj⟩ := List.getElem?_of_mem hx
        have hjl : j < ys.length := (List.getElem?_eq_some_iff.1 hj).1
        exact h2 0 (j + 1) y x (by omega) (by simp; omega) rfl (by simpa using hj)
    have e : x = y := by omega
    subst e
    have := ord_eq (xs := xs) (ys := ys) (List.perm_cons x |>.1 hp) (fun p q a b hpq hq ha hb => h1 (p + 1) (q + 1) a b (by omega) (by simp; omega) (by simpa using ha) (by simpa using hb)) (fun p q a b hpq hq ha hb => h2 (p + 1) (q + 1) a b (by omega) (by simp; omega) (by simpa using ha) (by simpa using hb))
    rw [this]

end Go.Proofs.YtmmpogfbhelioaaGreat
