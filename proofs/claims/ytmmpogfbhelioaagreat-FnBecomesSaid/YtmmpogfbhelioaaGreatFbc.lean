/-
  PARTS: Da.
-/
import Derived.Test.YtmmpogfbhelioaaGreatFbb
/-
  The data of the program as Lean sees it: entries, configurations, snapshots, machines; plain ones and the package's.
  Conditions: none.
-/
namespace Go.Proofs.YtmmpogfbhelioaaGreat
set_option maxRecDepth 10000
set_option linter.unusedVariables false
set_option linter.unusedSimpArgs false

/-- Nothing that was there has turned. -/
theorem Up.no {C : Nat → Prop} {T : List Nat} {w w' : World} (h : Up C T w w') (hC : ∀ b, b < w.heap.size → ¬ C b) : Ex w w' :=
  ⟨h.size, h.os, h.tape, h.output, fun b o hb _ => h.keep b o hb (.inr (hC b hb.lt))⟩

/-- The kinds of blocks that a running machine turns: maps, iterators, raft, its log, the storage, a progress, its inflights. -/
abbrev MT : List Nat := [0, 1, 189, 198, 227, 154, 232]

/-- The types of the blocks in which data lies. -/
abbrev DT : List Nat := [215, 22, 233, 5, 200, 106, 108, 4]
/-- Kinds that are not those of data. -/
def okT (T : List Nat) : Bool := DT.all fun t => !T.contains (t + 2)
theorem okT.out {T : List Nat} (h : okT T = true) {t : Nat} (ht : DT.contains t = true) : T.contains (t + 2) = false := by
  have := List.all_eq_true.1 h t (List.contains_iff_mem.1 ht)
  simpa using this

/-- What stays while no block of data turns. -/
class StU (F : World → Prop) : Prop where up : ∀ (C : Nat → Prop) (T : List Nat) w w', okT T = true → Up C T w w' → F w → F w'
instance (priority := 50) {F : World → Prop} [h : StU F] : St F := ⟨fun w w' e f => h.up No [] w w' rfl e f⟩

theorem StU.and {F G : World → Prop} (f : StU F) (g : StU G) : StU fun w => F w ∧ G w := ⟨fun C T w w' o u h => ⟨f.up C T w w' o u h.1, g.up C T w w' o u h.2⟩⟩
theorem StU.ex {α : Sort _} {F : α → World → Prop} (f : ∀ a, StU (F a)) : StU fun w => ∃ a, F a w := ⟨fun C T w w' o u ⟨a, h⟩ => ⟨a, (f a).up C T w w' o u h⟩⟩
theorem StU.or {F G : World → Prop} (f : StU F) (g : StU G) : StU fun w => F w ∨ G w := ⟨fun C T w w' o u h => h.elim (fun h => .inl (f.up C T w w' o u h)) fun h => .inr (g.up C T w w' o u h)⟩
theorem StU.con {p : Prop} : StU fun _ => p := ⟨fun _ _ _ _ _ _ h => h⟩
theorem StU.bk {b : Nat} {cs : Array Value} {t : TypeId} {fz : Nat × Nat} (hT : DT.contains t = true) : StU fun w => Bk w b (.cells cs t fz) := ⟨fun _ _ _ _ o u h => u.at_ h (okT.out o hT)⟩
theorem StU.sl {e n : Nat} {v : Value} {xs : List (List Value)} (hT : DT.contains e = true) : StU fun w => Sl w (some e) n v xs := ⟨fun _ _ _ _ o u h => h.typ u (okT.out o hT)⟩
theorem StU.all {α : Type} {F : α → World → Prop} {l : List α} (f : ∀ a, StU (F a)) : StU fun w => ∀ a ∈ l, F a w := ⟨fun C T w w' o u h a ha => (f a).up C T w w' o u (h a ha)⟩

/-! Numbers. -/

theorem wrap64 {n : Int} (h0 : -9223372036854775808 ≤ n) (h1 : n ≤ 9223372036854775807) : IntKind.i64.wrap n = n := IntWalk.i64_in n ⟨h0, h1⟩
theorem wrapU {n : Int} (h0 : 0 ≤ n) (h1 : n ≤ 18446744073709551615) : IntKind.u64.wrap n = n := IntWalk.u64_in n ⟨h0, h1⟩
theorem wrapS {j : Nat} (h : j ≤ 9223372036854775806) : IntKind.i64.wrap ((j : Int) + 1) = ((j + 1 : Nat) : Int) := by
  rw [wrap64 (by omega) (by omega)]; rfl


def nums (l : List Int) : List (List Value) := l.map fun x => [.int .u64 x]
/-- A slice of the numbers l. -/
abbrev Nums (w : World) (te : Option Nat) (v : Value) (l : List Int) : Prop := Sl w te 1 v (nums l)

/-- A pointer to a number, or nil, which says 0. -/
def PN (t : Nat) (k : IntKind) (v : Value) (n : Int) (w : World) : Prop := (v = .pointer none ∧ n = 0) ∨ ∃ b, v = .pointer (some ⟨b, 0, none⟩) ∧ Bk w b (.cells #[.int k n] t (0, 0))
theorem PN.stU {t : Nat} {k : IntKind} {v : Value} {n : Int} (hT : DT.contains t = true) : StU (PN t k v n) := StU.or StU.con (StU.ex fun _ => StU.and StU.con (StU.bk hT))
def PBo (v : Value) (p : Bool) (w : World) : Prop := (v = .pointer none ∧ p = false) ∨ ∃ b, v = .pointer (some ⟨b, 0, none⟩) ∧ Bk w b (.cells #[.bool p] 4 (0, 0))
/-- A pointer to a number. -/
def PN1 (t : Nat) (k : IntKind) (v : Value) (n : Int) (w : World) : Prop := ∃ b, v = .pointer (some ⟨b, 0, none⟩) ∧ Bk w b (.cells #[.int k n] t (0, 0))
def PB1 (v : Value) (p : Bool) (w : World) : Prop := ∃ b, v = .pointer (some ⟨b, 0, none⟩) ∧ Bk w b (.cells #[.bool p] 4 (0, 0))
theorem PN1.stU {t : Nat} {k : IntKind} {v : Value} {n : Int} (hT : DT.contains t = true) : StU (PN1 t k v n) := StU.ex fun _ => StU.and StU.con (StU.bk hT)
theorem PB1.stU {v : Value} {p : Bool} : StU (PB1 v p) := StU.ex fun _ => StU.and StU.con (StU.bk rfl)
theorem PN1.one {t : Nat} {k : IntKind} {v : Value} {n : Int} {w : World} (h : PN1 t k v n w) : one v = true := by
  obtain ⟨b, rfl, _⟩ := h; rfl
theorem PB1.one {v : Value} {p : Bool} {w : World} (h : PB1 v p w) : one v = true := by
  obtain ⟨b, rfl, _⟩ := h; rfl
theorem PN.one {t : Nat} {k : IntKind} {v : Value} {n : Int} {w : World} (h : PN t k v n w) : one v = true := by
  rcases h with ⟨rfl, _⟩ | ⟨b, rfl, _⟩ <;> rfl
theorem PBo.one {v : Value} {p : Bool} {w : World} (h : PBo v p w) : one v = true := by
  rcases h with ⟨rfl, _⟩ | ⟨b, rfl, _⟩ <;> rfl

section
variable {P : Program} {K : Value → Prop} {S : World → Prop} {w : World} {te : Option Nat}
theorem q_ixs {t e t' : Nat} [TSli P t e 1] [TCell P t'] {v : Value} {xs : List (List Value)} {i : Int} {k : IntKind} (j : Nat) {x : Value} {K : Value → Value → Prop} (hv : Sl w te 1 v xs) (hi : i = j) (hx : xs[j]? = some [x])
    (kk : ∀ p, K p x) : Qu P S (Instr.indexAt t v (.int k i)) fun p => Qu P (Is w) (Instr.loadAt t' p) (K p) := q_ixS j hv (fun w' h => by cases h; exact hv) hi hx kk
theorem q_ixsE {t e t' : Nat} [TSli P t e 1] [TCell P t'] {v : Value} {xs : List (List Value)} {i : Int} {k : IntKind} (j : Nat) {x : Value} {K : Value → Value → Prop} (hv : Sl w te 1 v xs) (hi : i = j) (hx : xs[j]? = some [x])
    (kk : ∀ p, K p x) : Qu P S (Instr.indexAt t v (.int k i)) fun p => Qu P (Ex w) (Instr.loadAt t' p) (K p) := q_ixS j hv (fun _ h => hv.ex h) hi hx kk
theorem q_ixsU {C : Nat → Prop} {T : List Nat} {t e t' te' : Nat} [TSli P t e 1] [TCell P t'] {v : Value} {xs : List (List Value)} {i : Int} {k : IntKind} (j : Nat) {x : Value} {K : Value → Value → Prop} (hv : Sl w (some te') 1 v xs) (hT : T.contains (te' + 2) = false) (hi : i = j) (hx : xs[j]? = some [x])
    (kk : ∀ p, K p x) : Qu P S (Instr.indexAt t v (.int k i)) fun p => Qu P (Up C T w) (Instr.loadAt t' p) (K p) := q_ixS j hv (fun _ h => hv.typ h hT) hi hx kk
theorem q_ixa {t e n t' : Nat} [TSli P t e n] [TAgg P t' n] {v : Value} {xs : List (List Value)} {i : Int} {k : IntKind} (j : Nat) {x : List Value} {K : Value → Value → Prop} (hv : Sl w te n v xs) (hi : i = j) (hx : xs[j]? = some x)
    (kk : ∀ p, K p (.agg x.toArray)) : Qu P S (Instr.indexAt t v (.int k i)) fun p => Qu P (Is w) (Instr.loadAt t' p) (K p) := q_ixA j hv (fun w' h => by cases h; exact hv) hi hx kk
theorem q_ixf {t e n f off s t' : Nat} [TSli P t e n] [TFld P s f off] [TCell P t'] {v : Value} {xs : List (List Value)} {i : Int} {k : IntKind} (j : Nat) {x : List Value} {y : Value} {S' : World → Prop} {K : Value → Value → Value → Prop} (hv : Sl w te n v xs) (hi : i = j) (hx : xs[j]? = some x)
    (hy : x[off]? = some y) (kk : ∀ p q, K p q y) : Qu P S (Instr.indexAt t v (.int k i)) fun p => Qu P S' (Instr.fieldAt s p f) fun q => Qu P (Is w) (Instr.loadAt t' q) (K p q) := q_ixF j hv (fun w' h => by cases h; exact hv) hi hx hy kk
theorem Sl.cap {n : Nat} {a : Option Addr} {l c : Nat} {xs : List (List Value)} (h : Sl w te n (.slice a l c) xs) : l ≤ c := by
  cases h with
  | nil => exact Nat.zero_le _
  | row _ _ _ _ _ _ _ _ hc => exact hc

theorem Sl.pre {n : Nat} {a : Option Addr} {l c i : Nat} {xs : List (List Value)} (h : Sl w te n (.slice a l c) xs) (hi : i ≤ xs.length) : Sl w te n (.slice a i c) (xs.take i) := by
  cases h with
  | nil => simp at hi; subst hi; exact .nil _ _
  | row b o _ cs et fz _ hb hc hm hs hx hn ht =>
    have hl : (xs.take i).length = i := by simp; omega
    have hmul : i * n ≤ xs.length * n := Nat.mul_le_mul_right _ hi
    have := Sl.row (w := w) (te := te) b o c cs et fz (xs.take i) hb (by omega) (by omega) (by rw [hl]; omega) ?_ (fun x hx => hn x (List.mem_of_mem_take hx)) ht
    · rw [hl] at this; exact this
    · rw [hl]
      have h2 : (xs.flatten).take (i * n) = (xs.take i).flatten := by
        clear hx hs hm hc hb hl hmul
        induction i generalizing xs with
        | zero => simp
        | succ i ih =>
          cases xs with
          | nil => simp
          | cons x xs =>
            have hx := hn x (by simp)
            have := ih (by simpa using hi) (fun y hy => hn y (by simp [hy]))
            rw [List.take_succ_cons, List.flatten_cons, List.flatten_cons, ← this, Nat.add_mul, Nat.one_mul, Nat.add_comm, ← hx, List.take_length_add_append]
      rw [← h2, ← hx, List.take_take, Nat.min_eq_left hmul]

def tfcB (P : Program) (s f off : Nat) : Bool := match P.underlying s with
  | some (.struct fs) => (match fs[f]? with | some fd => Nat.beq fd.offset off && (match P.underlying fd.type with | some d => !isAggD d | none => false) | none => false)
  | _ => false
/-- Field f of struct s is one cell, at off. -/
class TFC (P : Program) (s f : Nat) (off : outParam Nat) : Prop where ok : tfcB P s f off = true
theorem q_field {s f off : Nat} [h : TFC P s f off] {cs : Array Value} {x : Value} (hx : cs[off]? = some x) (kk : K x) : Qu P S (Instr.field s (.agg cs) f) K := by
  have hk := h.ok
  unfold tfcB at hk
  split at hk
  · rename_i fs hfs
    split at hk
    · rename_i fd hfd
      simp only [Bool.and_eq_true] at hk
      obtain ⟨h1, h2⟩ := hk
      have h1 := Nat.eq_of_beq_eq_true h1
      split at h2
      · rename_i d hd
        have h2 : isAggD d = false := by simpa using h2
        refine .mk x (fun w _ => ?_) kk
        simp only [Instr.field, Sem.run_bind, run_und hfs, Result.andThen_ok, hfd, asAgg, Sem.run_pure, part, run_isAgg hd, h2, h1, hx]
        simp
      · cases h2
    · cases hk
  · cases hk
instance : TFC Pr 43 4 13 := ⟨by kernel_rfl⟩

/-- From place o on, block b's cells are x. -/
def Elt (w : World) (b o : Nat) (x : List Value) : Prop := ∃ cs et fz, Bk w b (.cells cs et fz) ∧ o + x.length ≤ cs.size ∧ (cs.extract o (o + x.length)).toList = x
theorem Elt.ex {w w' : World} {b o : Nat} {x : List Value} (u : Ex w w') (h : Elt w b o x) : Elt w' b o x := by
  obtain ⟨cs, et, fz, h1, h2⟩ := h
  exact ⟨cs, et, fz, u.at_ h1, h2⟩
theorem q_ix {t e n : Nat} [TSli P t e n] {v : Value} {xs : List (List Value)} {i : Int} {k : IntKind} (j : Nat) {x : List Value} (hv : Sl w te n v xs) (hi : i = j) (hx : xs[j]? = some x)
    (kk : ∀ b o, Elt w b o x → K (.pointer (some ⟨b, o, none⟩))) : Qu P S (Instr.indexAt t v (.int k i)) K := by
  have hj : j < xs.length := (List.getElem?_eq_some_iff.1 hx).1
  have hl := hv.eln x (List.mem_of_getElem? hx)
  obtain ⟨b, o, c, cs, et, fz, rfl, hb, hs, he⟩ := hv.get hx
  exact .mk _ (fun w' _ => run_indexAt hi hj) (kk _ _ ⟨cs, et, fz, hb, by omega, by rw [hl]; exact he⟩)
theorem run_ldE {t b o off : Nat} [TCell P t] {x : List Value} {y : Value} {w : World} (h : Elt w b o x) (hy : x[off]? = some y) : (Instr.loadAt t (.pointer (some ⟨b, o + off, none⟩))).run P w = .ok y w := by
  obtain ⟨cs, et, fz, hb, hs, he⟩ := h
  simp only [Instr.loadAt, Instr.sureAddr]
  refine run_loadVar_cell ?_
  rw [hb.cell]
  rw [← he, Array.toList_extract, List.extract_eq_take_drop, List.getElem?_take, List.getElem?_drop] at hy
  split at hy
  · simpa using hy
  · cases hy
theorem q_ldE {t b o off : Nat} [TCell P t] {x : List Value} {y : Value} (h : Elt w b o x) (hy : x[off]? = some y) (kk : K y) : Qu P (Is w) (Instr.loadAt t (.pointer (some ⟨b, o + off, none⟩))) K :=
  .mk y (fun w' hw => by cases hw; exact run_ldE h hy) kk
theorem q_ldEU {t b o off : Nat} [TCell P t] {x : List Value} {y : Value} (h : Elt w b o x) (hy : x[off]? = some y) (kk : K y) : Qu P (Ex w) (Instr.loadAt t (.pointer (some ⟨b, o + off, none⟩))) K :=
  .mk y (fun w' hw => run_ldE (h.ex hw) hy) kk

/-- A slice's beginning. -/
theorem q_slpre {t e n : Nat} [TSli P t e n] {v : Value} {xs : List (List Value)} {i : Int} {k : IntKind} (j : Nat) (hv : Sl w te n v xs) (hi : i = j) (hj : j ≤ xs.length) (kk : ∀ v', Sl w te n v' (xs.take j) → K v') :
    Qu P S (Instr.sliceAt t v none (some (.int k i)) none) K := by
  obtain ⟨a, c, rfl⟩ := hv.sh
  obtain ⟨inf, hu, hinf, hn, hn0⟩ := TSli.facts (P := P) t e n
  subst hi
  have hcap := hv.cap
  refine .mk (.slice a j c) (fun w' _ => ?_) (kk _ (hv.pre hj))
  have h1 : (0 : Int) ≤ j ∧ (j : Int) ≤ c := by omega
  have hm : a.map (fun x => x.add (0 * inf.size)) = a := by
    cases a with
    | none => rfl
    | some x => simp [Addr.add]
  simp only [Instr.sliceAt, Sem.run_bind, run_und hu, Result.andThen_ok, Instr.slice, Instr.sliceBounds, Instr.sliceBound, asIntOf, Sem.run_pure, if_pos h1, run_size hinf, Int.toNat_natCast, Nat.sub_zero]
  rw [hm]
  by_cases hc : c = 0 <;> simp [hc]

variable {KW : Value → Value → World → Prop}
/-- An element built and appended. -/
theorem e_push {t ty e n by' base : Nat} [TSli P t e n] [TElm P e n by'] {x v : Value} {xs : List (List Value)} (ho : Own w base e n x xs) (hv : v.cells.size = n) (hn : n ≤ 1000) (h1 : ∀ u ∈ v.cells.toList, one u = true)
    (hsz : (xs.length + 1) * by' ≤ 140737488355328) (hm : xs.length + 1 ≤ 140737488355328) (hbase : base ≤ w.heap.size)
    (k : ∀ s v' w', Up (fun b => x.ownBlock = some b) [e + 2] w w' → Own w' base e n v' (xs ++ [v.cells.toList]) → (∀ b, v'.ownBlock = some b → x.ownBlock = some b ∨ w.heap.size ≤ b) → w.heap.size ≤ w'.heap.size → KW s v' w') :
    Ef P (Instr.buildSlice t 1 #[(0, v)]) w fun s w' => Ef P (Builtin.append_ #[t, t] ty #[x, s]) w' (KW s) := by
  refine e_bs1 hv hn fun w1 e1 o1 z1 => ?_
  refine e_app (base := base) (ho.ex e1) o1.sl ?_ hsz hm (by omega) fun v' w2 u2 o2 hb z2 => ?_
  · intro y hy u hu
    rw [List.mem_singleton.1 hy] at hu
    exact h1 u hu
  · refine k _ _ _ ((Up.of_ex e1).trans u2) o2 (fun b hv' => ?_) (by omega)
    rcases hb with hb | hb
    · rw [hb] at hv'; exact .inl hv'
    · rw [hb] at hv'; cases hv'; right; omega
theorem e_push1 {t ty e by' base : Nat} [TSli P t e 1] [TElm P e 1 by'] {x v : Value} {xs : List (List Value)} (ho : Own w base e 1 x xs) (h1 : one v = true)
    (hsz : (xs.length + 1) * by' ≤ 140737488355328) (hm : xs.length + 1 ≤ 140737488355328) (hbase : base ≤ w.heap.size)
    (k : ∀ s v' w', Up (fun b => x.ownBlock = some b) [e + 2] w w' → Own w' base e 1 v' (xs ++ [[v]]) → (∀ b, v'.ownBlock = some b → x.ownBlock = some b ∨ w.heap.size ≤ b) → w.heap.size ≤ w'.heap.size → KW s v' w') :
    Ef P (Instr.buildSlice t 1 #[(0, v)]) w fun s w' => Ef P (Builtin.append_ #[t, t] ty #[x, s]) w' (KW s) := by
  have hc := one_cells' h1
  refine e_push ho (by rw [hc]; rfl) (by omega) (by rw [hc]; intro u hu; rw [List.mem_singleton.1 hu]; exact h1) hsz hm hbase ?_
  rw [hc]
  exact k
end

theorem take_snoc {α : Type} {l : List α} {j : Nat} {x : α} (h : l[j]? = some x) : l.take (j + 1) = l.take j ++ [x] := by
  rw [List.take_add_one, h]; rfl

/-! Entries. -/

structure En where
  t : Int
  i : Int
  k : Int
  d : ByteArray

def En.cells (e : En) : List Value := [.int .u64 e.t, .int .u64 e.i, .int .i64 e.k, .string e.d]
abbrev Ens (w : World) (te : Option Nat) (v : Value) (l : List En) : Prop := Sl w te 4 v (l.map En.cells)

/-- The package's entry: v points to e. -/
def PE (v : Value) (e : En) (w : World) : Prop :=
  ∃ b vt vi vk vd, v = .pointer (some ⟨b, 0, none⟩) ∧ Bk w b (.cells #[vt, vi, vk, vd] 215 (0, 0)) ∧ PN 22 .u64 vt e.t w ∧ PN 22 .u64 vi e.i w ∧ PN 233 .i32 vk e.k w ∧ Sl w (some 5) 1 vd (byteList e.d)
instance {v : Value} {e : En} : StU (PE v e) :=
  StU.ex fun _ => StU.ex fun _ => StU.ex fun _ => StU.ex fun _ => StU.ex fun _ => StU.and StU.con (StU.and (StU.bk rfl) (StU.and (PN.stU rfl) (StU.and (PN.stU rfl) (StU.and (PN.stU rfl) (StU.sl rfl)))))

/-- Lists of pointers to entries. -/
inductive PEs : List Value → List En → World → Prop where
  | nil (w : World) : PEs [] [] w
  | cons {v : Value} {e : En} {vs : List Value} {es : List En} {w : World} (h : PE v e w) (r : PEs vs es w) : PEs (v :: vs) (e :: es) w
instance {vs : List Value} {es : List En} : StU (PEs vs es) := ⟨fun C T w w' o u h => by
  induction h with
  | nil => exact .nil _
  | cons h r ih => exact .cons (StU.up (F := PE _ _) C T _ w' o u h) (ih u)⟩
theorem PEs.len {vs : List Value} {es : List En} {w : World} (h : PEs vs es w) : vs.length = es.length := by
  induction h with
  | nil => rfl
  | cons _ _ ih => simp [ih]
theorem PEs.get {vs : List Value} {es : List En} {w : World} (h : PEs vs es w) {i : Nat} {v : Value} (hv : vs[i]? = some v) : ∃ e, es[i]? = some e ∧ PE v e w := by
  induction h generalizing i with
  | nil => simp at hv
  | cons h r ih =>
    cases i with
    | zero => simp at hv; subst hv; exact ⟨_, rfl, h⟩
    | succ i => simpa using ih (by simpa using hv)
theorem PEs.app {vs us : List Value} {es fs : List En} {w : World} (h : PEs vs es w) (h' : PEs us fs w) : PEs (vs ++ us) (es ++ fs) w := by
  induction h with
  | nil => exact h'
  | cons h _ ih => exact .cons h (ih h')

def ones (l : List Value) : List (List Value) := l.map fun x => [x]

/-! Configurations and snapshots. -/

structure Cf where
  v : List Int
  l : List Int
  o : List Int
  n : List Int
  a : Bool

/-- The package's configuration. -/
def PC (v : Value) (c : Cf) (w : World) : Prop :=
  ∃ b v1 v2 v3 v4 v5, v = .pointer (some ⟨b, 0, none⟩) ∧ Bk w b (.cells #[v1, v2, v3, v4, v5] 200 (0, 0)) ∧ Nums w (some 22) v1 c.v ∧ Nums w (some 22) v2 c.l ∧ Nums w (some 22) v3 c.o ∧ Nums w (some 22) v4 c.n ∧ PB1 v5 c.a w
theorem PBo.stU {v : Value} {p : Bool} : StU (PBo v p) := StU.or StU.con (StU.ex fun _ => StU.and StU.con (StU.bk rfl))
instance {v : Value} {c : Cf} : StU (PC v c) :=
  StU.ex fun _ => StU.ex fun _ => StU.ex fun _ => StU.ex fun _ => StU.ex fun _ => StU.ex fun _ => StU.and StU.con (StU.and (StU.bk rfl) (StU.and (StU.sl rfl) (StU.and (StU.sl rfl) (StU.and (StU.sl rfl) (StU.and (StU.sl rfl) PB1.stU)))))

/-- The package's metadata of a snapshot. -/
def PM (v : Value) (i t : Int) (c : Cf) (w : World) : Prop :=
  ∃ b v1 v2 v3, v = .pointer (some ⟨b, 0, none⟩) ∧ Bk w b (.cells #[v1, v2, v3] 106 (0, 0)) ∧ PC v1 c w ∧ PN1 22 .u64 v2 i w ∧ PN1 22 .u64 v3 t w
instance {v : Value} {i t : Int} {c : Cf} : StU (PM v i t c) :=
  StU.ex fun _ => StU.ex fun _ => StU.ex fun _ => StU.ex fun _ => StU.and StU.con (StU.and (StU.bk rfl) (StU.and inferInstance (StU.and (PN1.stU rfl) (PN1.stU rfl))))

structure Sn where
  d : ByteArray
  i : Int
  t : Int
  c : Cf

/-- The package's snapshot. -/
def PS (v : Value) (s : Sn) (w : World) : Prop :=
  ∃ b v1 v2, v = .pointer (some ⟨b, 0, none⟩) ∧ Bk w b (.cells #[v1, v2] 108 (0, 0)) ∧ Sl w (some 5) 1 v1 (byteList s.d) ∧ PM v2 s.i s.t s.c w
instance {v : Value} {s : Sn} : StU (PS v s) :=
  StU.ex fun _ => StU.ex fun _ => StU.ex fun _ => StU.and StU.con (StU.and (StU.bk rfl) (StU.and (StU.sl rfl) inferInstance))

theorem PE.one {v : Value} {e : En} {w : World} (h : PE v e w) : one v = true := by obtain ⟨b, _, _, _, _, rfl, _⟩ := h; rfl
theorem PC.one {v : Value} {c : Cf} {w : World} (h : PC v c w) : one v = true := by obtain ⟨b, _, _, _, _, _, rfl, _⟩ := h; rfl
theorem PM.one {v : Value} {i t : Int} {c : Cf} {w : World} (h : PM v i t c w) : one v = true := by obtain ⟨b, _, _, _, rfl, _⟩ := h; rfl
theorem PS.one {v : Value} {s : Sn} {w : World} (h : PS v s w) : one v = true := by obtain ⟨b, _, _, rfl, _⟩ := h; rfl

section
variable {C : Nat → Prop} {T : List Nat} {w w' : World}
theorem PN.mt {t : Nat} {k : IntKind} {v : Value} {n : Int} (hT : T.contains (t + 2) = false) (u : Up C T w w') (h : PN t k v n w) : PN t k v n w' := h.imp id fun ⟨b, h1, h2⟩ => ⟨b, h1, u.at_ h2 hT⟩
theorem PN.ex {t : Nat} {k : IntKind} {v : Value} {n : Int} (u : Ex w w') (h : PN t k v n w) : PN t k v n w' := h.imp id fun ⟨b, h1, h2⟩ => ⟨b, h1, u.at_ h2⟩
instance {v : Value} {p : Bool} : StU (PBo v p) := PBo.stU
theorem PN1.mt {t : Nat} {k : IntKind} {v : Value} {n : Int} (hT : T.contains (t + 2) = false) (u : Up C T w w') : PN1 t k v n w → PN1 t k v n w' := fun ⟨b, h1, h2⟩ => ⟨b, h1, u.at_ h2 hT⟩
theorem PN1.ex {t : Nat} {k : IntKind} {v : Value} {n : Int} (u : Ex w w') : PN1 t k v n w → PN1 t k v n w' := fun ⟨b, h1, h2⟩ => ⟨b, h1, u.at_ h2⟩
instance {v : Value} {p : Bool} : StU (PB1 v p) := PB1.stU
theorem PB1.mt {v : Value} {p : Bool} (o : okT T = true) (u : Up C T w w') (h : PB1 v p w) : PB1 v p w' := StU.up (F := PB1 v p) C T w w' o u h
theorem PB1.ex {v : Value} {p : Bool} (u : Ex w w') (h : PB1 v p w) : PB1 v p w' := St.ex (F := PB1 v p) w w' u h
theorem PBo.mt {v : Value} {p : Bool} (o : okT T = true) (u : Up C T w w') (h : PBo v p w) : PBo v p w' := StU.up (F := PBo v p) C T w w' o u h
theorem PBo.ex {v : Value} {p : Bool} (u : Ex w w') (h : PBo v p w) : PBo v p w' := St.ex (F := PBo v p) w w' u h
theorem PE.mt {v : Value} {e : En} (o : okT T = true) (u : Up C T w w') (h : PE v e w) : PE v e w' := StU.up (F := PE v e) C T w w' o u h
theorem PE.ex {v : Value} {e : En} (u : Ex w w') (h : PE v e w) : PE v e w' := St.ex (F := PE v e) w w' u h
theorem PEs.mt {vs : List Value} {es : List En} (o : okT T = true) (u : Up C T w w') (h : PEs vs es w) : PEs vs es w' := StU.up (F := PEs vs es) C T w w' o u h
theorem PEs.ex {vs : List Value} {es : List En} (u : Ex w w') (h : PEs vs es w) : PEs vs es w' := St.ex (F := PEs vs es) w w' u h
theorem PC.mt {v : Value} {c : Cf} (o : okT T = true) (u : Up C T w w') (h : PC v c w) : PC v c w' := StU.up (F := PC v c) C T w w' o u h
theorem PC.ex {v : Value} {c : Cf} (u : Ex w w') (h : PC v c w) : PC v c w' := St.ex (F := PC v c) w w' u h
theorem PM.mt {v : Value} {i t : Int} {c : Cf} (o : okT T = true) (u : Up C T w w') (h : PM v i t c w) : PM v i t c w' := StU.up (F := PM v i t c) C T w w' o u h
theorem PM.ex {v : Value} {i t : Int} {c : Cf} (u : Ex w w') (h : PM v i t c w) : PM v i t c w' := St.ex (F := PM v i t c) w w' u h
theorem PS.mt {v : Value} {s : Sn} (o : okT T = true) (u : Up C T w w') (h : PS v s w) : PS v s w' := StU.up (F := PS v s) C T w w' o u h
theorem PS.ex {v : Value} {s : Sn} (u : Ex w w') (h : PS v s w) : PS v s w' := St.ex (F := PS v s) w w' u h
end

end Go.Proofs.YtmmpogfbhelioaaGreat
