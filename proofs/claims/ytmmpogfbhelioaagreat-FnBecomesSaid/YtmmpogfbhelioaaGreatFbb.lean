/-
  PARTS: Ru2 Ru3 Ru4 Ru5 Pr Ty Bd Gt.
-/
import Derived.Test.YtmmpogfbhelioaaGreatFba
import Derived.Maps.AppendAt
import Derived.Laws.OwnMore
import Derived.Laws.IdiomStrings
import Derived.Laws.CopyRow
import Derived.Laws.BytesArg
import Derived.Laws.Strings
import Derived.Maps.RangeRun
import Derived.Test.YtmmpogfbhelioaaGreatProg
/-
  The rules for slices, strings and bytes: a slice's view, a slice that is owned, append, make, copy.
  Conditions: each rule's own.
-/
namespace Go.Proofs.YtmmpogfbhelioaaGreat
set_option maxRecDepth 10000
set_option linter.unusedVariables false
set_option linter.unusedSimpArgs false

def telmB (P : Program) (e n by' : Nat) : Bool := match P.info? e with
  | some i => (match i.zero with | some z => Nat.beq i.size n && Nat.beq i.bytes by' && Nat.beq z.cells.size n && Nat.blt 0 n | none => false)
  | none => false
/-- An element of n cells and so many bytes. -/
class TElm (P : Program) (e : TypeId) (n by' : outParam Nat) : Prop where ok : telmB P e n by' = true

theorem TElm.facts {P : Program} (e n by' : Nat) [h : TElm P e n by'] : ∃ i z, P.info? e = some i ∧ i.zero = some z ∧ i.size = n ∧ i.bytes = by' ∧ z.cells.size = n ∧ 0 < n := by
  have := h.ok
  unfold telmB at this
  split at this
  · rename_i i hi
    split at this
    · rename_i z hz
      simp only [Bool.and_eq_true] at this
      obtain ⟨⟨⟨h1, h2⟩, h3⟩, h4⟩ := this
      exact ⟨i, z, hi, hz, Nat.eq_of_beq_eq_true h1, Nat.eq_of_beq_eq_true h2, Nat.eq_of_beq_eq_true h3, Nat.le_of_ble_eq_true h4⟩
    · cases this
  · cases this

/-! A slice's view. -/

variable {te : Option Nat}


/-- A slice value of a list: its first elements, each of n cells, are the list's. -/
inductive Sl (w : World) (te : Option Nat) (n : Nat) : Value → List (List Value) → Prop where
  | nil (a : Option Addr) (c : Nat) : Sl w te n (.slice a 0 c) []
  | row (b o c : Nat) (cs : Array Value) (et : TypeId) (fz : Nat × Nat) (xs : List (List Value)) (hb : Bk w b (.cells cs et fz)) (hc : xs.length ≤ c) (hm : xs.length ≤ maxLen) (hs : o + xs.length * n ≤ cs.size) (hx : (cs.toList.drop o).take (xs.length * n) = xs.flatten)
      (hn : ∀ x ∈ xs, x.length = n) (ht : ∀ t, te = some t → et = t) : Sl w te n (.slice (some ⟨b, o, none⟩) xs.length c) xs

theorem Sl.sh {w : World} {n : Nat} {v : Value} {xs : List (List Value)} (h : Sl w te n v xs) : ∃ a c, v = .slice a xs.length c := by
  cases h with
  | nil a c => exact ⟨a, c, rfl⟩
  | row b o c => exact ⟨_, c, rfl⟩

theorem Sl.le {w : World} {n : Nat} {v : Value} {xs : List (List Value)} (h : Sl w te n v xs) : xs.length ≤ 9223372036854775807 := by
  cases h with
  | nil => exact Nat.zero_le _
  | row _ _ _ _ _ _ _ _ _ hm _ _ _ _ => exact hm

theorem Sl.len {w : World} {n : Nat} {a : Option Addr} {l c : Nat} {xs : List (List Value)} (h : Sl w te n (.slice a l c) xs) : l = xs.length := by
  cases h <;> rfl

theorem Sl.eln {w : World} {n : Nat} {v : Value} {xs : List (List Value)} (h : Sl w te n v xs) : ∀ x ∈ xs, x.length = n := by
  cases h with
  | nil => intro x hx; cases hx
  | row _ _ _ _ _ _ _ _ _ _ _ _ hn _ => exact hn

theorem Sl.ex {w w' : World} {n : Nat} {v : Value} {xs : List (List Value)} (e : Ex w w') (h : Sl w te n v xs) : Sl w' te n v xs := by
  cases h with
  | nil a c => exact .nil a c
  | row b o c cs et fz _ hb hc hm hs hx hn ht => exact .row b o c cs et fz _ (e.at_ hb) hc hm hs hx hn ht

/-- The blocks that a value's view rests on. -/
def Value.blk : Value → Nat → Prop
  | .slice (some a) _ _, b => a.block = b
  | .pointer (some a), b => a.block = b
  | _, _ => False

/-- What stays as the world grows. -/
class St (F : World → Prop) : Prop where ex : ∀ w w', Ex w w' → F w → F w'
theorem St.lift {F : World → Prop} [h : St F] {w w' : World} (e : Ex w w') (f : F w) : F w' := h.ex w w' e f
instance {b : Nat} {o : Obj} : St (fun w => Bk w b o) := ⟨fun _ _ e h => e.at_ h⟩
instance {n : Nat} {v : Value} {xs : List (List Value)} : St (fun w => Sl w te n v xs) := ⟨fun _ _ e h => h.ex e⟩
theorem Sl.any {w : World} {n : Nat} {v : Value} {xs : List (List Value)} (h : Sl w te n v xs) : Sl w none n v xs := by
  cases h with
  | nil a c => exact .nil a c
  | row b o c cs et fz _ hb hc hm hs hx hn ht => exact .row b o c cs et fz _ hb hc hm hs hx hn (fun t h => by cases h)
/-- A slice of a known type, where only other types turn. -/
theorem Sl.typ {C : Nat → Prop} {T : List Nat} {w w' : World} {e n : Nat} {v : Value} {xs : List (List Value)} (u : Up C T w w') (h : Sl w (some e) n v xs) (hT : T.contains (e + 2) = false) : Sl w' (some e) n v xs := by
  cases h with
  | nil a c => exact .nil a c
  | row b o c cs et fz _ hb hc hm hs hx hn ht =>
    have := ht e rfl
    subst this
    exact .row b o c cs et fz _ (u.at_ hb hT) hc hm hs hx hn ht
theorem Sl.one {w : World} {n : Nat} {v : Value} {xs : List (List Value)} (h : Sl w te n v xs) : one v = true := by
  obtain ⟨a, c, rfl⟩ := h.sh
  rfl

theorem Sl.up {C : Nat → Prop} {T : List Nat} {w w' : World} {n : Nat} {v : Value} {xs : List (List Value)} (e : Up C T w w') (h : Sl w te n v xs) (hc : ∀ b, Value.blk v b → ¬ C b) : Sl w' te n v xs := by
  cases h with
  | nil a c => exact .nil a c
  | row b o c cs et fz _ hb hc' hm hs hx hn ht => exact .row b o c cs et fz _ (e.off hb (hc b rfl)) hc' hm hs hx hn ht

theorem flat_get : ∀ (xs : List (List Value)) (n : Nat), (∀ x ∈ xs, x.length = n) → ∀ (i : Nat) (x : List Value), xs[i]? = some x → (xs.flatten.drop (i * n)).take n = x
  | [], _, _, i, x, h => by simp at h
  | y :: ys, n, hn, 0, x, h => by
    simp only [List.getElem?_cons_zero, Option.some.injEq] at h
    subst h
    have := hn y (by simp)
    rw [← this]
    simp
  | y :: ys, n, hn, i + 1, x, h => by
    simp only [List.getElem?_cons_succ] at h
    have hy := hn y (by simp)
    rw [List.flatten_cons, Nat.add_mul, Nat.one_mul, Nat.add_comm, ← List.drop_drop, List.drop_append]
    simp only [hy, Nat.sub_self, List.drop_zero]
    rw [show List.drop n y = [] by rw [← hy]; simp, List.nil_append]
    exact flat_get ys n (fun z hz => hn z (by simp [hz])) i x h

theorem Sl.cells {w : World} {n b o l c : Nat} {xs : List (List Value)} (h : Sl w te n (.slice (some ⟨b, o, none⟩) l c) xs) {i : Nat} {x : List Value} (hx : xs[i]? = some x) :
    ∃ cs et fz, Bk w b (.cells cs et fz) ∧ o + i * n + n ≤ cs.size ∧ (cs.extract (o + i * n) (o + i * n + n)).toList = x := by
  cases h with
  | nil => simp at hx
  | row _ _ _ cs et fz _ hb hc hm hs hxx hn ht =>
    have hi : i < xs.length := (List.getElem?_eq_some_iff.1 hx).1
    have hm : (i + 1) * n ≤ xs.length * n := Nat.mul_le_mul_right _ hi
    rw [Nat.add_mul, Nat.one_mul] at hm
    refine ⟨cs, et, fz, hb, by omega, ?_⟩
    rw [← flat_get xs n hn i x hx, ← hxx, Array.toList_extract, List.extract_eq_take_drop, List.drop_take, List.drop_drop, List.take_take]
    congr 1
    omega

/-! Reading out of a slice. -/

section
variable {P : Program} {K : Value → Prop} {S : World → Prop} {w : World}

theorem q_len {t ty e n : Nat} [h : TSli P t e n] {a : Option Addr} {l c : Nat} (k : K (.int .i64 l)) : Qu P S (Builtin.len_ #[t] ty #[.slice a l c]) K := by
  obtain ⟨i, hu, _⟩ := TSli.facts (P := P) t e n
  exact .mk _ (fun w _ => by simp [Builtin.len_, run_und hu, goInt]) k

theorem q_lenSl {t ty e n m : Nat} [TSli P t e n] {v : Value} {xs : List (List Value)} (h : Sl w te m v xs) (k : K (.int .i64 xs.length)) : Qu P S (Builtin.len_ #[t] ty #[v]) K := by
  obtain ⟨a, c, rfl⟩ := h.sh
  exact q_len k

theorem q_lenS {t ty : Nat} [h : TUn P t .string] {s : ByteArray} (k : K (.int .i64 s.size)) : Qu P S (Builtin.len_ #[t] ty #[.string s]) K :=
  .mk _ (fun w _ => by simp [Builtin.len_, run_und h.ok, goInt]) k

theorem run_indexAt {t e n : Nat} [TSli P t e n] {b o l c : Nat} {i : Int} {k : IntKind} {j : Nat} {w : World} (hi : i = j) (hj : j < l) :
    (Instr.indexAt t (.slice (some ⟨b, o, none⟩) l c) (.int k i)).run P w = .ok (.pointer (some ⟨b, o + j * n, none⟩)) w := by
  obtain ⟨inf, hu, hinf, hn, _⟩ := TSli.facts (P := P) t e n
  subst hi
  have h1 : (0 : Int) ≤ j ∧ (j : Int) < l := by omega
  simp only [Instr.indexAt, asIntOf, Sem.run_bind, Sem.run_pure, Result.andThen_ok, run_und hu]
  rw [if_pos h1]
  simp [add_addr, run_size hinf, hn]

/-- An element's address, and the element loaded. -/
theorem q_ixS {t e t' : Nat} [TSli P t e 1] [TCell P t'] {v : Value} {xs : List (List Value)} {i : Int} {k : IntKind} (j : Nat) {x : Value} {S' : World → Prop} {K : Value → Value → Prop} (hv : Sl w te 1 v xs) (h : ∀ w', S' w' → Sl w' te 1 v xs) (hi : i = j) (hx : xs[j]? = some [x])
    (kk : ∀ p, K p x) : Qu P S (Instr.indexAt t v (.int k i)) fun p => Qu P S' (Instr.loadAt t' p) (K p) := by
  have hj : j < xs.length := (List.getElem?_eq_some_iff.1 hx).1
  cases hv with
  | nil => simp at hx
  | row b o c cs et fz _ hb hc hm hs hxx hn ht =>
    refine .mk _ (fun w' _ => run_indexAt hi hj) ?_
    refine .mk x (fun w' hw' => ?_) (kk _)
    obtain ⟨cs', et', fz', hb', hs', he'⟩ := (h w' hw').cells hx
    simp only [Instr.loadAt, Instr.sureAddr]
    refine run_loadVar_cell ?_
    rw [hb'.cell]
    have : (cs'.extract (o + j * 1) (o + j * 1 + 1)).toList[0]? = some x := by rw [he']; rfl
    simpa using this

/-- The same, with an element of several cells. -/
theorem q_ixA {t e n t' : Nat} [TSli P t e n] [TAgg P t' n] {v : Value} {xs : List (List Value)} {i : Int} {k : IntKind} (j : Nat) {x : List Value} {S' : World → Prop} {K : Value → Value → Prop} (hv : Sl w te n v xs) (h : ∀ w', S' w' → Sl w' te n v xs) (hi : i = j) (hx : xs[j]? = some x)
    (kk : ∀ p, K p (.agg x.toArray)) : Qu P S (Instr.indexAt t v (.int k i)) fun p => Qu P S' (Instr.loadAt t' p) (K p) := by
  have hj : j < xs.length := (List.getElem?_eq_some_iff.1 hx).1
  cases hv with
  | nil => simp at hx
  | row b o c cs et fz _ hb hc hm hs hxx hn ht =>
    refine .mk _ (fun w' _ => run_indexAt hi hj) ?_
    refine .mk (.agg x.toArray) (fun w' hw' => ?_) (kk _)
    obtain ⟨cs', et', fz', hb', hs', he'⟩ := (h w' hw').cells hx
    simp only [Instr.loadAt, Instr.sureAddr, Sem.run_bind, Sem.run_pure, Result.andThen_ok]
    rw [run_loadVar_agg (t := t') (n := n) hb' hs', ← he']

/-- A field of an element. -/
theorem q_ixF {t e n f off s t' : Nat} [TSli P t e n] [TFld P s f off] [TCell P t'] {v : Value} {xs : List (List Value)} {i : Int} {k : IntKind} (j : Nat) {x : List Value} {y : Value} {S' S'' : World → Prop} {K : Value → Value → Value → Prop} (hv : Sl w te n v xs) (h : ∀ w', S' w' → Sl w' te n v xs) (hi : i = j) (hx : xs[j]? = some x)
    (hy : x[off]? = some y) (kk : ∀ p q, K p q y) : Qu P S (Instr.indexAt t v (.int k i)) fun p => Qu P S'' (Instr.fieldAt s p f) fun q => Qu P S' (Instr.loadAt t' q) (K p q) := by
  have hj : j < xs.length := (List.getElem?_eq_some_iff.1 hx).1
  have hxn : x.length = n := hv.eln x (List.mem_of_getElem? hx)
  have hoff : off < n := hxn ▸ (List.getElem?_eq_some_iff.1 hy).1
  cases hv with
  | nil => simp at hx
  | row b o c cs et fz _ hb hc hm hs hxx hn ht =>
    refine .mk _ (fun w' _ => run_indexAt hi hj) ?_
    refine q_fa ?_
    refine .mk y (fun w' hw' => ?_) (kk _ _)
    obtain ⟨cs', et', fz', hb', hs', he'⟩ := (h w' hw').cells hx
    simp only [Instr.loadAt, Instr.sureAddr]
    refine run_loadVar_cell ?_
    rw [hb'.cell]
    rw [← he', Array.toList_extract, List.extract_eq_take_drop, List.getElem?_take, List.getElem?_drop] at hy
    split at hy
    · simpa using hy
    · cases hy

end

/-! A slice that is owned: none, or a block of its own. -/

/-- The slice is nil, or owns a block of elements e, not frozen; base: the block is not older. -/
def Own (w : World) (base : Nat) (e n : Nat) (v : Value) (xs : List (List Value)) : Prop :=
  w.ownsRow base e n v xs.length xs.flatten ∧ (∀ x ∈ xs, x.length = n)

theorem Own.nil (w : World) (base e n : Nat) : Own w base e n (.slice none 0 0) [] := ⟨World.ownsRow_nil _ _ _ _, fun x hx => by cases hx⟩

theorem Own.sl {w : World} {base e n : Nat} {v : Value} {xs : List (List Value)} (h : Own w base e n v xs) : Sl w (some e) n v xs := by
  obtain ⟨⟨hl, hx⟩, hn⟩ := h
  rcases hx with ⟨rfl, h0⟩ | ⟨g, cap, cur, rfl, _, hg, hnc, hmx, hcs, htake⟩
  · have : xs = [] := List.eq_nil_of_length_eq_zero h0
    subst this
    exact .nil _ _
  · exact .row g 0 cap cur e (0, 0) xs hg hnc (Nat.le_trans hnc hmx) (by rw [hcs, Nat.zero_add]; exact Nat.mul_le_mul_right _ hnc) (by simpa using htake) hn (fun t h => Option.some.inj h)

theorem Own.mono {w : World} {base base' e n : Nat} {v : Value} {xs : List (List Value)} (h : Own w base e n v xs) (hb : base' ≤ base) : Own w base' e n v xs := by
  obtain ⟨⟨hl, hx⟩, hn⟩ := h
  refine ⟨⟨hl, ?_⟩, hn⟩
  rcases hx with hx | ⟨g, cap, cur, h1, h2, h3⟩
  · exact .inl hx
  · exact .inr ⟨g, cap, cur, h1, Nat.le_trans hb h2, h3⟩

theorem Own.up {C : Nat → Prop} {T : List Nat} {w w' : World} {base e n : Nat} {v : Value} {xs : List (List Value)} (u : Up C T w w') (h : Own w base e n v xs) (hc : ∀ b, v.ownBlock = some b → T.contains (e + 2) = false ∨ ¬ C b) : Own w' base e n v xs := by
  obtain ⟨⟨hl, hx⟩, hn⟩ := h
  refine ⟨⟨hl, ?_⟩, hn⟩
  rcases hx with hx | ⟨g, cap, cur, h1, h2, h3, h4⟩
  · exact .inl hx
  · refine .inr ⟨g, cap, cur, h1, h2, u.keep g _ h3 (hc g (by rw [h1]; rfl)), h4⟩

theorem Own.ex {w w' : World} {base e n : Nat} {v : Value} {xs : List (List Value)} (u : Ex w w') (h : Own w base e n v xs) : Own w' base e n v xs := h.up u fun _ _ => .inr id

theorem Own.lt {w : World} {base e n : Nat} {v : Value} {xs : List (List Value)} (h : Own w base e n v xs) : ∀ b, v.ownBlock = some b → base ≤ b ∧ b < w.heap.size := by
  intro b hb
  obtain ⟨⟨hl, hx⟩, hn⟩ := h
  rcases hx with ⟨rfl, _⟩ | ⟨g, cap, cur, rfl, h2, h3, h4⟩
  · cases hb
  · simp only [Value.ownBlock, Option.some.injEq] at hb
    subst hb
    exact ⟨h2, Bk.lt h3⟩

theorem grown_up {w w' : World} {r : Option Nat} {e : Nat} (h : w.grownBy w' r) (hk : ∀ b o, r = some b → Bk w b o → kd o = e + 2) : Up (fun b => r = some b) [e + 2] w w' :=
  ⟨h.size, h.os, h.tape, h.output, fun b o hb hc => by
    have : some b ≠ r := by
      rintro rfl
      rcases hc with hc | hc
      · rw [hk b o rfl hb] at hc; simp at hc
      · exact hc rfl
    have hl := hb.lt
    unfold Bk at *
    rw [h.block b hl this]; exact hb⟩

theorem one_iff (v : Value) : one v = true → v.oneCell' = true := by cases v <;> simp [one, Value.oneCell']

section
variable {P : Program} {w : World} {KW : Value → World → Prop}

/-- append of a slice's elements to an owned slice. -/
theorem e_app {t ty e n by' base : Nat} [TSli P t e n] [TElm P e n by'] {v x : Value} {xs ys : List (List Value)} (ho : Own w base e n v xs) (hs : Sl w te n x ys) (h1 : ∀ y ∈ ys, ∀ u ∈ y, one u = true)
    (hsz : (xs.length + ys.length) * by' ≤ 140737488355328) (hm : xs.length + ys.length ≤ 140737488355328) (hbase : base ≤ w.heap.size)
    (k : ∀ v' w', Up (fun b => v.ownBlock = some b) [e + 2] w w' → Own w' base e n v' (xs ++ ys) → (v'.ownBlock = v.ownBlock ∨ v'.ownBlock = some w.heap.size) → w.heap.size ≤ w'.heap.size → KW v' w') : Ef P (Builtin.append_ #[t, t] ty #[v, x]) w KW := by
  obtain ⟨inf, hu, hinf, hn, hn0⟩ := TSli.facts (P := P) t e n
  obtain ⟨i, z, hi, hz, his, hib, hzs, h0⟩ := TElm.facts (P := P) e n by'
  obtain ⟨hown, hlen⟩ := ho
  have hk : ∀ b o, v.ownBlock = some b → Bk w b o → kd o = e + 2 := by
    intro b o hb hbo
    rcases hown.2 with ⟨rfl, _⟩ | ⟨g, cap, cur, rfl, _, h3, _⟩
    · cases hb
    · simp only [Value.ownBlock, Option.some.injEq] at hb
      subst hb
      rw [Bk.one hbo h3]; rfl
  have main : ∀ (a : Addr) (c : Nat), (∀ j u, ys.flatten[j]? = some u → w.cell? (a.add j) = some u) → x = .slice (some a) ys.length c → Ef P (Builtin.append_ #[t, t] ty #[v, x]) w KW := by
    intro a c hc hx
    subst hx
    have hfl : ys.flatten.length = ys.length * n := by
      have := hs.eln
      clear hc hs h1 hsz hm k
      induction ys with
      | nil => simp
      | cons y r ih => rw [List.flatten_cons, List.length_append, ih (fun z hz => this z (by simp [hz])), this y (by simp), List.length_cons, Nat.add_mul]; omega
    obtain ⟨v', w', hr, ho', hg, _, hb⟩ := run_append_own_at (P := P) w base t ty e i z n by' hu hi hz his hib hzs h0 v xs.length xs.flatten hown a ys.length c ys.flatten hfl hc
      (fun u hu' => by obtain ⟨y, hy, huy⟩ := List.mem_flatten.1 hu'; exact one_iff u (h1 y hy u huy)) (by simp only [maxLen]; omega) hsz hbase
    refine .mk v' w' hr (k v' w' (grown_up hg hk) ⟨by rw [List.length_append, List.flatten_append]; exact ho', ?_⟩ hb hg.size)
    intro y hy
    rcases List.mem_append.1 hy with hy | hy
    · exact hlen y hy
    · exact hs.eln y hy
  cases hs with
  | nil a c =>
    cases a with
    | some a => exact main a c (fun j u h => by simp at h) rfl
    | none =>
      have hr : (Builtin.append_ #[t, t] ty #[v, .slice none 0 c]).run P w = .ok v w := by
        rcases hown.2 with ⟨rfl, hn⟩ | ⟨g, cap, cur, rfl, _, _, hnc, _⟩
        · simp [Builtin.append_, run_underlying hu, sizeOf, typeInfo, hi, Builtin.lenOf, Builtin.firstCells]
        · simp [Builtin.append_, run_underlying hu, sizeOf, typeInfo, hi, Builtin.lenOf, Builtin.firstCells, hnc, storeCells]
      exact .mk v w hr (k v w (.refl _ _ _) (by simpa using ⟨hown, hlen⟩) (.inl rfl) (Nat.le_refl _))
  | row b o c cs et fz _ hb hc hm' hs' hx hn' ht =>
    refine main ⟨b, o, none⟩ c (fun j u h => ?_) rfl
    rw [add_addr, hb.cell]
    rw [← hx, List.getElem?_take, List.getElem?_drop] at h
    split at h
    · simpa using h
    · cases h

end
end Go.Proofs.YtmmpogfbhelioaaGreat
/-
  The rules for comparisons, conversions, made slices, copies, type assertions.
  Conditions: each rule's own.
-/
namespace Go.Proofs.YtmmpogfbhelioaaGreat
set_option maxRecDepth 10000
set_option linter.unusedVariables false
set_option linter.unusedSimpArgs false

section
variable {P : Program} {K : Value → Prop} {S : World → Prop} {t : TypeId} {x y : Operand}

/-! Comparisons. -/

theorem TIf.facts {P : Program} {t : TypeId} (h : TIf P t) : ∃ ms, P.underlying t = some (.interface ms) := by
  have := h.ok
  unfold tifB at this
  split at this
  · exact ⟨_, by assumption⟩
  · cases this

theorem equal_of {a b : Value} {r : Bool} {w : World} (h : ∀ d, (Op.equalIn (d + 1) t a b).run P w = .ok r w) : (Op.equal t a b).run P w = .ok r w := h 9999
theorem guard_nil {op : BinOp} {w : World} (hy : (y matches .const _) = true) : (eqGuard op t x y .nilIface .nilIface).run P w = .ok () w := by
  cases y <;> first | (cases hy; done) | skip
  unfold eqGuard
  cases op <;> simp

theorem eq_P0 {e : TypeId} [hd : TUn P t (.pointer e)] {a : Option Addr} {w : World} : (Op.equal t (.pointer a) (.pointer none)).run P w = .ok (a.isNone) w := equal_of fun d => by cases a <;> simp [Op.equalIn, run_und hd.ok]
theorem q_eqlP0 {e : TypeId} [hd : TUn P t (.pointer e)] {a : Option Addr}  (h : K (.bool (a.isNone))) : Qu P S (binS .eql t x y (.pointer a) (.pointer none)) K :=
  q_bin (fun w => by simp [eqGuard]) (fun w => by simp [binOp, eq_P0]) h
theorem q_neqP0 {e : TypeId} [hd : TUn P t (.pointer e)] {a : Option Addr}  (h : K (.bool (!(a.isNone)))) : Qu P S (binS .neq t x y (.pointer a) (.pointer none)) K :=
  q_bin (fun w => by simp [eqGuard]) (fun w => by simp [binOp, eq_P0]) h
theorem eq_B [hd : TUn P t .bool] {a b : Bool} {w : World} : (Op.equal t (.bool a) (.bool b)).run P w = .ok (a == b) w := equal_of fun d => by simp [Op.equalIn, run_und hd.ok]
theorem q_eqlB [hd : TUn P t .bool] {a b : Bool}  (h : K (.bool (a == b))) : Qu P S (binS .eql t x y (.bool a) (.bool b)) K :=
  q_bin (fun w => by simp [eqGuard]) (fun w => by simp [binOp, eq_B]) h
theorem q_neqB [hd : TUn P t .bool] {a b : Bool}  (h : K (.bool (!(a == b)))) : Qu P S (binS .neq t x y (.bool a) (.bool b)) K :=
  q_bin (fun w => by simp [eqGuard]) (fun w => by simp [binOp, eq_B]) h
theorem eq_Z0 {e : TypeId} [hd : TUn P t (.slice e)] {a : Option Addr} {l c : Nat} {w : World} : (Op.equal t (.slice a l c) (.slice none 0 0)).run P w = .ok (a.isNone) w := equal_of fun d => by cases a <;> simp [Op.equalIn, run_und hd.ok]
theorem q_eqlZ0 {e : TypeId} [hd : TUn P t (.slice e)] {a : Option Addr} {l c : Nat}  (h : K (.bool (a.isNone))) : Qu P S (binS .eql t x y (.slice a l c) (.slice none 0 0)) K :=
  q_bin (fun w => by simp [eqGuard]) (fun w => by simp [binOp, eq_Z0]) h
theorem q_neqZ0 {e : TypeId} [hd : TUn P t (.slice e)] {a : Option Addr} {l c : Nat}  (h : K (.bool (!(a.isNone)))) : Qu P S (binS .neq t x y (.slice a l c) (.slice none 0 0)) K :=
  q_bin (fun w => by simp [eqGuard]) (fun w => by simp [binOp, eq_Z0]) h
theorem eq_M0 {k e : TypeId} [hd : TUn P t (.map k e)] {a : Option Nat} {w : World} : (Op.equal t (.map a) (.map none)).run P w = .ok (a.isNone) w := equal_of fun d => by cases a <;> simp [Op.equalIn, run_und hd.ok]
theorem q_eqlM0 {k e : TypeId} [hd : TUn P t (.map k e)] {a : Option Nat}  (h : K (.bool (a.isNone))) : Qu P S (binS .eql t x y (.map a) (.map none)) K :=
  q_bin (fun w => by simp [eqGuard]) (fun w => by simp [binOp, eq_M0]) h
theorem q_neqM0 {k e : TypeId} [hd : TUn P t (.map k e)] {a : Option Nat}  (h : K (.bool (!(a.isNone)))) : Qu P S (binS .neq t x y (.map a) (.map none)) K :=
  q_bin (fun w => by simp [eqGuard]) (fun w => by simp [binOp, eq_M0]) h
theorem eq_I1 [hd : TIf P t] {t2 : TypeId} {v : Value} {w : World} : (Op.equal t (.iface t2 v) .nilIface).run P w = .ok (false) w := equal_of fun d => by obtain ⟨ms, hu⟩ := hd.facts; simp [Op.equalIn, run_und hu]
theorem q_eqlI1 [hd : TIf P t] {t2 : TypeId} {v : Value}  (h : K (.bool (false))) : Qu P S (binS .eql t x y (.iface t2 v) .nilIface) K :=
  q_bin (fun w => by simp [eqGuard]) (fun w => by simp [binOp, eq_I1]) h
theorem q_neqI1 [hd : TIf P t] {t2 : TypeId} {v : Value}  (h : K (.bool (!(false)))) : Qu P S (binS .neq t x y (.iface t2 v) .nilIface) K :=
  q_bin (fun w => by simp [eqGuard]) (fun w => by simp [binOp, eq_I1]) h
theorem eq_I0 [hd : TIf P t] {w : World} : (Op.equal t .nilIface .nilIface).run P w = .ok (true) w := equal_of fun d => by obtain ⟨ms, hu⟩ := hd.facts; simp [Op.equalIn, run_und hu]
theorem q_eqlI0 [hd : TIf P t] (hy : (y matches .const _) = true) (h : K (.bool (true))) : Qu P S (binS .eql t x y .nilIface .nilIface) K :=
  q_bin (fun w => guard_nil hy) (fun w => by simp [binOp, eq_I0]) h
theorem q_neqI0 [hd : TIf P t] (hy : (y matches .const _) = true) (h : K (.bool (!(true)))) : Qu P S (binS .neq t x y .nilIface .nilIface) K :=
  q_bin (fun w => guard_nil hy) (fun w => by simp [binOp, eq_I0]) h
theorem str_eq (a b : ByteArray) : (a.toList == b.toList) = decide (a = b) := by
  rw [ByteArray.toList_eq, ByteArray.toList_eq]
  by_cases h : a = b
  · subst h; simp
  · have hd : ¬ a.data.toList = b.data.toList := fun e => h (by
      cases a; cases b
      have := Array.toList_inj.1 e
      exact congrArg ByteArray.mk this)
    have h1 : (a.data.toList == b.data.toList) = false := beq_eq_false_iff_ne.2 hd
    rw [h1, decide_eq_false h]
theorem q_eqlS {a b : ByteArray} (h : K (.bool (decide (a = b)))) : Qu P S (binS .eql t x y (.string a) (.string b)) K := q_bin (fun w => by simp [eqGuard]) (fun w => by simp [binOp, Op.stringOp]) (str_eq a b ▸ h)
theorem q_neqS {a b : ByteArray} (h : K (.bool (!decide (a = b)))) : Qu P S (binS .neq t x y (.string a) (.string b)) K := q_bin (fun w => by simp [eqGuard]) (fun w => by simp [binOp, Op.stringOp]) (str_eq a b ▸ h)
/-- A func value that is no nil. -/
theorem eq_F0 {a b r} [hd : TUn P t (.func a b r)] {f : Fn} {u v : Array Value} {w : World} : (Op.equal t (.func f u v) .nilFunc).run P w = .ok false w := equal_of fun d => by simp [Op.equalIn, run_und hd.ok]

/-! Conversions. -/

theorem q_conv {src dst : TypeId} {d : TypeDesc} [hs : TUn P src d] {k k' : IntKind} [hd : TUn P dst (.int k)] {n : Int} (h : K (.int k (k.wrap n))) : Qu P S (convert src dst (.int k' n)) K :=
  .mk _ (fun w _ => by simp [convert, run_und hs.ok, run_und hd.ok, Conv.intToInt]) h

theorem q_max {ts : Array TypeId} {ty : TypeId} {k : IntKind} {a b : Int} (h : K (.int k (if b > a then b else a))) : Qu P S (Builtin.max_ ts ty #[.int k a, .int k b]) K :=
  .mk _ (fun w _ => by simp [Builtin.max_, Builtin.max2]) h
theorem q_min {ts : Array TypeId} {ty : TypeId} {k : IntKind} {a b : Int} (h : K (.int k (if b < a then b else a))) : Qu P S (Builtin.min_ ts ty #[.int k a, .int k b]) K :=
  .mk _ (fun w _ => by simp [Builtin.min_, Builtin.min2]) h

theorem q_rem {k : IntKind} {a b : Int} (hb : b ≠ 0) (h : K (.int k (a.tmod b))) : Qu P S (binS .rem t x y (.int k a) (.int k b)) K :=
  q_bin (fun _ => guard_int) (fun w => by simp [binOp, Op.intDiv, hb]) h

/-- Bytes of numbers. -/
def byteList (s : ByteArray) : List (List Value) := s.data.toList.map fun b => [.int .u8 (b.toNat : Int)]

variable {w : World} {KW : Value → World → Prop}

theorem e_bytes {src dst e : TypeId} [hsrc : TUn P src .string] [hd : TUn P dst (.slice e)] [he : TUn P e (.int .u8)] {s : ByteArray} (hs : s.size ≤ 9223372036854775807) (k : ∀ v w' c, v = .slice (some ⟨w.heap.size, 0, none⟩) s.size c → Ex w w' → Sl w' (some e) 1 v (byteList s) → w'.heap.size = w.heap.size + 1 → KW v w') :
    Ef P (convert src dst (.string s)) w KW := by
  refine .mk _ _ (run_bytes_of_string w src dst e s hsrc.ok hd.ok he.ok) ?_
  have hb : s.size = (byteList s).length := by simp only [byteList, List.length_map, Array.length_toList]; rfl
  refine k _ _ (grownCap w s.size 0 e) rfl ((Up.drew _ _ _).trans (Up.alloc _ _)) ?_ (by simp)
  generalize hC : bytesRow s (grownCap w s.size 0 e) = C
  have hge := grownCap_ge w s.size 0 e
  rw [hb]
  refine .row w.heap.size 0 _ C e _ (byteList s) (Bk.alloc_new w.drew _) (by rw [← hb]; exact hge) (by rw [← hb]; exact hs) ?_ ?_ (by simp [byteList]) (fun t h => Option.some.inj h)
  · rw [← hC, ← hb]
    simp only [bytesRow, Array.size_append, Array.size_map, Array.size_replicate, Nat.mul_one, Nat.zero_add]
    show s.size ≤ s.data.size + _
    exact Nat.le_add_right _ _
  · rw [← hC, ← hb, Nat.mul_one, List.drop_zero]
    simp only [bytesRow, Array.toList_append, Array.toList_map, Array.toList_replicate, byteList]
    have hz : (s.data.toList.map fun b => Value.int .u8 (b.toNat : Int)).length = s.size := by rw [List.length_map, Array.length_toList]; rfl
    rw [List.take_append_of_le_length (by rw [hz]; exact Nat.le_refl _), List.take_of_length_le (by rw [hz]; exact Nat.le_refl _)]
    clear hz hge hb hC
    induction s.data.toList with
    | nil => rfl
    | cons b r ih => simp only [List.map_cons, List.flatten_cons, List.singleton_append, ih]

end
end Go.Proofs.YtmmpogfbhelioaaGreat
/-
  The rules for bytes as text, made slices, copies, built slices, methods, type assertions.
  Conditions: each rule's own.
-/
namespace Go.Proofs.YtmmpogfbhelioaaGreat
set_option maxRecDepth 10000
set_option linter.unusedVariables false
set_option linter.unusedSimpArgs false

section
variable {P : Program} {K : Value → Prop} {S : World → Prop} {t : TypeId} {w : World} {KW : Value → World → Prop}

variable {te : Option Nat}
theorem byteList_nil {s : ByteArray} (h : byteList s = []) : s = ByteArray.empty := by
  obtain ⟨d⟩ := s
  have : d.toList = [] := by simpa [byteList] using h
  have h2 : d = #[] := Array.toList_eq_nil_iff.1 this
  subst h2
  rfl

theorem Sl.none_ {n : Nat} {v : Value} {xs : List (List Value)} {l c : Nat} (h : Sl w te n v xs) (hv : v = .slice none l c) : xs = [] := by
  cases h with
  | nil => rfl
  | row => cases hv

theorem Sl.get {n : Nat} {v : Value} {xs : List (List Value)} {i : Nat} {x : List Value} (h : Sl w te n v xs) (hx : xs[i]? = some x) :
    ∃ b o c cs et fz, v = .slice (some ⟨b, o, none⟩) xs.length c ∧ Bk w b (.cells cs et fz) ∧ o + i * n + n ≤ cs.size ∧ (cs.extract (o + i * n) (o + i * n + n)).toList = x := by
  cases h with
  | nil => simp at hx
  | row b o c cs et fz _ hb hc hm hs' hxx hn ht =>
    obtain ⟨cs', et', fz', hb', hs', he'⟩ := (Sl.row (te := te) b o c cs et fz xs hb hc hm hs' hxx hn ht).cells hx
    exact ⟨b, o, c, cs', et', fz', rfl, hb', hs', he'⟩

instance {base e n : Nat} {v : Value} {xs : List (List Value)} : St (fun w => Own w base e n v xs) := ⟨fun _ _ e h => h.ex e⟩

theorem run_str {src dst e : TypeId} [hs : TUn P src (.slice e)] [hd : TUn P dst .string] [he : TUn P e (.int .u8)] {v : Value} {s : ByteArray} {w : World} (h : Sl w te 1 v (byteList s)) : (convert src dst v).run P w = .ok (.string s) w := by
  have hlen : (byteList s).length = s.data.toList.length := by simp [byteList]
  obtain ⟨a, c, rfl⟩ := h.sh
  cases a with
  | none =>
    have : byteList s = [] := h.none_ rfl
    rw [byteList_nil this]
    exact run_convert_bytes_nil w src e hs.ok he.ok _ _ dst hd.ok
  | some a =>
    have := run_convert_bytes_back (P := P) w src dst e a c s.data.toList hs.ok he.ok hd.ok (fun j hj => by
      have hx : (byteList s)[j]? = some [.int .u8 ((s.data.toList[j].toNat : Nat) : Int)] := by
        unfold byteList
        rw [List.getElem?_map, List.getElem?_eq_getElem hj]; rfl
      obtain ⟨b, o, c', cs', et', fz', hv, hb', hs', he'⟩ := h.get hx
      simp only [Value.slice.injEq, Option.some.injEq] at hv
      rw [hv.1, add_addr, hb'.cell]
      have h0 : (cs'.extract (o + j * 1) (o + j * 1 + 1)).toList[0]? = some (.int .u8 ((s.data.toList[j].toNat : Nat) : Int)) := by rw [he']; rfl
      simpa using h0)
    rw [hlen]
    rw [this]

theorem e_str {src dst e : TypeId} [hs : TUn P src (.slice e)] [hd : TUn P dst .string] [he : TUn P e (.int .u8)] {v : Value} {s : ByteArray} (h : Sl w te 1 v (byteList s)) (k : KW (.string s) w) : Ef P (convert src dst v) w KW :=
  .mk _ w (run_str h) k
theorem q_strS {src dst e : TypeId} [hs : TUn P src (.slice e)] [hd : TUn P dst .string] [he : TUn P e (.int .u8)] {v : Value} {s : ByteArray} (h : ∀ w, S w → Sl w te 1 v (byteList s)) (k : K (.string s)) : Qu P S (convert src dst v) K :=
  .mk _ (fun w hw => run_str (h w hw)) k

/-! make. -/

theorem e_make {t e by' : Nat} [TSli P t e 1] [TElm P e 1 by'] {zv : Value} [z : TZero P e zv] (hz1 : zv.cells = #[zv]) {k1 k2 : IntKind} {m : Nat} {i1 i2 : Int} (h1 : i1 = m) (h2 : i2 = m) (hb : by' * m ≤ 281474976710656) (hm : m ≤ 140737488355328)
    (k : ∀ w', Ex w w' → Own w' w.heap.size e 1 (.slice (some ⟨w.heap.size, 0, none⟩) m m) (List.replicate m [zv]) → w.heap.size < w'.heap.size → KW (.slice (some ⟨w.heap.size, 0, none⟩) m m) w') : Ef P (Instr.makeSlice t (.int k1 i1) (.int k2 i2)) w KW := by
  obtain ⟨inf, hu, hinf, hn, hn0⟩ := TSli.facts (P := P) t e 1
  obtain ⟨i, z', hi, hz, his, hib, hzs, h0⟩ := TElm.facts (P := P) e 1 by'
  have hzz : z' = zv := by
    have := z.ok
    rw [hi] at this
    simpa [hz] using this
  subst hzz h1 h2
  obtain ⟨w', hr, ho, hg⟩ := run_make_full (P := P) (w := w) w.heap.size t e i z' 1 hu hi hz his k1 k2 m (by rw [hib]; exact hb) (by simp only [maxLen]; omega) (Nat.le_refl _)
  have hx : (madeCells z'.cells (m * 1)).toList = (List.replicate m [z']).flatten := by
    rw [hz1, Nat.mul_one, toList_madeCells_one]
    clear hb hm k hr ho
    induction m with
    | zero => rfl
    | succ m ih => rw [List.replicate_succ, List.replicate_succ, List.flatten_cons, ← ih]; rfl
  refine .mk _ w' hr (k w' ⟨hg.size, hg.os, hg.tape, hg.output, fun b o hb _ => ?_⟩ ⟨?_, ?_⟩ ?_)
  · have hl := hb.lt
    unfold Bk at *
    rw [hg.block b hl (by simp)]; exact hb
  · rw [List.length_replicate, ← hx]; exact ho
  · intro x hx
    rw [List.eq_of_mem_replicate hx]; rfl
  · rcases ho.2 with ⟨h, _⟩ | ⟨g, cap, cur, h, _, h3, _⟩
    · cases h
    · simp only [Value.slice.injEq, Option.some.injEq, Addr.mk.injEq] at h
      rw [← h.1.1] at h3
      exact Bk.lt h3

/-! Slices built out of elements. -/

theorem run_bs {t e n : Nat} [TSli P t e n] {zv : Value} [z : TZero P e zv] {m : Nat} {parts : Array (Nat × Value)} {cs : Array Value} (hs : m * n ≤ 16777216) (hm : m ≠ 0)
    (hf : Instr.fill (fun i => some (i * n, n)) ((Array.range (m * n)).map (zv.cells[· % zv.cells.size]!)) parts.toList = some cs) :
    (Instr.buildSlice t m parts).run P w = .ok (.slice (some ⟨w.heap.size, 0, none⟩) m m) (w.alloc (.cells cs e)) := by
  obtain ⟨inf, hu, hinf, hn, hn0⟩ := TSli.facts (P := P) t e n
  subst hn
  have h0 : ¬ (m * inf.size > 2 ^ 24) := by omega
  simp only [Instr.buildSlice, Sem.run_bind, run_und hu, Result.andThen_ok, run_size hinf]
  rw [if_neg h0]
  have hm : ¬ (m * inf.size = 0) := by
    intro h
    rcases Nat.mul_eq_zero.1 h with h | h
    · exact hm h
    · exact hn0 h
  simp [hm, run_zero z.ok, hf, newRow, newObj, Sem.run]

theorem run_bs0 {t e n : Nat} [TSli P t e n] : (Instr.buildSlice t 0 #[]).run P w = .ok (.slice (some ⟨w.heap.size, 0, none⟩) 0 0) (w.alloc (.cells #[] e)) := by
  obtain ⟨inf, hu, hinf, hn, hn0⟩ := TSli.facts (P := P) t e n
  have : (Array.range 0).map (fun _ => (default : Value)) = #[] := Array.eq_empty_of_size_eq_zero (by simp)
  simp [Instr.buildSlice, run_und hu, run_size hinf, Instr.fill, newRow, newObj, Sem.run, this]

theorem e_bs0 {t e n : Nat} [TSli P t e n] (k : ∀ w', Ex w w' → Own w' w.heap.size e n (.slice (some ⟨w.heap.size, 0, none⟩) 0 0) [] → w'.heap.size = w.heap.size + 1 → KW (.slice (some ⟨w.heap.size, 0, none⟩) 0 0) w') :
    Ef P (Instr.buildSlice t 0 #[]) w KW :=
  .mk _ _ (run_bs0 (P := P) (t := t) (e := e) (n := n)) (k _ (Up.alloc _ _) ⟨⟨by simp, .inr ⟨_, 0, #[], rfl, Nat.le_refl _, Bk.alloc_new _ _, Nat.le_refl _, by simp [maxLen], by simp, by simp⟩⟩, fun x hx => by cases hx⟩ (by simp))

theorem fold_set (off : Nat) : ∀ (l : List Value) (j : Nat) (cs : Array Value), (l.zipIdx j).foldl (fun cs (x : Value × Nat) => cs.setIfInBounds (off + x.2) x.1) cs = putCells cs (off + j) l
  | [], _, _ => rfl
  | v :: l, j, cs => by
    simp only [List.zipIdx_cons, List.foldl_cons, putCells]
    rw [fold_set off l (j + 1)]
    rfl

theorem fill_cons {place : Nat → Option (Nat × Nat)} {cells : Array Value} {i off size : Nat} {v : Value} {rest : List (Nat × Value)} (hp : place i = some (off, size)) (hv : v.cells.size = size) (hs : off + size ≤ cells.size) :
    Instr.fill place cells ((i, v) :: rest) = Instr.fill place (putCells cells off v.cells.toList) rest := by
  rw [Instr.fill, hp]
  have h : (decide (v.cells.size ≠ size) || decide (off + v.cells.size > cells.size)) = false := by
    simp only [Bool.or_eq_false_iff, decide_eq_false_iff_not]
    omega
  simp only [h, Bool.false_eq_true, if_false]
  congr 1
  have := fold_set off v.cells.toList 0 cells
  rw [Nat.add_zero] at this
  rw [← this, ← Array.foldl_toList, Array.toList_zipIdx]

/-- A slice of one element. -/
theorem e_bs1 {t e n : Nat} [TSli P t e n] {by' : Nat} [TElm P e n by'] {v : Value} (hv : v.cells.size = n) (hn : n ≤ 1000)
    (k : ∀ w', Ex w w' → Own w' w.heap.size e n (.slice (some ⟨w.heap.size, 0, none⟩) 1 1) [v.cells.toList] → w'.heap.size = w.heap.size + 1 → KW (.slice (some ⟨w.heap.size, 0, none⟩) 1 1) w') :
    Ef P (Instr.buildSlice t 1 #[(0, v)]) w KW := by
  obtain ⟨i, z', hi, hz, his, hib, hzs, h0⟩ := TElm.facts (P := P) e n by'
  haveI : TZero P e z' := ⟨by rw [hi]; exact hz⟩
  have hc : putCells ((Array.range (1 * n)).map (z'.cells[· % z'.cells.size]!)) (0 * n) v.cells.toList = v.cells := by
    have : ∀ (l : List Value) (pre : List Value) (cs : Array Value), cs.size = pre.length + l.length → cs.toList.take pre.length = pre → (putCells cs pre.length l).toList = pre ++ l := by
      intro l
      induction l with
      | nil =>
        intro pre cs hs ht
        rw [putCells, List.append_nil, ← ht, List.take_of_length_le]
        simpa using hs ▸ Nat.le_refl _
      | cons x l ih =>
        intro pre cs hs ht
        simp only [List.length_cons] at hs
        have := ih (pre ++ [x]) (cs.setIfInBounds pre.length x) (by simp; omega) (by
          rw [Array.toList_setIfInBounds, List.length_append, List.length_singleton]
          have hl : pre.length < cs.toList.length := by simp; omega
          rw [List.take_add_one, List.take_set, List.getElem?_set_self hl, List.set_eq_of_length_le (by simp; omega), ht]
          rfl)
        simpa [putCells] using this
    have h2 := this v.cells.toList [] ((Array.range (1 * n)).map (z'.cells[· % z'.cells.size]!)) (by simp [hv]) rfl
    rw [Nat.zero_mul]
    exact Array.toList_inj.1 h2
  have hf : Instr.fill (fun i => some (i * n, n)) ((Array.range (1 * n)).map (z'.cells[· % z'.cells.size]!)) #[(0, v)].toList = some v.cells := by
    rw [show #[(0, v)].toList = [(0, v)] from rfl, fill_cons rfl hv (by simp), hc, Instr.fill]
  refine .mk _ _ (run_bs (P := P) (t := t) (e := e) (n := n) (m := 1) (cs := v.cells) (by omega) (by omega) hf) (k _ (Up.alloc _ _) ⟨⟨?_, .inr ⟨_, 1, v.cells, rfl, Nat.le_refl _, Bk.alloc_new _ _, Nat.le_refl _, by simp [maxLen], by simp [hv], ?_⟩⟩, ?_⟩ (by simp))
  · simp [hv]
  · simp only [List.length_singleton, Nat.one_mul, List.flatten_cons, List.flatten_nil, List.append_nil, ← hv]
    exact List.take_of_length_le (by simp)
  · intro x hx
    rw [List.mem_singleton.1 hx, Array.length_toList, hv]

end
end Go.Proofs.YtmmpogfbhelioaaGreat
/-
  The rules for maps whose keys are numbers: make, look up, put, delete, range.
  Conditions: a ranged map does not change while it is ranged.
-/
namespace Go.Proofs.YtmmpogfbhelioaaGreat
set_option maxRecDepth 10000
set_option linter.unusedVariables false
set_option linter.unusedSimpArgs false
open Go.ChangeMaps (setBlock)

abbrev KV := List (Int × Value)

def lk : KV → Int → Option Value
  | [], _ => none
  | (k', v) :: r, k => if k' = k then some v else lk r k
def put : KV → Int → Value → KV
  | [], k, v => [(k, v)]
  | (k', v') :: r, k, v => if k' = k then (k, v) :: r else (k', v') :: put r k v
def del : KV → Int → KV
  | [], _ => []
  | (k', v') :: r, k => if k' = k then r else (k', v') :: del r k

def kvs (es : List MapEntry) : List (Value × Value) := es.map fun e => (e.key, e.val)
def kvl (l : KV) : List (Value × Value) := l.map fun p => (.int .u64 p.1, p.2)

structure MapOk (es : Array MapEntry) (clock : Nat) (l : KV) : Prop where
  same : kvs es.toList = kvl l
  born : (es.toList.map (·.born)).Nodup
  old : ∀ e ∈ es.toList, e.born < clock

/-- Block b holds a map of numbers to values: l, in the order in which they came. -/
def Mp (w : World) (b : Nat) (l : KV) : Prop := ∃ es clock, Bk w b (.map es clock) ∧ MapOk es clock l

theorem Mp.ex {w w' : World} {b : Nat} {l : KV} (e : Ex w w') (h : Mp w b l) : Mp w' b l := by
  obtain ⟨es, c, hb, ho⟩ := h
  exact ⟨es, c, e.at_ hb, ho⟩
theorem Mp.up {C : Nat → Prop} {T : List Nat} {w w' : World} {b : Nat} {l : KV} (e : Up C T w w') (h : Mp w b l) (hc : T.contains 0 = false ∨ ¬ C b) : Mp w' b l := by
  obtain ⟨es, c, hb, ho⟩ := h
  exact ⟨es, c, e.keep b _ hb hc, ho⟩
instance {b : Nat} {l : KV} : St (fun w => Mp w b l) := ⟨fun _ _ e h => h.ex e⟩
theorem Mp.lt {w : World} {b : Nat} {l : KV} (h : Mp w b l) : b < w.heap.size := by
  obtain ⟨es, c, hb, ho⟩ := h
  exact hb.lt

theorem find_spec (q : IntKind) (k : Int) (v : Value) : ∀ (es : List MapEntry) (l : KV) (i : Nat), kvs es = kvl l →
    (∃ j e, es[j]? = some e ∧ Instr.findNow (.int q) (.int .u64 k) es i = some (some (i + j, e.val)) ∧ lk l k = some e.val ∧ e.key = .int .u64 k ∧
      (∀ f : MapEntry → MapEntry, (f e).key = .int .u64 k → (f e).val = v → kvs (es.modify j f) = kvl (put l k v)) ∧ kvs (es.eraseIdx j) = kvl (del l k)) ∨
    (Instr.findNow (.int q) (.int .u64 k) es i = some none ∧ lk l k = none ∧ put l k v = l ++ [(k, v)] ∧ del l k = l)
  | [], [], i, _ => .inr ⟨rfl, rfl, rfl, rfl⟩
  | [], p :: r, i, h => by cases h
  | e :: es, [], i, h => by cases h
  | e :: es, (k', v') :: r, i, h => by
    simp only [kvs, kvl, List.map_cons, List.cons.injEq, Prod.mk.injEq] at h
    obtain ⟨⟨h1, h2⟩, h3⟩ := h
    by_cases hk : k' = k
    · subst hk
      refine .inl ⟨0, e, rfl, ?_, ?_, h1, ?_, ?_⟩
      · simp [Instr.findNow, h1, Instr.sameNow]
      · simp [lk, h2]
      · intro f hf1 hf2
        simp only [kvs, kvl, List.modify_zero_cons, put, if_true, List.map_cons, hf1, hf2]
        rw [h3]
      · simp only [List.eraseIdx_zero, List.tail_cons, del, if_true]; exact h3
    · have hne : ¬ (k = k') := fun e => hk e.symm
      rcases find_spec q k v es r (i + 1) h3 with ⟨j, e', hj, hf, hl, hek, hm, hd⟩ | ⟨hf, hl, hp, hd⟩
      · refine .inl ⟨j + 1, e', hj, ?_, ?_, hek, ?_, ?_⟩
        · simp only [Instr.findNow, h1, Instr.sameNow, if_true]
          rw [show (k == k') = false from by simp [hne]]
          simp only [hf]
          congr 3
          omega
        · simp [lk, hk, hl]
        · intro f hf1 hf2
          have := hm f hf1 hf2
          simp only [kvs, kvl, List.modify_succ_cons, put, hk, if_false, List.map_cons, h1, h2] at this ⊢
          rw [this]
        · simp only [kvs, kvl, List.eraseIdx_cons_succ, del, hk, if_false, List.map_cons, h1, h2] at hd ⊢
          rw [hd]
      · refine .inr ⟨?_, ?_, ?_, ?_⟩
        · simp only [Instr.findNow, h1, Instr.sameNow, if_true]
          rw [show (k == k') = false from by simp [hne]]
          simp only [hf]
        · simp [lk, hk, hl]
        · simp [put, hk, hp]
        · simp [del, hk, hd]

section
variable {P : Program} {K : Value → Prop} {S : World → Prop} {t kt et : TypeId} {w : World} {KW : Value → World → Prop}

theorem run_checkKey (b : Bool) {q : IntKind} [h : TUn P kt (.int q)] {k : IntKind} {n : Int} {w : World} : (Instr.checkKey b 10000 kt (.int k n)).run P w = .ok () w := by
  have : ∀ d, (Instr.checkKey b (d + 1) kt (.int k n)).run P w = .ok () w := fun d => by simp [Instr.checkKey, run_und h.ok]
  exact this 9999

theorem run_getObj {b : Nat} {o : Obj} {w : World} (h : Bk w b o) (ho : kd o < 2 := by first | exact Nat.zero_lt_two | exact Nat.one_lt_two) : (getObj b).run P w = .ok o w := by
  unfold Bk at h
  cases o with
  | cells c t fz => exact absurd ho (by simp only [kd]; omega)
  | _ => simp [getObj, Sem.run, h]

theorem run_setObj {b : Nat} {o o' : Obj} {w : World} (h : Bk w b o) (ho : kd o < 2 := by first | exact Nat.zero_lt_two | exact Nat.one_lt_two) : (setObj b o').run P w = .ok () { w with heap := w.heap.setIfInBounds b o' } := by
  unfold Bk at h
  cases o with
  | cells c t fz => exact absurd ho (by simp only [kd]; omega)
  | _ => simp [setObj, Sem.run, h]

theorem run_findKey {q : IntKind} [h : TUn P kt (.int q)] {k : Value} {es : List MapEntry} {r : Option (Nat × Value)} {w : World} (hf : Instr.findNow (.int q) k es 0 = some r) : (Instr.findKey kt k es).run P w = .ok r w := by
  simp [Instr.findKey, run_und h.ok, hf]

/-- A look-up. -/
theorem run_look {q : IntKind} [hm : TUn P t (.map kt et)] [hk : TUn P kt (.int q)] {zv : Value} [hz : TZero P et zv] {b : Nat} {l : KV} {k : Int} {ok : Bool} {w : World} (h : Mp w b l) :
    (Instr.lookup t (.map (some b)) (.int .u64 k) ok).run P w = .ok (if ok then .tuple #[(lk l k).getD zv, .bool (lk l k).isSome] else (lk l k).getD zv) w := by
  obtain ⟨es, c, hb, ho⟩ := h
  rcases find_spec q k undef es.toList l 0 ho.same with ⟨j, e, _, hf, hl, _⟩ | ⟨hf, hl, _⟩
  · simp [Instr.lookup, run_und hm.ok, run_getObj hb, run_checkKey, run_findKey hf, hl]
  · simp [Instr.lookup, run_und hm.ok, run_getObj hb, run_checkKey, run_findKey hf, hl, run_zero hz.ok]

theorem run_look0 {q : IntKind} [hm : TUn P t (.map kt et)] [hk : TUn P kt (.int q)] {zv : Value} [hz : TZero P et zv] {k : Int} {ok : Bool} {w : World} :
    (Instr.lookup t (.map none) (.int .u64 k) ok).run P w = .ok (if ok then .tuple #[zv, .bool false] else zv) w := by
  have : (Instr.findKey kt (.int .u64 k) []).run P w = .ok none w := run_findKey rfl
  simp [Instr.lookup, run_und hm.ok, run_checkKey, this, run_zero hz.ok]

theorem q_lookS {q : IntKind} [hm : TUn P t (.map kt et)] [hk : TUn P kt (.int q)] {zv : Value} [hz : TZero P et zv] {b : Nat} {l : KV} {k : Int} {ok : Bool} (h : ∀ w, S w → Mp w b l)
    (kk : K (if ok then .tuple #[(lk l k).getD zv, .bool (lk l k).isSome] else (lk l k).getD zv)) : Qu P S (Instr.lookup t (.map (some b)) (.int .u64 k) ok) K :=
  .mk _ (fun w hw => run_look (h w hw)) kk
theorem q_look {q : IntKind} [hm : TUn P t (.map kt et)] [hk : TUn P kt (.int q)] {zv : Value} [hz : TZero P et zv] {b : Nat} {l : KV} {k : Int} {ok : Bool} (h : Mp w b l)
    (kk : K (if ok then .tuple #[(lk l k).getD zv, .bool (lk l k).isSome] else (lk l k).getD zv)) : Qu P (Is w) (Instr.lookup t (.map (some b)) (.int .u64 k) ok) K :=
  q_lookS (fun w' hw => by cases hw; exact h) kk
theorem q_look0 {q : IntKind} [hm : TUn P t (.map kt et)] [hk : TUn P kt (.int q)] {zv : Value} [hz : TZero P et zv] {k : Int} {ok : Bool}
    (kk : K (if ok then .tuple #[zv, .bool false] else zv)) : Qu P S (Instr.lookup t (.map none) (.int .u64 k) ok) K := .mk _ (fun _ _ => run_look0) kk

theorem q_lenM {ty : TypeId} [hm : TUn P t (.map kt et)] {b : Nat} {l : KV} (h : ∀ w, S w → Mp w b l) (kk : K (.int .i64 l.length)) : Qu P S (Builtin.len_ #[t] ty #[.map (some b)]) K :=
  .mk _ (fun w hw => by
    obtain ⟨es, c, hb, ho⟩ := h w hw
    have hl : l.length = es.size := by
      have := congrArg List.length ho.same
      simpa [kvs, kvl] using this.symm
    simp [Builtin.len_, run_und hm.ok, run_getObj hb, goInt, hl]) kk
theorem q_lenM0 {ty : TypeId} [hm : TUn P t (.map kt et)] (kk : K (.int .i64 0)) : Qu P S (Builtin.len_ #[t] ty #[.map none]) K :=
  .mk _ (fun w _ => by simp [Builtin.len_, run_und hm.ok, goInt]) kk

theorem e_mkmap {r : Option Value} [hm : TUn P t (.map kt et)] (hr : ∀ v, r = some v → ∃ k n, v = .int k n) (kk : ∀ w', Ex w w' → Mp w' w.heap.size [] → w'.heap.size = w.heap.size + 1 → KW (.map (some w.heap.size)) w') : Ef P (Instr.makeMap t r) w KW :=
  .mk _ (w.alloc (.map #[] 0)) (by
    cases r with
    | none => simp [Instr.makeMap, newObj, Sem.run]
    | some v =>
      obtain ⟨k, n, rfl⟩ := hr v rfl
      simp [Instr.makeMap, run_und hm.ok, asInt, asIntOf, newObj, Sem.run]) (kk _ (Up.alloc _ _) ⟨#[], 0, Bk.alloc_new _ _, rfl, List.nodup_nil, fun e he => by cases he⟩ (by simp))

theorem stays {k : Int} {w : World} : (Instr.keyThatStays (.int .u64 k) (.int .u64 k)).run P w = .ok (.int .u64 k) w := by
  have : Instr.sameBits 10000 (.int .u64 k) (.int .u64 k) = true := by simp [Instr.sameBits]
  simp [Instr.keyThatStays, this]

/-- A value put into a map. -/
theorem u_put {KU : World → Prop} {q : IntKind} [hm : TUn P t (.map kt et)] [hk : TUn P kt (.int q)] {b : Nat} {l : KV} {k : Int} {v : Value} (h : Mp w b l)
    (kk : ∀ w', Up (fun x => x = b) [0] w w' → Mp w' b (put l k v) → w'.heap.size = w.heap.size → KU w') : Eu P (Instr.mapUpdate t (.map (some b)) (.int .u64 k) v) w KU := by
  obtain ⟨es, c, hb, ho⟩ := h
  rcases find_spec q k v es.toList l 0 ho.same with ⟨j, e, hj, hf, _, hek, hp, _⟩ | ⟨hf, _, hp, _⟩
  · rw [Nat.zero_add] at hf
    have hj' : es[j]? = some e := by rw [← Array.getElem?_toList]; exact hj
    have hr : (Instr.mapUpdate t (.map (some b)) (.int .u64 k) v).run P w = .ok () { w with heap := w.heap.setIfInBounds b (.map (es.modify j fun e => { e with key := .int .u64 k, val := v }) c) } := by
      simp only [Instr.mapUpdate, Sem.run_bind, run_und hm.ok, Result.andThen_ok, run_getObj hb, run_checkKey, run_findKey hf, hj', Option.map_some, Option.getD_some, hek, stays, run_setObj hb]
    refine .mk _ hr (kk _ (Up.setObj hb) ⟨_, c, hb.setObj, ?_, ?_, ?_⟩ (by simp))
    · rw [Array.toList_modify]; exact hp _ rfl rfl
    · rw [Array.toList_modify]
      have : (es.toList.modify j fun e => { e with key := .int .u64 k, val := v }).map (·.born) = es.toList.map (·.born) := by
        apply List.ext_getElem?
        intro i
        simp only [List.getElem?_map, List.getElem?_modify]
        cases es.toList[i]? with
        | none => rfl
        | some x => by_cases hji : j = i <;> simp [hji]
      rw [this]; exact ho.born
    · intro x hx
      rw [Array.toList_modify] at hx
      obtain ⟨i, hi⟩ := List.getElem?_of_mem hx
      rw [List.getElem?_modify] at hi
      cases hz : es.toList[i]? with
      | none => rw [hz] at hi; cases hi
      | some y =>
        rw [hz] at hi
        have := ho.old y (List.mem_of_getElem? hz)
        by_cases hji : j = i
        · simp [hji] at hi; rw [← hi]; exact this
        · simp [hji] at hi; rw [← hi]; exact this
  · have hr : (Instr.mapUpdate t (.map (some b)) (.int .u64 k) v).run P w = .ok () { w with heap := w.heap.setIfInBounds b (.map (es.push { key := .int .u64 k, val := v, born := c }) (c + 1)) } := by
      simp only [Instr.mapUpdate, Sem.run_bind, run_und hm.ok, Result.andThen_ok, run_getObj hb, run_checkKey, run_findKey hf, run_setObj hb]
    refine .mk _ hr (kk _ (Up.setObj hb) ⟨_, c + 1, hb.setObj, ?_, ?_, ?_⟩ (by simp))
    · have := ho.same
      simp only [kvs, kvl] at this
      simp only [kvs, kvl, Array.toList_push, List.map_append, hp, this]
      rfl
    · rw [Array.toList_push, List.map_append]
      rw [List.nodup_append]
      refine ⟨ho.born, by simp, ?_⟩
      intro a ha b' hb' hab
      simp only [List.map_cons, List.map_nil, List.mem_singleton] at hb'
      obtain ⟨x, hx, rfl⟩ := List.mem_map.1 ha
      have := ho.old x hx
      omega
    · intro x hx
      rw [Array.toList_push, List.mem_append] at hx
      rcases hx with hx | hx
      · have := ho.old x hx; omega
      · rw [List.mem_singleton.1 hx]; exact Nat.lt_succ_self c

/-- A key taken out of a map. -/
theorem e_del {ty : TypeId} {ts : Array TypeId} {q : IntKind} [hm : TUn P t (.map kt et)] [hk : TUn P kt (.int q)] {b : Nat} {l : KV} {k : Int} (h : Mp w b l) (hts : ts[0]? = some t)
    (kk : ∀ w', Up (fun x => x = b) [0] w w' → Mp w' b (del l k) → w'.heap.size = w.heap.size → KW (.tuple #[]) w') : Ef P (Builtin.delete_ ts ty #[.map (some b), .int .u64 k]) w KW := by
  obtain ⟨es, c, hb, ho⟩ := h
  rcases find_spec q k undef es.toList l 0 ho.same with ⟨j, e, hj, hf, _, hek, _, hp⟩ | ⟨hf, _, _, hp⟩
  · rw [Nat.zero_add] at hf
    have hr : (Builtin.delete_ ts ty #[.map (some b), .int .u64 k]).run P w = .ok (.tuple #[]) { w with heap := w.heap.setIfInBounds b (.map (es.eraseIdxIfInBounds j) c) } := by
      simp [Builtin.delete_, hts, run_und hm.ok, run_getObj hb, run_checkKey, run_findKey hf, run_setObj hb]
    have hel : (es.eraseIdxIfInBounds j).toList = es.toList.eraseIdx j := by
      have hjl : j < es.size := by have := (List.getElem?_eq_some_iff.1 hj).1; simpa using this
      simp [Array.eraseIdxIfInBounds, hjl]
    refine .mk _ _ hr (kk _ (Up.setObj hb) ⟨_, c, hb.setObj, ?_, ?_, ?_⟩ (by simp))
    · rw [hel]; exact hp
    · rw [hel]; exact ho.born.sublist ((List.eraseIdx_sublist _ _).map _)
    · rw [hel]; intro x hx; exact ho.old x (List.mem_of_mem_eraseIdx hx)
  · have hr : (Builtin.delete_ ts ty #[.map (some b), .int .u64 k]).run P w = .ok (.tuple #[]) { w with heap := w.heap.setIfInBounds b (.map es c) } := by
      simp [Builtin.delete_, hts, run_und hm.ok, run_getObj hb, run_checkKey, run_findKey hf, run_setObj hb]
    refine .mk _ _ hr (kk _ (Up.setObj hb) ⟨_, c, hb.setObj, ?_, ho.born, ho.old⟩ (by simp))
    rw [hp]; exact ho.same

/-! Ranges. -/

/-- Block i iterates the map l in block b; rem is what is left of it. -/
def It (w : World) (i b : Nat) (l rem : KV) : Prop :=
  ∃ es clock since seen, Bk w b (.map es clock) ∧ MapOk es clock l ∧ Bk w i (.mapIter (some b) since seen clock) ∧ (∀ e ∈ es.toList, e.born < since) ∧ since ≤ clock ∧ kvs (leftOf es seen).toList = kvl rem ∧ i ≠ b

/-- The entry at which the iteration stands. -/
def Cu (w : World) (i : Nat) (p : Int × Value) : Prop :=
  ∃ b es clock since, ∃ (seen : Array Nat), ∃ e, Bk w b (.map es clock) ∧ (es.toList.map (·.born)).Nodup ∧ e ∈ es.toList ∧ e.key = .int .u64 p.1 ∧ e.val = p.2 ∧ Bk w i (.mapIter (some b) since (seen.push e.born) clock)

theorem It.ex {w w' : World} {i b : Nat} {l rem : KV} (e : Ex w w') (h : It w i b l rem) : It w' i b l rem := by
  obtain ⟨es, c, s, seen, h1, h2, h3, h4⟩ := h
  exact ⟨es, c, s, seen, e.at_ h1, h2, e.at_ h3, h4⟩
theorem It.up {C : Nat → Prop} {T : List Nat} {w w' : World} {i b : Nat} {l rem : KV} (e : Up C T w w') (h : It w i b l rem) (hi : T.contains 1 = false ∨ ¬ C i) (hb : T.contains 0 = false ∨ ¬ C b) : It w' i b l rem := by
  obtain ⟨es, c, s, seen, h1, h2, h3, h4⟩ := h
  exact ⟨es, c, s, seen, e.keep _ _ h1 hb, h2, e.keep _ _ h3 hi, h4⟩
instance {i b : Nat} {l rem : KV} : St (fun w => It w i b l rem) := ⟨fun _ _ e h => h.ex e⟩
theorem It.mp {w : World} {i b : Nat} {l rem : KV} (h : It w i b l rem) : Mp w b l := by
  obtain ⟨es, c, s, seen, h1, h2, _⟩ := h
  exact ⟨es, c, h1, h2⟩

theorem Cu.ex {w w' : World} {i : Nat} {p : Int × Value} (e : Ex w w') : Cu w i p → Cu w' i p := fun ⟨b, es, c, s, seen, x, h1, h2, h3, h4, h5, h6⟩ => ⟨b, es, c, s, seen, x, e.at_ h1, h2, h3, h4, h5, e.at_ h6⟩
theorem e_range [hm : TUn P t (.map kt et)] {b : Nat} {l : KV} (h : Mp w b l) (kk : ∀ w', Ex w w' → It w' w.heap.size b l l → w'.heap.size = w.heap.size + 1 → KW (.pointer (some ⟨w.heap.size, 0, none⟩)) w') : Ef P (Instr.range t (.map (some b))) w KW := by
  obtain ⟨es, c, hb, ho⟩ := h
  refine .mk _ (w.alloc (.mapIter (some b) c #[] c)) (by simp [Instr.range, run_und hm.ok, run_getObj hb, newObj, Sem.run]) (kk _ (Up.alloc _ _) ⟨es, c, c, #[], (Up.alloc _ _).at_ hb, ho, Bk.alloc_new _ _, ho.old, Nat.le_refl _, ?_, ?_⟩ (by simp))
  · rw [← ho.same]
    simp [leftOf, kvs, List.filter_eq_self.2]
  · have := hb.lt; omega

/-- A nil map's range is over at once. -/
def It0 (w : World) (i : Nat) : Prop := ∃ s q c, Bk w i (.mapIter none s q c)
instance {i : Nat} : St (fun w => It0 w i) := ⟨fun _ _ e ⟨s, q, c, h⟩ => ⟨s, q, c, e.at_ h⟩⟩
instance {i : Nat} {p : Int × Value} : St (fun w => Cu w i p) := ⟨fun _ _ e ⟨b, es, c, s, seen, x, h1, h2, h3, h4, h5, h6⟩ => ⟨b, es, c, s, seen, x, e.at_ h1, h2, h3, h4, h5, e.at_ h6⟩⟩
theorem e_range0 [hm : TUn P t (.map kt et)] (kk : ∀ w', Ex w w' → It0 w' w.heap.size → w'.heap.size = w.heap.size + 1 → KW (.pointer (some ⟨w.heap.size, 0, none⟩)) w') : Ef P (Instr.range t (.map none)) w KW :=
  .mk _ (w.alloc (.mapIter none 0 #[] 0)) (by simp [Instr.range, run_und hm.ok, newObj, Sem.run]) (kk _ (Up.alloc _ _) ⟨_, _, _, Bk.alloc_new _ _⟩ (by simp))
theorem e_next0 {i : Nat} {ty : TypeId} (h : It0 w i) (kk : KW (.tuple #[.bool false]) w) : Ef P (Instr.next (.pointer (some ⟨i, 0, none⟩)) false ty) w KW := by
  obtain ⟨s, q, c, hb⟩ := h
  exact .mk _ w (by simp [Instr.next, run_getObj hb]) kk

theorem e_next {i b : Nat} {l rem : KV} {ty : TypeId} (h : It w i b l rem) (h0 : rem = [] → KW (.tuple #[.bool false]) w)
    (h1 : ∀ p l1 l2 w', rem = l1 ++ p :: l2 → Up (fun x => x = i) [1] w w' → It w' i b l (l1 ++ l2) → Cu w' i p → p ∈ l → w'.heap.size = w.heap.size → KW (.tuple #[.bool true, .int .u64 p.1, p.2]) w') : Ef P (Instr.next (.pointer (some ⟨i, 0, none⟩)) false ty) w KW := by
  obtain ⟨es, c, s, seen, hb, ho, hi, hs, hsc, hl, hne⟩ := h
  rcases run_next_at (P := P) w ty i b s c seen es c hi hb hs hsc with ⟨hz, hr⟩ | ⟨e, he, w1, hw1, hr⟩
  · refine .mk _ w hr (h0 ?_)
    have : (leftOf es seen).toList = [] := List.eq_nil_of_length_eq_zero (by simpa using hz)
    rw [this] at hl
    cases rem with
    | nil => rfl
    | cons p r => cases hl
  · have hee : e ∈ es.toList := by
      simp only [leftOf, Array.toList_filter, List.mem_filter] at he
      exact he.1
    have hal : Ex w w1 := by rcases hw1 with rfl | rfl <;> first | exact Up.refl _ _ _ | exact Up.drew _ _ _
    have hb1 := hal.at_ hb
    have hi1 := hal.at_ hi
    have hz1 : w1.heap.size = w.heap.size := by rcases hw1 with rfl | rfl <;> rfl
    obtain ⟨a1, a2, ha⟩ := List.append_of_mem he
    have hsplit : ∃ p l1 l2, rem = l1 ++ p :: l2 ∧ e.key = .int .u64 p.1 ∧ e.val = p.2 ∧ kvs a1 = kvl l1 ∧ kvs a2 = kvl l2 := by
      rw [ha] at hl
      clear ha h1 h0 hr
      induction a1 generalizing rem with
      | nil =>
        cases rem with
        | nil => cases hl
        | cons p r =>
          simp only [kvs, kvl, List.nil_append, List.map_cons, List.cons.injEq, Prod.mk.injEq] at hl
          exact ⟨p, [], r, rfl, hl.1.1, hl.1.2, rfl, hl.2⟩
      | cons x a1 ih =>
        cases rem with
        | nil => cases hl
        | cons p r =>
          simp only [kvs, kvl, List.cons_append, List.map_cons, List.cons.injEq] at hl
          obtain ⟨p', l1, l2, h1, h2, h3, h4, h5⟩ := ih hl.2
          refine ⟨p', p :: l1, l2, by rw [h1]; rfl, h2, h3, ?_, h5⟩
          simp only [kvs, kvl, List.map_cons, List.cons.injEq] at h4 ⊢
          exact ⟨hl.1, h4⟩
    obtain ⟨p, l1, l2, hrem, hk, hv, hk1, hk2⟩ := hsplit
    have hup : Up (fun x => x = i) [1] w (setBlock w1 i (.mapIter (some b) s (seen.push e.born) c)) := (Up.of_ex hal).trans (Up.setObj (o' := .mapIter (some b) s (seen.push e.born) c) hi1)
    have hb2 : Bk (setBlock w1 i (.mapIter (some b) s (seen.push e.born) c)) b (.map es c) := hup.off hb (fun h => hne h.symm)
    have hi2 : Bk (setBlock w1 i (.mapIter (some b) s (seen.push e.born) c)) i (.mapIter (some b) s (seen.push e.born) c) := hi1.setObj
    rw [hk, hv] at hr
    refine .mk _ _ hr (h1 p l1 l2 _ hrem hup ⟨es, c, s, seen.push e.born, hb2, ho, hi2, hs, hsc, ?_, hne⟩ ⟨b, es, c, s, seen, e, hb2, ho.born, hee, hk, hv, hi2⟩ ?_ (by simp [setBlock, hz1]))
    · have hnd : ((leftOf es seen).toList.map (·.born)).Nodup := by
        simp only [leftOf, Array.toList_filter]
        exact ho.born.sublist (List.filter_sublist.map _)
      have hfil : (leftOf es (seen.push e.born)).toList = a1 ++ a2 := by
        have h2 : (leftOf es (seen.push e.born)).toList = (leftOf es seen).toList.filter (fun x => !(x.born == e.born)) := by
          simp only [leftOf, Array.toList_filter, List.filter_filter]
          congr 1
          funext x
          simp only [Array.contains_push, Bool.not_or]
          exact Bool.and_comm _ _
        rw [h2, ha]
        rw [ha, List.map_append, List.map_cons, List.nodup_append] at hnd
        obtain ⟨_, hn2, hn3⟩ := hnd
        rw [List.nodup_cons] at hn2
        rw [List.filter_append, List.filter_cons]
        simp only [beq_self_eq_true, Bool.not_true, Bool.false_eq_true, if_false]
        rw [List.filter_eq_self.2, List.filter_eq_self.2]
        · intro x hx
          have : x.born ≠ e.born := fun hxe => hn2.1 (hxe ▸ List.mem_map_of_mem hx)
          simpa using this
        · intro x hx
          have : x.born ≠ e.born := hn3 _ (List.mem_map_of_mem hx) _ (by simp)
          simpa using this
      rw [hfil]
      simp only [kvs, kvl, List.map_append] at hk1 hk2 ⊢
      rw [hk1, hk2]
    · have : (e.key, e.val) ∈ kvl l := by rw [← ho.same]; exact List.mem_map_of_mem (f := fun e : MapEntry => (e.key, e.val)) hee
      obtain ⟨p', hp', heq⟩ := List.mem_map.1 this
      simp only [hk, hv, Prod.mk.injEq, Value.int.injEq, true_and] at heq
      obtain ⟨h1, h2⟩ := heq
      have : p' = p := Prod.ext h1 h2
      rw [← this]; exact hp'

theorem q_entryS {i : Nat} {p : Int × Value} (h : ∀ w, S w → Cu w i p) (kk : K (.tuple #[.int .u64 p.1, p.2])) : Qu P S (Instr.entry (.pointer (some ⟨i, 0, none⟩))) K :=
  .mk _ (fun w hw => by
    obtain ⟨b, es, c, s, seen, e, hb, hn, he, hk, hv, hi⟩ := h w hw
    rw [← hk, ← hv]
    exact run_entry_at w i b s seen es c e hi hb he hn) kk
theorem q_entry {i : Nat} {p : Int × Value} (h : Cu w i p) (kk : K (.tuple #[.int .u64 p.1, p.2])) : Qu P (Is w) (Instr.entry (.pointer (some ⟨i, 0, none⟩))) K :=
  q_entryS (fun w' hw => by cases hw; exact h) kk

end
end Go.Proofs.YtmmpogfbhelioaaGreat
/-
  The program under one name.
  Conditions: none.
-/
namespace Go.Proofs.YtmmpogfbhelioaaGreat
set_option maxRecDepth 10000
set_option linter.unusedVariables false
set_option linter.unusedSimpArgs false
noncomputable abbrev Pr : Program := Tryz.prog
end Go.Proofs.YtmmpogfbhelioaaGreat
/-
  The closed facts on types and functions, as instances, printed by mkTy.py.
  Conditions: none.
-/
namespace Go.Proofs.YtmmpogfbhelioaaGreat
set_option maxRecDepth 10000
set_option linter.unusedVariables false
set_option linter.unusedSimpArgs false
instance : TCell Pr 1 := ⟨by kernel_rfl⟩
instance : TCell Pr 3 := ⟨by kernel_rfl⟩
instance : TCell Pr 4 := ⟨by kernel_rfl⟩
instance : TCell Pr 9 := ⟨by kernel_rfl⟩
instance : TCell Pr 22 := ⟨by kernel_rfl⟩
instance : TCell Pr 23 := ⟨by kernel_rfl⟩
instance : TCell Pr 28 := ⟨by kernel_rfl⟩
instance : TCell Pr 29 := ⟨by kernel_rfl⟩
instance : TCell Pr 30 := ⟨by kernel_rfl⟩
instance : TCell Pr 36 := ⟨by kernel_rfl⟩
instance : TCell Pr 73 := ⟨by kernel_rfl⟩
instance : TCell Pr 75 := ⟨by kernel_rfl⟩
instance : TCell Pr 77 := ⟨by kernel_rfl⟩
instance : TCell Pr 86 := ⟨by kernel_rfl⟩
instance : TCell Pr 94 := ⟨by kernel_rfl⟩
instance : TCell Pr 99 := ⟨by kernel_rfl⟩
instance : TCell Pr 101 := ⟨by kernel_rfl⟩
instance : TCell Pr 102 := ⟨by kernel_rfl⟩
instance : TCell Pr 104 := ⟨by kernel_rfl⟩
instance : TCell Pr 112 := ⟨by kernel_rfl⟩
instance : TCell Pr 113 := ⟨by kernel_rfl⟩
instance : TCell Pr 115 := ⟨by kernel_rfl⟩
instance : TCell Pr 117 := ⟨by kernel_rfl⟩
instance : TCell Pr 128 := ⟨by kernel_rfl⟩
instance : TCell Pr 131 := ⟨by kernel_rfl⟩
instance : TCell Pr 132 := ⟨by kernel_rfl⟩
instance : TCell Pr 138 := ⟨by kernel_rfl⟩
instance : TCell Pr 139 := ⟨by kernel_rfl⟩
instance : TCell Pr 148 := ⟨by kernel_rfl⟩
instance : TCell Pr 150 := ⟨by kernel_rfl⟩
instance : TCell Pr 159 := ⟨by kernel_rfl⟩
instance : TCell Pr 180 := ⟨by kernel_rfl⟩
instance : TCell Pr 181 := ⟨by kernel_rfl⟩
instance : TCell Pr 182 := ⟨by kernel_rfl⟩
instance : TCell Pr 184 := ⟨by kernel_rfl⟩
instance : TCell Pr 185 := ⟨by kernel_rfl⟩
instance : TCell Pr 192 := ⟨by kernel_rfl⟩
instance : TCell Pr 212 := ⟨by kernel_rfl⟩
instance : TCell Pr 213 := ⟨by kernel_rfl⟩
instance : TCell Pr 228 := ⟨by kernel_rfl⟩
instance : TCell Pr 232 := ⟨by kernel_rfl⟩
instance : TCell Pr 233 := ⟨by kernel_rfl⟩
instance : TCell Pr 247 := ⟨by kernel_rfl⟩
instance : TCell Pr 251 := ⟨by kernel_rfl⟩
instance : TCell Pr 253 := ⟨by kernel_rfl⟩
instance : TCell Pr 277 := ⟨by kernel_rfl⟩
instance : TCell Pr 306 := ⟨by kernel_rfl⟩
instance : TAgg Pr 25 5 := ⟨by kernel_rfl⟩
instance : TAgg Pr 27 8 := ⟨by kernel_rfl⟩
instance : TAgg Pr 32 32 := ⟨by kernel_rfl⟩
instance : TAgg Pr 38 36 := ⟨by kernel_rfl⟩
instance : TAgg Pr 41 3 := ⟨by kernel_rfl⟩
instance : TAgg Pr 43 14 := ⟨by kernel_rfl⟩
instance : TAgg Pr 56 4 := ⟨by kernel_rfl⟩
instance : TAgg Pr 58 11 := ⟨by kernel_rfl⟩
instance : TAgg Pr 60 12 := ⟨by kernel_rfl⟩
instance : TAgg Pr 64 21 := ⟨by kernel_rfl⟩
instance : TAgg Pr 106 3 := ⟨by kernel_rfl⟩
instance : TAgg Pr 108 2 := ⟨by kernel_rfl⟩
instance : TAgg Pr 119 14 := ⟨by kernel_rfl⟩
instance : TAgg Pr 133 2 := ⟨by kernel_rfl⟩
instance : TAgg Pr 134 2 := ⟨by kernel_rfl⟩
instance : TAgg Pr 136 5 := ⟨by kernel_rfl⟩
instance : TAgg Pr 141 9 := ⟨by kernel_rfl⟩
instance : TAgg Pr 152 9 := ⟨by kernel_rfl⟩
instance : TAgg Pr 155 2 := ⟨by kernel_rfl⟩
instance : TAgg Pr 156 0 := ⟨by kernel_rfl⟩
instance : TAgg Pr 161 17 := ⟨by kernel_rfl⟩
instance : TAgg Pr 187 40 := ⟨by kernel_rfl⟩
instance : TAgg Pr 196 12 := ⟨by kernel_rfl⟩
instance : TAgg Pr 200 5 := ⟨by kernel_rfl⟩
instance : TAgg Pr 202 2 := ⟨by kernel_rfl⟩
instance : TAgg Pr 209 10 := ⟨by kernel_rfl⟩
instance : TAgg Pr 215 4 := ⟨by kernel_rfl⟩
instance : TAgg Pr 225 9 := ⟨by kernel_rfl⟩
instance : TAgg Pr 230 6 := ⟨by kernel_rfl⟩
instance : TAgg Pr 265 4 := ⟨by kernel_rfl⟩
instance : TAgg Pr 302 2 := ⟨by kernel_rfl⟩
instance : TAgg Pr 309 2 := ⟨by kernel_rfl⟩
instance : TAgg Pr 376 1 := ⟨by kernel_rfl⟩
instance : TZero Pr 4 (Value.bool false) := ⟨by kernel_rfl⟩
instance : TZero Pr 22 (Value.int .u64 0) := ⟨by kernel_rfl⟩
instance : TZero Pr 25 (Value.agg #[(Value.slice none 0 0), (Value.slice none 0 0), (Value.slice none 0 0), (Value.slice none 0 0), (Value.bool false)]) := ⟨by kernel_rfl⟩
instance : TZero Pr 27 (Value.agg #[(Value.string (ByteArray.mk #[])), (Value.int .u64 0), (Value.int .u64 0), (Value.slice none 0 0), (Value.slice none 0 0), (Value.slice none 0 0), (Value.slice none 0 0), (Value.bool false)]) := ⟨by kernel_rfl⟩
instance : TZero Pr 32 (Value.agg #[(Value.int .u64 0), (Value.int .u64 0), (Value.int .u64 0), (Value.int .u64 0), (Value.int .i64 0), (Value.string (ByteArray.mk #[])), (Value.int .u64 0), (Value.int .u64 0), (Value.slice none 0 0), (Value.slice none 0 0), (Value.slice none 0 0), (Value.slice none 0 0), (Value.bool false), (Value.slice none 0 0), (Value.slice none 0 0), (Value.int .u64 0), (Value.int .u64 0), (Value.slice none 0 0), (Value.slice none 0 0), (Value.slice none 0 0), (Value.slice none 0 0), (Value.bool false), (Value.bool false), (Value.int .i64 0), (Value.int .i64 0), (Value.int .i64 0), (Value.int .i64 0), (Value.int .i64 0), (Value.int .u64 0), (Value.int .u64 0), (Value.int .u64 0), (Value.int .u64 0)]) := ⟨by kernel_rfl⟩
instance : TZero Pr 38 (Value.agg #[(Value.int .u64 0), (Value.int .u64 0), (Value.int .u64 0), (Value.int .u64 0), (Value.int .i64 0), (Value.string (ByteArray.mk #[])), (Value.int .u64 0), (Value.int .u64 0), (Value.slice none 0 0), (Value.slice none 0 0), (Value.slice none 0 0), (Value.slice none 0 0), (Value.bool false), (Value.slice none 0 0), (Value.slice none 0 0), (Value.int .u64 0), (Value.int .u64 0), (Value.slice none 0 0), (Value.slice none 0 0), (Value.slice none 0 0), (Value.slice none 0 0), (Value.bool false), (Value.bool false), (Value.int .i64 0), (Value.int .i64 0), (Value.int .i64 0), (Value.int .i64 0), (Value.int .i64 0), (Value.int .u64 0), (Value.int .u64 0), (Value.int .u64 0), (Value.int .u64 0), (Value.slice none 0 0), (Value.slice none 0 0), (Value.bool false), (Value.bool false)]) := ⟨by kernel_rfl⟩
instance : TZero Pr 41 (Value.agg #[(Value.int .u64 0), (Value.int .u64 0), (Value.int .u64 0)]) := ⟨by kernel_rfl⟩
instance : TZero Pr 43 (Value.agg #[(Value.int .u64 0), (Value.int .u64 0), (Value.int .u64 0), (Value.int .u64 0), (Value.int .u64 0), (Value.string (ByteArray.mk #[])), (Value.int .u64 0), (Value.int .u64 0), (Value.slice none 0 0), (Value.slice none 0 0), (Value.slice none 0 0), (Value.slice none 0 0), (Value.bool false), (Value.slice none 0 0)]) := ⟨by kernel_rfl⟩
instance : TZero Pr 56 (Value.agg #[(Value.int .u64 0), (Value.int .u64 0), (Value.int .i64 0), (Value.string (ByteArray.mk #[]))]) := ⟨by kernel_rfl⟩
instance : TZero Pr 58 (Value.agg #[(Value.int .u64 0), (Value.int .u64 0), (Value.int .i64 0), (Value.int .u64 0), (Value.bool false), (Value.bool false), (Value.bool false), (Value.int .i64 0), (Value.int .u64 0), (Value.slice none 0 0), (Value.slice none 0 0)]) := ⟨by kernel_rfl⟩
instance : TZero Pr 60 (Value.agg #[(Value.int .u64 0), (Value.int .u64 0), (Value.int .u64 0), (Value.int .i64 0), (Value.int .u64 0), (Value.bool false), (Value.bool false), (Value.bool false), (Value.int .i64 0), (Value.int .u64 0), (Value.slice none 0 0), (Value.slice none 0 0)]) := ⟨by kernel_rfl⟩
instance : TZero Pr 64 (Value.agg #[(Value.int .i64 0), (Value.int .u64 0), (Value.int .u64 0), (Value.int .u64 0), (Value.int .u64 0), (Value.int .u64 0), (Value.int .u64 0), (Value.int .u64 0), (Value.int .u64 0), (Value.slice none 0 0), (Value.string (ByteArray.mk #[])), (Value.int .u64 0), (Value.int .u64 0), (Value.slice none 0 0), (Value.slice none 0 0), (Value.slice none 0 0), (Value.slice none 0 0), (Value.bool false), (Value.bool false), (Value.string (ByteArray.mk #[])), (Value.slice none 0 0)]) := ⟨by kernel_rfl⟩
instance : TZero Pr 106 (Value.agg #[(Value.pointer none), (Value.pointer none), (Value.pointer none)]) := ⟨by kernel_rfl⟩
instance : TZero Pr 108 (Value.agg #[(Value.slice none 0 0), (Value.pointer none)]) := ⟨by kernel_rfl⟩
instance : TZero Pr 113 (Value.int .i32 0) := ⟨by kernel_rfl⟩
instance : TZero Pr 119 (Value.agg #[(Value.pointer none), (Value.pointer none), (Value.pointer none), (Value.pointer none), (Value.pointer none), (Value.pointer none), (Value.slice none 0 0), (Value.pointer none), (Value.pointer none), (Value.pointer none), (Value.pointer none), (Value.pointer none), (Value.slice none 0 0), (Value.slice none 0 0)]) := ⟨by kernel_rfl⟩
instance : TZero Pr 133 (Value.agg #[(Value.map none), (Value.map none)]) := ⟨by kernel_rfl⟩
instance : TZero Pr 134 (Value.agg #[(Value.map none), (Value.map none)]) := ⟨by kernel_rfl⟩
instance : TZero Pr 136 (Value.agg #[(Value.map none), (Value.map none), (Value.bool false), (Value.map none), (Value.map none)]) := ⟨by kernel_rfl⟩
instance : TZero Pr 141 (Value.agg #[(Value.map none), (Value.map none), (Value.bool false), (Value.map none), (Value.map none), (Value.map none), (Value.map none), (Value.int .i64 0), (Value.int .u64 0)]) := ⟨by kernel_rfl⟩
instance : TZero Pr 146 (Value.pointer none) := ⟨by kernel_rfl⟩
instance : TZero Pr 152 (Value.agg #[(Value.int .u64 0), (Value.int .u64 0), (Value.int .u64 0), (Value.int .u64 0), (Value.int .u64 0), (Value.bool false), (Value.bool false), (Value.pointer none), (Value.bool false)]) := ⟨by kernel_rfl⟩
instance : TZero Pr 155 (Value.agg #[(Value.int .u64 0), (Value.bool false)]) := ⟨by kernel_rfl⟩
instance : TZero Pr 156 (Value.agg #[]) := ⟨by kernel_rfl⟩
instance : TZero Pr 161 (Value.agg #[(Value.int .u64 0), (Value.int .u64 0), (Value.int .u64 0), (Value.int .u64 0), (Value.int .u64 0), (Value.int .u64 0), (Value.bool false), (Value.bool false), (Value.bool false), (Value.int .i64 0), (Value.int .i64 0), (Value.int .i64 0), (Value.int .i64 0), (Value.int .i64 0), (Value.int .u64 0), (Value.int .u64 0), (Value.int .u64 0)]) := ⟨by kernel_rfl⟩
instance : TZero Pr 187 (Value.agg #[(Value.int .u64 0), (Value.int .u64 0), (Value.int .u64 0), (Value.slice none 0 0), (Value.pointer none), (Value.int .u64 0), (Value.int .u64 0), (Value.map none), (Value.map none), (Value.bool false), (Value.map none), (Value.map none), (Value.map none), (Value.map none), (Value.int .i64 0), (Value.int .u64 0), (Value.int .u64 0), (Value.bool false), (Value.slice none 0 0), (Value.slice none 0 0), (Value.int .u64 0), (Value.int .u64 0), (Value.int .u64 0), (Value.bool false), (Value.int .u64 0), (Value.pointer none), (Value.int .i64 0), (Value.int .i64 0), (Value.bool false), (Value.bool false), (Value.int .i64 0), (Value.int .i64 0), (Value.int .i64 0), (Value.bool false), (Value.bool false), Value.nilFunc, Value.nilFunc, (Value.slice none 0 0), (Value.slice none 0 0), (Value.int .i64 0)]) := ⟨by kernel_rfl⟩
instance : TZero Pr 194 (Value.agg #[(Value.pointer none), (Value.slice none 0 0), (Value.int .u64 0), (Value.bool false), (Value.int .u64 0)]) := ⟨by kernel_rfl⟩
instance : TZero Pr 196 (Value.agg #[Value.nilIface, (Value.pointer none), (Value.slice none 0 0), (Value.int .u64 0), (Value.bool false), (Value.int .u64 0), (Value.int .u64 0), (Value.int .u64 0), (Value.int .u64 0), (Value.int .u64 0), (Value.int .u64 0), (Value.bool false)]) := ⟨by kernel_rfl⟩
instance : TZero Pr 200 (Value.agg #[(Value.slice none 0 0), (Value.slice none 0 0), (Value.slice none 0 0), (Value.slice none 0 0), (Value.pointer none)]) := ⟨by kernel_rfl⟩
instance : TZero Pr 202 (Value.agg #[(Value.int .u64 0), (Value.int .u64 0)]) := ⟨by kernel_rfl⟩
instance : TZero Pr 209 (Value.agg #[(Value.map none), (Value.map none), (Value.bool false), (Value.map none), (Value.map none), (Value.map none), (Value.map none), (Value.int .i64 0), (Value.int .u64 0), (Value.int .u64 0)]) := ⟨by kernel_rfl⟩
instance : TZero Pr 215 (Value.agg #[(Value.pointer none), (Value.pointer none), (Value.pointer none), (Value.slice none 0 0)]) := ⟨by kernel_rfl⟩
instance : TZero Pr 225 (Value.agg #[(Value.pointer none), (Value.pointer none), (Value.slice none 0 0), (Value.int .i64 0), (Value.int .i64 0), (Value.int .i64 0), (Value.int .i64 0), (Value.int .i64 0), (Value.int .i64 0)]) := ⟨by kernel_rfl⟩
instance : TZero Pr 230 (Value.agg #[(Value.int .i64 0), (Value.int .i64 0), (Value.int .u64 0), (Value.int .i64 0), (Value.int .u64 0), (Value.slice none 0 0)]) := ⟨by kernel_rfl⟩
instance : TZero Pr 233 (Value.int .i32 0) := ⟨by kernel_rfl⟩
instance : TZero Pr 238 (Value.agg #[(Value.int .u64 0), (Value.int .u64 0), (Value.int .u64 0), (Value.int .u64 0), (Value.int .u64 0), (Value.int .u64 0), (Value.int .u64 0)]) := ⟨by kernel_rfl⟩
instance : TZero Pr 247 (Value.slice none 0 0) := ⟨by kernel_rfl⟩
instance : TZero Pr 251 (Value.pointer none) := ⟨by kernel_rfl⟩
instance : TZero Pr 265 (Value.agg #[(Value.int .i64 0), (Value.map none), (Value.slice none 0 0), (Value.int .u64 0)]) := ⟨by kernel_rfl⟩
instance : TZero Pr 302 (Value.agg #[(Value.int .u64 0), (Value.int .u64 0)]) := ⟨by kernel_rfl⟩
instance : TZero Pr 306 (Value.int .i32 0) := ⟨by kernel_rfl⟩
instance : TZero Pr 309 (Value.agg #[(Value.pointer none), (Value.pointer none)]) := ⟨by kernel_rfl⟩
instance : TZero Pr 376 (Value.agg #[(Value.string (ByteArray.mk #[]))]) := ⟨by kernel_rfl⟩
instance : TFld Pr 25 0 0 := ⟨by kernel_rfl⟩
instance : TFld Pr 25 1 1 := ⟨by kernel_rfl⟩
instance : TFld Pr 25 2 2 := ⟨by kernel_rfl⟩
instance : TFld Pr 25 3 3 := ⟨by kernel_rfl⟩
instance : TFld Pr 25 4 4 := ⟨by kernel_rfl⟩
instance : TFld Pr 27 0 0 := ⟨by kernel_rfl⟩
instance : TFld Pr 27 1 1 := ⟨by kernel_rfl⟩
instance : TFld Pr 27 2 2 := ⟨by kernel_rfl⟩
instance : TFld Pr 27 3 3 := ⟨by kernel_rfl⟩
instance : TFld Pr 32 0 0 := ⟨by kernel_rfl⟩
instance : TFld Pr 32 1 1 := ⟨by kernel_rfl⟩
instance : TFld Pr 32 2 2 := ⟨by kernel_rfl⟩
instance : TFld Pr 32 3 3 := ⟨by kernel_rfl⟩
instance : TFld Pr 32 4 4 := ⟨by kernel_rfl⟩
instance : TFld Pr 32 5 5 := ⟨by kernel_rfl⟩
instance : TFld Pr 32 6 13 := ⟨by kernel_rfl⟩
instance : TFld Pr 32 7 14 := ⟨by kernel_rfl⟩
instance : TFld Pr 32 8 15 := ⟨by kernel_rfl⟩
instance : TFld Pr 32 9 16 := ⟨by kernel_rfl⟩
instance : TFld Pr 32 10 17 := ⟨by kernel_rfl⟩
instance : TFld Pr 32 11 18 := ⟨by kernel_rfl⟩
instance : TFld Pr 32 12 19 := ⟨by kernel_rfl⟩
instance : TFld Pr 32 13 20 := ⟨by kernel_rfl⟩
instance : TFld Pr 32 14 21 := ⟨by kernel_rfl⟩
instance : TFld Pr 32 15 22 := ⟨by kernel_rfl⟩
instance : TFld Pr 32 16 23 := ⟨by kernel_rfl⟩
instance : TFld Pr 32 17 24 := ⟨by kernel_rfl⟩
instance : TFld Pr 32 18 25 := ⟨by kernel_rfl⟩
instance : TFld Pr 32 19 26 := ⟨by kernel_rfl⟩
instance : TFld Pr 32 20 27 := ⟨by kernel_rfl⟩
instance : TFld Pr 32 21 28 := ⟨by kernel_rfl⟩
instance : TFld Pr 32 22 29 := ⟨by kernel_rfl⟩
instance : TFld Pr 32 23 30 := ⟨by kernel_rfl⟩
instance : TFld Pr 32 24 31 := ⟨by kernel_rfl⟩
instance : TFld Pr 38 0 0 := ⟨by kernel_rfl⟩
instance : TFld Pr 38 1 32 := ⟨by kernel_rfl⟩
instance : TFld Pr 38 2 33 := ⟨by kernel_rfl⟩
instance : TFld Pr 38 3 34 := ⟨by kernel_rfl⟩
instance : TFld Pr 38 4 35 := ⟨by kernel_rfl⟩
instance : TFld Pr 41 0 0 := ⟨by kernel_rfl⟩
instance : TFld Pr 41 1 1 := ⟨by kernel_rfl⟩
instance : TFld Pr 41 2 2 := ⟨by kernel_rfl⟩
instance : TFld Pr 43 1 1 := ⟨by kernel_rfl⟩
instance : TFld Pr 43 2 2 := ⟨by kernel_rfl⟩
instance : TFld Pr 43 3 5 := ⟨by kernel_rfl⟩
instance : TFld Pr 43 4 13 := ⟨by kernel_rfl⟩
instance : TFld Pr 56 0 0 := ⟨by kernel_rfl⟩
instance : TFld Pr 56 1 1 := ⟨by kernel_rfl⟩
instance : TFld Pr 56 2 2 := ⟨by kernel_rfl⟩
instance : TFld Pr 56 3 3 := ⟨by kernel_rfl⟩
instance : TFld Pr 58 0 0 := ⟨by kernel_rfl⟩
instance : TFld Pr 58 1 1 := ⟨by kernel_rfl⟩
instance : TFld Pr 58 2 2 := ⟨by kernel_rfl⟩
instance : TFld Pr 58 3 3 := ⟨by kernel_rfl⟩
instance : TFld Pr 58 4 4 := ⟨by kernel_rfl⟩
instance : TFld Pr 58 5 5 := ⟨by kernel_rfl⟩
instance : TFld Pr 58 6 6 := ⟨by kernel_rfl⟩
instance : TFld Pr 58 7 7 := ⟨by kernel_rfl⟩
instance : TFld Pr 58 8 8 := ⟨by kernel_rfl⟩
instance : TFld Pr 58 9 9 := ⟨by kernel_rfl⟩
instance : TFld Pr 58 10 10 := ⟨by kernel_rfl⟩
instance : TFld Pr 60 0 0 := ⟨by kernel_rfl⟩
instance : TFld Pr 60 1 1 := ⟨by kernel_rfl⟩
instance : TFld Pr 64 0 0 := ⟨by kernel_rfl⟩
instance : TFld Pr 64 1 1 := ⟨by kernel_rfl⟩
instance : TFld Pr 64 2 2 := ⟨by kernel_rfl⟩
instance : TFld Pr 64 3 3 := ⟨by kernel_rfl⟩
instance : TFld Pr 64 4 4 := ⟨by kernel_rfl⟩
instance : TFld Pr 64 5 5 := ⟨by kernel_rfl⟩
instance : TFld Pr 64 6 6 := ⟨by kernel_rfl⟩
instance : TFld Pr 64 7 7 := ⟨by kernel_rfl⟩
instance : TFld Pr 64 8 8 := ⟨by kernel_rfl⟩
instance : TFld Pr 64 9 9 := ⟨by kernel_rfl⟩
instance : TFld Pr 64 10 10 := ⟨by kernel_rfl⟩
instance : TFld Pr 64 11 18 := ⟨by kernel_rfl⟩
instance : TFld Pr 64 12 19 := ⟨by kernel_rfl⟩
instance : TFld Pr 64 13 20 := ⟨by kernel_rfl⟩
instance : TFld Pr 106 0 0 := ⟨by kernel_rfl⟩
instance : TFld Pr 106 1 1 := ⟨by kernel_rfl⟩
instance : TFld Pr 106 2 2 := ⟨by kernel_rfl⟩
instance : TFld Pr 108 0 0 := ⟨by kernel_rfl⟩
instance : TFld Pr 108 1 1 := ⟨by kernel_rfl⟩
instance : TFld Pr 119 0 0 := ⟨by kernel_rfl⟩
instance : TFld Pr 119 1 1 := ⟨by kernel_rfl⟩
instance : TFld Pr 119 2 2 := ⟨by kernel_rfl⟩
instance : TFld Pr 119 3 3 := ⟨by kernel_rfl⟩
instance : TFld Pr 119 4 4 := ⟨by kernel_rfl⟩
instance : TFld Pr 119 5 5 := ⟨by kernel_rfl⟩
instance : TFld Pr 119 6 6 := ⟨by kernel_rfl⟩
instance : TFld Pr 119 7 7 := ⟨by kernel_rfl⟩
instance : TFld Pr 119 8 8 := ⟨by kernel_rfl⟩
instance : TFld Pr 119 9 9 := ⟨by kernel_rfl⟩
instance : TFld Pr 119 10 10 := ⟨by kernel_rfl⟩
instance : TFld Pr 119 11 11 := ⟨by kernel_rfl⟩
instance : TFld Pr 119 12 12 := ⟨by kernel_rfl⟩
instance : TFld Pr 119 13 13 := ⟨by kernel_rfl⟩
instance : TFld Pr 136 0 0 := ⟨by kernel_rfl⟩
instance : TFld Pr 136 1 2 := ⟨by kernel_rfl⟩
instance : TFld Pr 136 2 3 := ⟨by kernel_rfl⟩
instance : TFld Pr 136 3 4 := ⟨by kernel_rfl⟩
instance : TFld Pr 141 0 0 := ⟨by kernel_rfl⟩
instance : TFld Pr 141 1 5 := ⟨by kernel_rfl⟩
instance : TFld Pr 141 2 6 := ⟨by kernel_rfl⟩
instance : TFld Pr 141 3 7 := ⟨by kernel_rfl⟩
instance : TFld Pr 141 4 8 := ⟨by kernel_rfl⟩
instance : TFld Pr 152 0 0 := ⟨by kernel_rfl⟩
instance : TFld Pr 152 1 1 := ⟨by kernel_rfl⟩
instance : TFld Pr 152 3 3 := ⟨by kernel_rfl⟩
instance : TFld Pr 152 4 4 := ⟨by kernel_rfl⟩
instance : TFld Pr 152 5 5 := ⟨by kernel_rfl⟩
instance : TFld Pr 152 6 6 := ⟨by kernel_rfl⟩
instance : TFld Pr 152 7 7 := ⟨by kernel_rfl⟩
instance : TFld Pr 152 8 8 := ⟨by kernel_rfl⟩
instance : TFld Pr 155 0 0 := ⟨by kernel_rfl⟩
instance : TFld Pr 155 1 1 := ⟨by kernel_rfl⟩
instance : TFld Pr 161 0 0 := ⟨by kernel_rfl⟩
instance : TFld Pr 161 1 1 := ⟨by kernel_rfl⟩
instance : TFld Pr 161 2 2 := ⟨by kernel_rfl⟩
instance : TFld Pr 161 3 3 := ⟨by kernel_rfl⟩
instance : TFld Pr 161 4 4 := ⟨by kernel_rfl⟩
instance : TFld Pr 161 5 5 := ⟨by kernel_rfl⟩
instance : TFld Pr 161 6 6 := ⟨by kernel_rfl⟩
instance : TFld Pr 161 7 7 := ⟨by kernel_rfl⟩
instance : TFld Pr 161 8 8 := ⟨by kernel_rfl⟩
instance : TFld Pr 161 9 9 := ⟨by kernel_rfl⟩
instance : TFld Pr 161 10 10 := ⟨by kernel_rfl⟩
instance : TFld Pr 161 11 11 := ⟨by kernel_rfl⟩
instance : TFld Pr 161 12 12 := ⟨by kernel_rfl⟩
instance : TFld Pr 161 13 13 := ⟨by kernel_rfl⟩
instance : TFld Pr 161 14 14 := ⟨by kernel_rfl⟩
instance : TFld Pr 161 15 15 := ⟨by kernel_rfl⟩
instance : TFld Pr 161 16 16 := ⟨by kernel_rfl⟩
instance : TFld Pr 187 0 0 := ⟨by kernel_rfl⟩
instance : TFld Pr 187 1 1 := ⟨by kernel_rfl⟩
instance : TFld Pr 187 2 2 := ⟨by kernel_rfl⟩
instance : TFld Pr 187 4 4 := ⟨by kernel_rfl⟩
instance : TFld Pr 187 5 5 := ⟨by kernel_rfl⟩
instance : TFld Pr 187 6 6 := ⟨by kernel_rfl⟩
instance : TFld Pr 187 7 7 := ⟨by kernel_rfl⟩
instance : TFld Pr 187 8 16 := ⟨by kernel_rfl⟩
instance : TFld Pr 187 9 17 := ⟨by kernel_rfl⟩
instance : TFld Pr 187 10 18 := ⟨by kernel_rfl⟩
instance : TFld Pr 187 11 19 := ⟨by kernel_rfl⟩
instance : TFld Pr 187 12 20 := ⟨by kernel_rfl⟩
instance : TFld Pr 187 13 21 := ⟨by kernel_rfl⟩
instance : TFld Pr 187 14 22 := ⟨by kernel_rfl⟩
instance : TFld Pr 187 16 24 := ⟨by kernel_rfl⟩
instance : TFld Pr 187 17 25 := ⟨by kernel_rfl⟩
instance : TFld Pr 187 18 26 := ⟨by kernel_rfl⟩
instance : TFld Pr 187 19 27 := ⟨by kernel_rfl⟩
instance : TFld Pr 187 20 28 := ⟨by kernel_rfl⟩
instance : TFld Pr 187 21 29 := ⟨by kernel_rfl⟩
instance : TFld Pr 187 22 30 := ⟨by kernel_rfl⟩
instance : TFld Pr 187 23 31 := ⟨by kernel_rfl⟩
instance : TFld Pr 187 24 32 := ⟨by kernel_rfl⟩
instance : TFld Pr 187 26 34 := ⟨by kernel_rfl⟩
instance : TFld Pr 187 27 35 := ⟨by kernel_rfl⟩
instance : TFld Pr 187 28 36 := ⟨by kernel_rfl⟩
instance : TFld Pr 187 30 38 := ⟨by kernel_rfl⟩
instance : TFld Pr 187 31 39 := ⟨by kernel_rfl⟩
instance : TFld Pr 194 0 0 := ⟨by kernel_rfl⟩
instance : TFld Pr 194 1 1 := ⟨by kernel_rfl⟩
instance : TFld Pr 194 2 2 := ⟨by kernel_rfl⟩
instance : TFld Pr 194 3 3 := ⟨by kernel_rfl⟩
instance : TFld Pr 194 4 4 := ⟨by kernel_rfl⟩
instance : TFld Pr 196 0 0 := ⟨by kernel_rfl⟩
instance : TFld Pr 196 1 1 := ⟨by kernel_rfl⟩
instance : TFld Pr 196 2 6 := ⟨by kernel_rfl⟩
instance : TFld Pr 196 3 7 := ⟨by kernel_rfl⟩
instance : TFld Pr 196 4 8 := ⟨by kernel_rfl⟩
instance : TFld Pr 196 7 11 := ⟨by kernel_rfl⟩
instance : TFld Pr 200 0 0 := ⟨by kernel_rfl⟩
instance : TFld Pr 200 1 1 := ⟨by kernel_rfl⟩
instance : TFld Pr 200 2 2 := ⟨by kernel_rfl⟩
instance : TFld Pr 200 3 3 := ⟨by kernel_rfl⟩
instance : TFld Pr 200 4 4 := ⟨by kernel_rfl⟩
instance : TFld Pr 202 0 0 := ⟨by kernel_rfl⟩
instance : TFld Pr 202 1 1 := ⟨by kernel_rfl⟩
instance : TFld Pr 209 0 0 := ⟨by kernel_rfl⟩
instance : TFld Pr 209 1 9 := ⟨by kernel_rfl⟩
instance : TFld Pr 215 0 0 := ⟨by kernel_rfl⟩
instance : TFld Pr 215 1 1 := ⟨by kernel_rfl⟩
instance : TFld Pr 215 2 2 := ⟨by kernel_rfl⟩
instance : TFld Pr 215 3 3 := ⟨by kernel_rfl⟩
instance : TFld Pr 223 1 1 := ⟨by kernel_rfl⟩
instance : TFld Pr 223 2 2 := ⟨by kernel_rfl⟩
instance : TFld Pr 223 4 4 := ⟨by kernel_rfl⟩
instance : TFld Pr 225 1 1 := ⟨by kernel_rfl⟩
instance : TFld Pr 225 2 2 := ⟨by kernel_rfl⟩
instance : TFld Pr 225 3 3 := ⟨by kernel_rfl⟩
instance : TFld Pr 230 0 0 := ⟨by kernel_rfl⟩
instance : TFld Pr 230 1 1 := ⟨by kernel_rfl⟩
instance : TFld Pr 230 2 2 := ⟨by kernel_rfl⟩
instance : TFld Pr 230 3 3 := ⟨by kernel_rfl⟩
instance : TFld Pr 230 4 4 := ⟨by kernel_rfl⟩
instance : TFld Pr 230 5 5 := ⟨by kernel_rfl⟩
instance : TFld Pr 265 0 0 := ⟨by kernel_rfl⟩
instance : TFld Pr 302 0 0 := ⟨by kernel_rfl⟩
instance : TFld Pr 302 1 1 := ⟨by kernel_rfl⟩
instance : TFld Pr 309 0 0 := ⟨by kernel_rfl⟩
instance : TFld Pr 309 1 1 := ⟨by kernel_rfl⟩
instance : TSli Pr 23 22 1 := ⟨by kernel_rfl⟩
instance : TSli Pr 28 56 4 := ⟨by kernel_rfl⟩
instance : TSli Pr 29 60 12 := ⟨by kernel_rfl⟩
instance : TSli Pr 30 155 2 := ⟨by kernel_rfl⟩
instance : TSli Pr 36 64 21 := ⟨by kernel_rfl⟩
instance : TSli Pr 94 86 1 := ⟨by kernel_rfl⟩
instance : TSli Pr 99 5 1 := ⟨by kernel_rfl⟩
instance : TSli Pr 115 212 1 := ⟨by kernel_rfl⟩
instance : TSli Pr 145 23 1 := ⟨by kernel_rfl⟩
instance : TSli Pr 185 3 1 := ⟨by kernel_rfl⟩
instance : TSli Pr 228 302 2 := ⟨by kernel_rfl⟩
instance : TSli Pr 247 251 1 := ⟨by kernel_rfl⟩
instance : TSli Pr 250 253 1 := ⟨by kernel_rfl⟩
instance : TSli Pr 324 102 1 := ⟨by kernel_rfl⟩
instance : TSli Pr 379 133 2 := ⟨by kernel_rfl⟩
instance : TSli Pr 408 131 1 := ⟨by kernel_rfl⟩
instance : TArr Pr 133 2 132 1 := ⟨by kernel_rfl⟩
instance : TArr Pr 134 2 132 1 := ⟨by kernel_rfl⟩
instance : TArr Pr 238 7 22 1 := ⟨by kernel_rfl⟩
instance : TUn Pr 3 (TypeDesc.int IntKind.i64) := ⟨by kernel_rfl⟩
instance : TUn Pr 4 TypeDesc.bool := ⟨by kernel_rfl⟩
instance : TUn Pr 5 (TypeDesc.int IntKind.u8) := ⟨by kernel_rfl⟩
instance : TUn Pr 9 TypeDesc.string := ⟨by kernel_rfl⟩
instance : TUn Pr 22 (TypeDesc.int IntKind.u64) := ⟨by kernel_rfl⟩
instance : TUn Pr 23 (TypeDesc.slice 22) := ⟨by kernel_rfl⟩
instance : TUn Pr 28 (TypeDesc.slice 56) := ⟨by kernel_rfl⟩
instance : TUn Pr 29 (TypeDesc.slice 60) := ⟨by kernel_rfl⟩
instance : TUn Pr 30 (TypeDesc.slice 155) := ⟨by kernel_rfl⟩
instance : TUn Pr 36 (TypeDesc.slice 64) := ⟨by kernel_rfl⟩
instance : TUn Pr 75 (TypeDesc.pointer 108) := ⟨by kernel_rfl⟩
instance : TUn Pr 86 (TypeDesc.pointer 119) := ⟨by kernel_rfl⟩
instance : TUn Pr 94 (TypeDesc.slice 86) := ⟨by kernel_rfl⟩
instance : TUn Pr 99 (TypeDesc.slice 5) := ⟨by kernel_rfl⟩
instance : TUn Pr 101 (TypeDesc.pointer 106) := ⟨by kernel_rfl⟩
instance : TUn Pr 102 (TypeDesc.pointer 200) := ⟨by kernel_rfl⟩
instance : TUn Pr 104 (TypeDesc.pointer 22) := ⟨by kernel_rfl⟩
instance : TUn Pr 112 (TypeDesc.pointer 113) := ⟨by kernel_rfl⟩
instance : TUn Pr 113 (TypeDesc.int IntKind.i32) := ⟨by kernel_rfl⟩
instance : TUn Pr 115 (TypeDesc.slice 212) := ⟨by kernel_rfl⟩
instance : TUn Pr 117 (TypeDesc.pointer 4) := ⟨by kernel_rfl⟩
instance : TUn Pr 121 (TypeDesc.pointer 225) := ⟨by kernel_rfl⟩
instance : TUn Pr 131 (TypeDesc.map 22 156) := ⟨by kernel_rfl⟩
instance : TUn Pr 132 (TypeDesc.map 22 156) := ⟨by kernel_rfl⟩
instance : TUn Pr 133 (TypeDesc.array 2 132) := ⟨by kernel_rfl⟩
instance : TUn Pr 134 (TypeDesc.array 2 132) := ⟨by kernel_rfl⟩
instance : TUn Pr 137 (TypeDesc.map 22 146) := ⟨by kernel_rfl⟩
instance : TUn Pr 138 (TypeDesc.map 22 146) := ⟨by kernel_rfl⟩
instance : TUn Pr 139 (TypeDesc.map 22 4) := ⟨by kernel_rfl⟩
instance : TUn Pr 145 (TypeDesc.slice 23) := ⟨by kernel_rfl⟩
instance : TUn Pr 146 (TypeDesc.pointer 152) := ⟨by kernel_rfl⟩
instance : TUn Pr 150 (TypeDesc.int IntKind.u64) := ⟨by kernel_rfl⟩
instance : TUn Pr 159 (TypeDesc.int IntKind.u64) := ⟨by kernel_rfl⟩
instance : TUn Pr 181 (TypeDesc.int IntKind.u64) := ⟨by kernel_rfl⟩
instance : TUn Pr 185 (TypeDesc.slice 3) := ⟨by kernel_rfl⟩
instance : TUn Pr 212 (TypeDesc.pointer 215) := ⟨by kernel_rfl⟩
instance : TUn Pr 213 (TypeDesc.pointer 233) := ⟨by kernel_rfl⟩
instance : TUn Pr 226 TypeDesc.string := ⟨by kernel_rfl⟩
instance : TUn Pr 228 (TypeDesc.slice 302) := ⟨by kernel_rfl⟩
instance : TUn Pr 233 (TypeDesc.int IntKind.i32) := ⟨by kernel_rfl⟩
instance : TUn Pr 238 (TypeDesc.array 7 22) := ⟨by kernel_rfl⟩
instance : TUn Pr 247 (TypeDesc.slice 251) := ⟨by kernel_rfl⟩
instance : TUn Pr 250 (TypeDesc.slice 253) := ⟨by kernel_rfl⟩
instance : TUn Pr 251 (TypeDesc.pointer 309) := ⟨by kernel_rfl⟩
instance : TUn Pr 262 (TypeDesc.map 22 22) := ⟨by kernel_rfl⟩
instance : TUn Pr 277 (TypeDesc.pointer 306) := ⟨by kernel_rfl⟩
instance : TUn Pr 306 (TypeDesc.int IntKind.i32) := ⟨by kernel_rfl⟩
instance : TUn Pr 324 (TypeDesc.slice 102) := ⟨by kernel_rfl⟩
instance : TUn Pr 374 (TypeDesc.pointer 376) := ⟨by kernel_rfl⟩
instance : TUn Pr 379 (TypeDesc.slice 133) := ⟨by kernel_rfl⟩
instance : TUn Pr 408 (TypeDesc.slice 131) := ⟨by kernel_rfl⟩
instance : TFn Pr 7 := ⟨by kernel_rfl⟩
instance : TFn Pr 8 := ⟨by kernel_rfl⟩
instance : TFn Pr 9 := ⟨by kernel_rfl⟩
instance : TFn Pr 10 := ⟨by kernel_rfl⟩
instance : TFn Pr 11 := ⟨by kernel_rfl⟩
instance : TFn Pr 12 := ⟨by kernel_rfl⟩
instance : TFn Pr 13 := ⟨by kernel_rfl⟩
instance : TFn Pr 14 := ⟨by kernel_rfl⟩
instance : TFn Pr 15 := ⟨by kernel_rfl⟩
instance : TFn Pr 16 := ⟨by kernel_rfl⟩
instance : TFn Pr 17 := ⟨by kernel_rfl⟩
instance : TFn Pr 18 := ⟨by kernel_rfl⟩
instance : TFn Pr 19 := ⟨by kernel_rfl⟩
instance : TFn Pr 20 := ⟨by kernel_rfl⟩
instance : TFn Pr 21 := ⟨by kernel_rfl⟩
instance : TFn Pr 22 := ⟨by kernel_rfl⟩
instance : TFn Pr 23 := ⟨by kernel_rfl⟩
instance : TFn Pr 24 := ⟨by kernel_rfl⟩
instance : TFn Pr 25 := ⟨by kernel_rfl⟩
instance : TFn Pr 26 := ⟨by kernel_rfl⟩
instance : TFn Pr 27 := ⟨by kernel_rfl⟩
instance : TFn Pr 28 := ⟨by kernel_rfl⟩
instance : TFn Pr 29 := ⟨by kernel_rfl⟩
instance : TFn Pr 30 := ⟨by kernel_rfl⟩
instance : TFn Pr 31 := ⟨by kernel_rfl⟩
instance : TFn Pr 32 := ⟨by kernel_rfl⟩
instance : TFn Pr 33 := ⟨by kernel_rfl⟩
instance : TFn Pr 34 := ⟨by kernel_rfl⟩
instance : TFn Pr 35 := ⟨by kernel_rfl⟩
instance : TFn Pr 36 := ⟨by kernel_rfl⟩
instance : TFn Pr 37 := ⟨by kernel_rfl⟩
instance : TFn Pr 38 := ⟨by kernel_rfl⟩
instance : TFn Pr 39 := ⟨by kernel_rfl⟩
instance : TFn Pr 40 := ⟨by kernel_rfl⟩
instance : TFn Pr 41 := ⟨by kernel_rfl⟩
instance : TFn Pr 42 := ⟨by kernel_rfl⟩
instance : TFn Pr 43 := ⟨by kernel_rfl⟩
instance : TFn Pr 44 := ⟨by kernel_rfl⟩
instance : TFn Pr 45 := ⟨by kernel_rfl⟩
instance : TFn Pr 46 := ⟨by kernel_rfl⟩
instance : TFn Pr 47 := ⟨by kernel_rfl⟩
instance : TFn Pr 48 := ⟨by kernel_rfl⟩
instance : TFn Pr 49 := ⟨by kernel_rfl⟩
instance : TFn Pr 50 := ⟨by kernel_rfl⟩
instance : TFn Pr 51 := ⟨by kernel_rfl⟩
instance : TFn Pr 52 := ⟨by kernel_rfl⟩
instance : TFn Pr 53 := ⟨by kernel_rfl⟩
instance : TFn Pr 54 := ⟨by kernel_rfl⟩
instance : TFn Pr 55 := ⟨by kernel_rfl⟩
instance : TFn Pr 56 := ⟨by kernel_rfl⟩
instance : TFn Pr 57 := ⟨by kernel_rfl⟩
instance : TFn Pr 58 := ⟨by kernel_rfl⟩
instance : TFn Pr 59 := ⟨by kernel_rfl⟩
instance : TFn Pr 60 := ⟨by kernel_rfl⟩
instance : TFn Pr 61 := ⟨by kernel_rfl⟩
instance : TFn Pr 62 := ⟨by kernel_rfl⟩
instance : TFn Pr 63 := ⟨by kernel_rfl⟩
instance : TFn Pr 64 := ⟨by kernel_rfl⟩
instance : TFn Pr 65 := ⟨by kernel_rfl⟩
instance : TFn Pr 66 := ⟨by kernel_rfl⟩
instance : TFn Pr 68 := ⟨by kernel_rfl⟩
instance : TFn Pr 69 := ⟨by kernel_rfl⟩
instance : TFn Pr 70 := ⟨by kernel_rfl⟩
instance : TFn Pr 71 := ⟨by kernel_rfl⟩
instance : TFn Pr 72 := ⟨by kernel_rfl⟩
instance : TFn Pr 73 := ⟨by kernel_rfl⟩
instance : TFn Pr 74 := ⟨by kernel_rfl⟩
instance : TFn Pr 75 := ⟨by kernel_rfl⟩
instance : TFn Pr 76 := ⟨by kernel_rfl⟩
instance : TFn Pr 77 := ⟨by kernel_rfl⟩
instance : TFn Pr 78 := ⟨by kernel_rfl⟩
instance : TFn Pr 79 := ⟨by kernel_rfl⟩
instance : TFn Pr 80 := ⟨by kernel_rfl⟩
instance : TFn Pr 81 := ⟨by kernel_rfl⟩
instance : TFn Pr 82 := ⟨by kernel_rfl⟩
instance : TFn Pr 83 := ⟨by kernel_rfl⟩
instance : TFn Pr 84 := ⟨by kernel_rfl⟩
instance : TFn Pr 85 := ⟨by kernel_rfl⟩
instance : TFn Pr 86 := ⟨by kernel_rfl⟩
instance : TFn Pr 87 := ⟨by kernel_rfl⟩
instance : TFn Pr 88 := ⟨by kernel_rfl⟩
instance : TFn Pr 89 := ⟨by kernel_rfl⟩
instance : TFn Pr 90 := ⟨by kernel_rfl⟩
instance : TFn Pr 91 := ⟨by kernel_rfl⟩
instance : TFn Pr 92 := ⟨by kernel_rfl⟩
instance : TFn Pr 93 := ⟨by kernel_rfl⟩
instance : TFn Pr 94 := ⟨by kernel_rfl⟩
instance : TFn Pr 95 := ⟨by kernel_rfl⟩
instance : TFn Pr 96 := ⟨by kernel_rfl⟩
instance : TFn Pr 97 := ⟨by kernel_rfl⟩
instance : TFn Pr 98 := ⟨by kernel_rfl⟩
instance : TFn Pr 99 := ⟨by kernel_rfl⟩
instance : TFn Pr 100 := ⟨by kernel_rfl⟩
instance : TFn Pr 101 := ⟨by kernel_rfl⟩
instance : TFn Pr 102 := ⟨by kernel_rfl⟩
instance : TFn Pr 103 := ⟨by kernel_rfl⟩
instance : TFn Pr 104 := ⟨by kernel_rfl⟩
instance : TFn Pr 105 := ⟨by kernel_rfl⟩
instance : TFn Pr 106 := ⟨by kernel_rfl⟩
instance : TFn Pr 107 := ⟨by kernel_rfl⟩
instance : TFn Pr 108 := ⟨by kernel_rfl⟩
instance : TFn Pr 109 := ⟨by kernel_rfl⟩
instance : TFn Pr 110 := ⟨by kernel_rfl⟩
instance : TFn Pr 111 := ⟨by kernel_rfl⟩
instance : TFn Pr 112 := ⟨by kernel_rfl⟩
instance : TFn Pr 113 := ⟨by kernel_rfl⟩
instance : TFn Pr 114 := ⟨by kernel_rfl⟩
instance : TFn Pr 115 := ⟨by kernel_rfl⟩
instance : TFn Pr 116 := ⟨by kernel_rfl⟩
instance : TFn Pr 117 := ⟨by kernel_rfl⟩
instance : TFn Pr 118 := ⟨by kernel_rfl⟩
instance : TFn Pr 119 := ⟨by kernel_rfl⟩
instance : TFn Pr 120 := ⟨by kernel_rfl⟩
instance : TFn Pr 121 := ⟨by kernel_rfl⟩
instance : TFn Pr 122 := ⟨by kernel_rfl⟩
instance : TFn Pr 123 := ⟨by kernel_rfl⟩
instance : TFn Pr 124 := ⟨by kernel_rfl⟩
instance : TFn Pr 125 := ⟨by kernel_rfl⟩
instance : TFn Pr 126 := ⟨by kernel_rfl⟩
instance : TFn Pr 127 := ⟨by kernel_rfl⟩
instance : TFn Pr 128 := ⟨by kernel_rfl⟩
instance : TFn Pr 129 := ⟨by kernel_rfl⟩
instance : TFn Pr 130 := ⟨by kernel_rfl⟩
instance : TFn Pr 131 := ⟨by kernel_rfl⟩
instance : TFn Pr 132 := ⟨by kernel_rfl⟩
instance : TFn Pr 133 := ⟨by kernel_rfl⟩
instance : TFn Pr 134 := ⟨by kernel_rfl⟩
instance : TFn Pr 135 := ⟨by kernel_rfl⟩
instance : TFn Pr 136 := ⟨by kernel_rfl⟩
instance : TFn Pr 137 := ⟨by kernel_rfl⟩
instance : TFn Pr 138 := ⟨by kernel_rfl⟩
instance : TFn Pr 139 := ⟨by kernel_rfl⟩
instance : TFn Pr 140 := ⟨by kernel_rfl⟩
instance : TFn Pr 141 := ⟨by kernel_rfl⟩
instance : TFn Pr 142 := ⟨by kernel_rfl⟩
instance : TFn Pr 143 := ⟨by kernel_rfl⟩
instance : TFn Pr 144 := ⟨by kernel_rfl⟩
instance : TFn Pr 145 := ⟨by kernel_rfl⟩
instance : TFn Pr 146 := ⟨by kernel_rfl⟩
instance : TFn Pr 147 := ⟨by kernel_rfl⟩
instance : TFn Pr 148 := ⟨by kernel_rfl⟩
instance : TFn Pr 149 := ⟨by kernel_rfl⟩
instance : TFn Pr 150 := ⟨by kernel_rfl⟩
instance : TFn Pr 151 := ⟨by kernel_rfl⟩
instance : TFn Pr 152 := ⟨by kernel_rfl⟩
instance : TFn Pr 153 := ⟨by kernel_rfl⟩
instance : TFn Pr 154 := ⟨by kernel_rfl⟩
instance : TFn Pr 156 := ⟨by kernel_rfl⟩
instance : TFn Pr 157 := ⟨by kernel_rfl⟩
instance : TFn Pr 158 := ⟨by kernel_rfl⟩
instance : TFn Pr 159 := ⟨by kernel_rfl⟩
instance : TFn Pr 160 := ⟨by kernel_rfl⟩
instance : TFn Pr 161 := ⟨by kernel_rfl⟩
instance : TFn Pr 162 := ⟨by kernel_rfl⟩
instance : TFn Pr 163 := ⟨by kernel_rfl⟩
instance : TFn Pr 165 := ⟨by kernel_rfl⟩
instance : TFn Pr 166 := ⟨by kernel_rfl⟩
instance : TFn Pr 170 := ⟨by kernel_rfl⟩
instance : TFn Pr 171 := ⟨by kernel_rfl⟩
instance : TFn Pr 192 := ⟨by kernel_rfl⟩
instance : TFn Pr 199 := ⟨by kernel_rfl⟩
instance : TFn Pr 200 := ⟨by kernel_rfl⟩
instance : TFn Pr 201 := ⟨by kernel_rfl⟩
instance : TFn Pr 202 := ⟨by kernel_rfl⟩
instance : TFn Pr 203 := ⟨by kernel_rfl⟩
instance : TFn Pr 204 := ⟨by kernel_rfl⟩
instance : TFn Pr 205 := ⟨by kernel_rfl⟩
instance : TFn Pr 206 := ⟨by kernel_rfl⟩
instance : TFn Pr 207 := ⟨by kernel_rfl⟩
instance : TFn Pr 210 := ⟨by kernel_rfl⟩
instance : TFn Pr 211 := ⟨by kernel_rfl⟩
instance : TFn Pr 212 := ⟨by kernel_rfl⟩
instance : TFn Pr 213 := ⟨by kernel_rfl⟩
instance : TFn Pr 214 := ⟨by kernel_rfl⟩
instance : TFn Pr 215 := ⟨by kernel_rfl⟩
instance : TFn Pr 216 := ⟨by kernel_rfl⟩
instance : TFn Pr 217 := ⟨by kernel_rfl⟩
instance : TFn Pr 218 := ⟨by kernel_rfl⟩
instance : TFn Pr 219 := ⟨by kernel_rfl⟩
instance : TFn Pr 220 := ⟨by kernel_rfl⟩
instance : TFn Pr 221 := ⟨by kernel_rfl⟩
instance : TFn Pr 222 := ⟨by kernel_rfl⟩
instance : TFn Pr 223 := ⟨by kernel_rfl⟩
instance : TFn Pr 225 := ⟨by kernel_rfl⟩
instance : TFn Pr 226 := ⟨by kernel_rfl⟩
instance : TFn Pr 227 := ⟨by kernel_rfl⟩
instance : TFn Pr 228 := ⟨by kernel_rfl⟩
instance : TFn Pr 236 := ⟨by kernel_rfl⟩
instance : TFn Pr 241 := ⟨by kernel_rfl⟩
instance : TFn Pr 262 := ⟨by kernel_rfl⟩
instance : TFn Pr 265 := ⟨by kernel_rfl⟩
instance : TFn Pr 266 := ⟨by kernel_rfl⟩
instance : TFn Pr 267 := ⟨by kernel_rfl⟩
instance : TFn Pr 268 := ⟨by kernel_rfl⟩
instance : TFn Pr 280 := ⟨by kernel_rfl⟩
instance : TFn Pr 281 := ⟨by kernel_rfl⟩
instance : TFn Pr 282 := ⟨by kernel_rfl⟩
instance : TFn Pr 283 := ⟨by kernel_rfl⟩
instance : TFn Pr 284 := ⟨by kernel_rfl⟩
instance : TFn Pr 285 := ⟨by kernel_rfl⟩
instance : TFn Pr 286 := ⟨by kernel_rfl⟩
instance : TFn Pr 287 := ⟨by kernel_rfl⟩
instance : TFn Pr 288 := ⟨by kernel_rfl⟩
instance : TFn Pr 289 := ⟨by kernel_rfl⟩
instance : TFn Pr 294 := ⟨by kernel_rfl⟩
instance : TFn Pr 309 := ⟨by kernel_rfl⟩
instance : TFn Pr 316 := ⟨by kernel_rfl⟩
instance : TFn Pr 317 := ⟨by kernel_rfl⟩
instance : TFn Pr 318 := ⟨by kernel_rfl⟩
instance : TFn Pr 319 := ⟨by kernel_rfl⟩
instance : TFn Pr 328 := ⟨by kernel_rfl⟩
instance : TFn Pr 355 := ⟨by kernel_rfl⟩
instance : TElm Pr 3 1 8 := ⟨by kernel_rfl⟩
instance : TZero Pr 3 (Value.int .i64 0) := ⟨by kernel_rfl⟩
instance : TElm Pr 5 1 1 := ⟨by kernel_rfl⟩
instance : TZero Pr 5 (Value.int .u8 0) := ⟨by kernel_rfl⟩
instance : TElm Pr 22 1 8 := ⟨by kernel_rfl⟩
instance : TElm Pr 23 1 24 := ⟨by kernel_rfl⟩
instance : TZero Pr 23 (Value.slice none 0 0) := ⟨by kernel_rfl⟩
instance : TElm Pr 56 4 40 := ⟨by kernel_rfl⟩
instance : TElm Pr 60 12 112 := ⟨by kernel_rfl⟩
instance : TElm Pr 64 21 280 := ⟨by kernel_rfl⟩
instance : TElm Pr 86 1 8 := ⟨by kernel_rfl⟩
instance : TZero Pr 86 (Value.pointer none) := ⟨by kernel_rfl⟩
instance : TElm Pr 102 1 8 := ⟨by kernel_rfl⟩
instance : TZero Pr 102 (Value.pointer none) := ⟨by kernel_rfl⟩
instance : TElm Pr 131 1 8 := ⟨by kernel_rfl⟩
instance : TZero Pr 131 (Value.map none) := ⟨by kernel_rfl⟩
instance : TElm Pr 133 2 16 := ⟨by kernel_rfl⟩
instance : TElm Pr 155 2 16 := ⟨by kernel_rfl⟩
instance : TElm Pr 212 1 8 := ⟨by kernel_rfl⟩
instance : TZero Pr 212 (Value.pointer none) := ⟨by kernel_rfl⟩
instance : TElm Pr 251 1 8 := ⟨by kernel_rfl⟩
instance : TElm Pr 253 1 8 := ⟨by kernel_rfl⟩
instance : TZero Pr 253 Value.nilFunc := ⟨by kernel_rfl⟩
instance : TElm Pr 302 2 16 := ⟨by kernel_rfl⟩
instance : TIf Pr 125 := ⟨by kernel_rfl⟩
instance : TBld Pr 25 [(0, 1), (1, 1), (2, 1), (3, 1), (4, 1)] #[(Value.slice none 0 0), (Value.slice none 0 0), (Value.slice none 0 0), (Value.slice none 0 0), (Value.bool false)] := ⟨by kernel_rfl⟩
instance : TBld Pr 56 [(0, 1), (1, 1), (2, 1), (3, 1)] #[(Value.int .u64 0), (Value.int .u64 0), (Value.int .i64 0), (Value.string (ByteArray.mk #[]))] := ⟨by kernel_rfl⟩
instance : TBld Pr 64 [(0, 1), (1, 1), (2, 1), (3, 1), (4, 1), (5, 1), (6, 1), (7, 1), (8, 1), (9, 1), (10, 8), (18, 1), (19, 1), (20, 1)] #[(Value.int .i64 0), (Value.int .u64 0), (Value.int .u64 0), (Value.int .u64 0), (Value.int .u64 0), (Value.int .u64 0), (Value.int .u64 0), (Value.int .u64 0), (Value.int .u64 0), (Value.slice none 0 0), (Value.string (ByteArray.mk #[])), (Value.int .u64 0), (Value.int .u64 0), (Value.slice none 0 0), (Value.slice none 0 0), (Value.slice none 0 0), (Value.slice none 0 0), (Value.bool false), (Value.bool false), (Value.string (ByteArray.mk #[])), (Value.slice none 0 0)] := ⟨by kernel_rfl⟩
instance : TBld Pr 41 [(0, 1), (1, 1), (2, 1)] #[(Value.int .u64 0), (Value.int .u64 0), (Value.int .u64 0)] := ⟨by kernel_rfl⟩
instance : TBld Pr 43 [(0, 1), (1, 1), (2, 3), (5, 8), (13, 1)] #[(Value.int .u64 0), (Value.int .u64 0), (Value.int .u64 0), (Value.int .u64 0), (Value.int .u64 0), (Value.string (ByteArray.mk #[])), (Value.int .u64 0), (Value.int .u64 0), (Value.slice none 0 0), (Value.slice none 0 0), (Value.slice none 0 0), (Value.slice none 0 0), (Value.bool false), (Value.slice none 0 0)] := ⟨by kernel_rfl⟩
instance : TBld Pr 38 [(0, 32), (32, 1), (33, 1), (34, 1), (35, 1)] #[(Value.int .u64 0), (Value.int .u64 0), (Value.int .u64 0), (Value.int .u64 0), (Value.int .i64 0), (Value.string (ByteArray.mk #[])), (Value.int .u64 0), (Value.int .u64 0), (Value.slice none 0 0), (Value.slice none 0 0), (Value.slice none 0 0), (Value.slice none 0 0), (Value.bool false), (Value.slice none 0 0), (Value.slice none 0 0), (Value.int .u64 0), (Value.int .u64 0), (Value.slice none 0 0), (Value.slice none 0 0), (Value.slice none 0 0), (Value.slice none 0 0), (Value.bool false), (Value.bool false), (Value.int .i64 0), (Value.int .i64 0), (Value.int .i64 0), (Value.int .i64 0), (Value.int .i64 0), (Value.int .u64 0), (Value.int .u64 0), (Value.int .u64 0), (Value.int .u64 0), (Value.slice none 0 0), (Value.slice none 0 0), (Value.bool false), (Value.bool false)] := ⟨by kernel_rfl⟩
instance : TBld Pr 106 [(0, 1), (1, 1), (2, 1)] #[(Value.pointer none), (Value.pointer none), (Value.pointer none)] := ⟨by kernel_rfl⟩
instance : TBld Pr 108 [(0, 1), (1, 1)] #[(Value.slice none 0 0), (Value.pointer none)] := ⟨by kernel_rfl⟩
instance : TBld Pr 119 [(0, 1), (1, 1), (2, 1), (3, 1), (4, 1), (5, 1), (6, 1), (7, 1), (8, 1), (9, 1), (10, 1), (11, 1), (12, 1), (13, 1)] #[(Value.pointer none), (Value.pointer none), (Value.pointer none), (Value.pointer none), (Value.pointer none), (Value.pointer none), (Value.slice none 0 0), (Value.pointer none), (Value.pointer none), (Value.pointer none), (Value.pointer none), (Value.pointer none), (Value.slice none 0 0), (Value.slice none 0 0)] := ⟨by kernel_rfl⟩
instance : TBld Pr 161 [(0, 1), (1, 1), (2, 1), (3, 1), (4, 1), (5, 1), (6, 1), (7, 1), (8, 1), (9, 1), (10, 1), (11, 1), (12, 1), (13, 1), (14, 1), (15, 1), (16, 1)] #[(Value.int .u64 0), (Value.int .u64 0), (Value.int .u64 0), (Value.int .u64 0), (Value.int .u64 0), (Value.int .u64 0), (Value.bool false), (Value.bool false), (Value.bool false), (Value.int .i64 0), (Value.int .i64 0), (Value.int .i64 0), (Value.int .i64 0), (Value.int .i64 0), (Value.int .u64 0), (Value.int .u64 0), (Value.int .u64 0)] := ⟨by kernel_rfl⟩
instance : TBld Pr 152 [(0, 1), (1, 1), (2, 1), (3, 1), (4, 1), (5, 1), (6, 1), (7, 1), (8, 1)] #[(Value.int .u64 0), (Value.int .u64 0), (Value.int .u64 0), (Value.int .u64 0), (Value.int .u64 0), (Value.bool false), (Value.bool false), (Value.pointer none), (Value.bool false)] := ⟨by kernel_rfl⟩
instance : TBld Pr 156 [] #[] := ⟨by kernel_rfl⟩
instance : TBld Pr 155 [(0, 1), (1, 1)] #[(Value.int .u64 0), (Value.bool false)] := ⟨by kernel_rfl⟩
instance : TBld Pr 32 [(0, 1), (1, 1), (2, 1), (3, 1), (4, 1), (5, 8), (13, 1), (14, 1), (15, 1), (16, 1), (17, 1), (18, 1), (19, 1), (20, 1), (21, 1), (22, 1), (23, 1), (24, 1), (25, 1), (26, 1), (27, 1), (28, 1), (29, 1), (30, 1), (31, 1)] #[(Value.int .u64 0), (Value.int .u64 0), (Value.int .u64 0), (Value.int .u64 0), (Value.int .i64 0), (Value.string (ByteArray.mk #[])), (Value.int .u64 0), (Value.int .u64 0), (Value.slice none 0 0), (Value.slice none 0 0), (Value.slice none 0 0), (Value.slice none 0 0), (Value.bool false), (Value.slice none 0 0), (Value.slice none 0 0), (Value.int .u64 0), (Value.int .u64 0), (Value.slice none 0 0), (Value.slice none 0 0), (Value.slice none 0 0), (Value.slice none 0 0), (Value.bool false), (Value.bool false), (Value.int .i64 0), (Value.int .i64 0), (Value.int .i64 0), (Value.int .i64 0), (Value.int .i64 0), (Value.int .u64 0), (Value.int .u64 0), (Value.int .u64 0), (Value.int .u64 0)] := ⟨by kernel_rfl⟩
instance : TBld Pr 209 [(0, 9), (9, 1)] #[(Value.map none), (Value.map none), (Value.bool false), (Value.map none), (Value.map none), (Value.map none), (Value.map none), (Value.int .i64 0), (Value.int .u64 0), (Value.int .u64 0)] := ⟨by kernel_rfl⟩
instance : TBld Pr 202 [(0, 1), (1, 1)] #[(Value.int .u64 0), (Value.int .u64 0)] := ⟨by kernel_rfl⟩
instance : TBld Pr 200 [(0, 1), (1, 1), (2, 1), (3, 1), (4, 1)] #[(Value.slice none 0 0), (Value.slice none 0 0), (Value.slice none 0 0), (Value.slice none 0 0), (Value.pointer none)] := ⟨by kernel_rfl⟩
instance : TBld Pr 215 [(0, 1), (1, 1), (2, 1), (3, 1)] #[(Value.pointer none), (Value.pointer none), (Value.pointer none), (Value.slice none 0 0)] := ⟨by kernel_rfl⟩
instance : TBld Pr 225 [(0, 1), (1, 1), (2, 1), (3, 6)] #[(Value.pointer none), (Value.pointer none), (Value.slice none 0 0), (Value.int .i64 0), (Value.int .i64 0), (Value.int .i64 0), (Value.int .i64 0), (Value.int .i64 0), (Value.int .i64 0)] := ⟨by kernel_rfl⟩
instance : TBld Pr 136 [(0, 2), (2, 1), (3, 1), (4, 1)] #[(Value.map none), (Value.map none), (Value.bool false), (Value.map none), (Value.map none)] := ⟨by kernel_rfl⟩
instance : TBld Pr 141 [(0, 5), (5, 1), (6, 1), (7, 1), (8, 1)] #[(Value.map none), (Value.map none), (Value.bool false), (Value.map none), (Value.map none), (Value.map none), (Value.map none), (Value.int .i64 0), (Value.int .u64 0)] := ⟨by kernel_rfl⟩
instance : TBld Pr 230 [(0, 1), (1, 1), (2, 1), (3, 1), (4, 1), (5, 1)] #[(Value.int .i64 0), (Value.int .i64 0), (Value.int .u64 0), (Value.int .i64 0), (Value.int .u64 0), (Value.slice none 0 0)] := ⟨by kernel_rfl⟩
instance : TBld Pr 187 [(0, 1), (1, 1), (2, 1), (3, 1), (4, 1), (5, 1), (6, 1), (7, 9), (16, 1), (17, 1), (18, 1), (19, 1), (20, 1), (21, 1), (22, 1), (23, 1), (24, 1), (25, 1), (26, 1), (27, 1), (28, 1), (29, 1), (30, 1), (31, 1), (32, 1), (33, 1), (34, 1), (35, 1), (36, 1), (37, 1), (38, 1), (39, 1)] #[(Value.int .u64 0), (Value.int .u64 0), (Value.int .u64 0), (Value.slice none 0 0), (Value.pointer none), (Value.int .u64 0), (Value.int .u64 0), (Value.map none), (Value.map none), (Value.bool false), (Value.map none), (Value.map none), (Value.map none), (Value.map none), (Value.int .i64 0), (Value.int .u64 0), (Value.int .u64 0), (Value.bool false), (Value.slice none 0 0), (Value.slice none 0 0), (Value.int .u64 0), (Value.int .u64 0), (Value.int .u64 0), (Value.bool false), (Value.int .u64 0), (Value.pointer none), (Value.int .i64 0), (Value.int .i64 0), (Value.bool false), (Value.bool false), (Value.int .i64 0), (Value.int .i64 0), (Value.int .i64 0), (Value.bool false), (Value.bool false), Value.nilFunc, Value.nilFunc, (Value.slice none 0 0), (Value.slice none 0 0), (Value.int .i64 0)] := ⟨by kernel_rfl⟩
instance : TBld Pr 27 [(0, 1), (1, 1), (2, 1), (3, 5)] #[(Value.string (ByteArray.mk #[])), (Value.int .u64 0), (Value.int .u64 0), (Value.slice none 0 0), (Value.slice none 0 0), (Value.slice none 0 0), (Value.slice none 0 0), (Value.bool false)] := ⟨by kernel_rfl⟩
instance : TBld Pr 60 [(0, 1), (1, 11)] #[(Value.int .u64 0), (Value.int .u64 0), (Value.int .u64 0), (Value.int .i64 0), (Value.int .u64 0), (Value.bool false), (Value.bool false), (Value.bool false), (Value.int .i64 0), (Value.int .u64 0), (Value.slice none 0 0), (Value.slice none 0 0)] := ⟨by kernel_rfl⟩
instance : TBld Pr 58 [(0, 1), (1, 1), (2, 1), (3, 1), (4, 1), (5, 1), (6, 1), (7, 1), (8, 1), (9, 1), (10, 1)] #[(Value.int .u64 0), (Value.int .u64 0), (Value.int .i64 0), (Value.int .u64 0), (Value.bool false), (Value.bool false), (Value.bool false), (Value.int .i64 0), (Value.int .u64 0), (Value.slice none 0 0), (Value.slice none 0 0)] := ⟨by kernel_rfl⟩
instance : TBld Pr 194 [(0, 1), (1, 1), (2, 1), (3, 1), (4, 1)] #[(Value.pointer none), (Value.slice none 0 0), (Value.int .u64 0), (Value.bool false), (Value.int .u64 0)] := ⟨by kernel_rfl⟩
instance : TBld Pr 196 [(0, 1), (1, 5), (6, 1), (7, 1), (8, 1), (9, 1), (10, 1), (11, 1)] #[Value.nilIface, (Value.pointer none), (Value.slice none 0 0), (Value.int .u64 0), (Value.bool false), (Value.int .u64 0), (Value.int .u64 0), (Value.int .u64 0), (Value.int .u64 0), (Value.int .u64 0), (Value.int .u64 0), (Value.bool false)] := ⟨by kernel_rfl⟩
instance : TBld Pr 302 [(0, 1), (1, 1)] #[(Value.int .u64 0), (Value.int .u64 0)] := ⟨by kernel_rfl⟩
instance : TBld Pr 265 [(0, 1), (1, 1), (2, 1), (3, 1)] #[(Value.int .i64 0), (Value.map none), (Value.slice none 0 0), (Value.int .u64 0)] := ⟨by kernel_rfl⟩
instance : TBld Pr 309 [(0, 1), (1, 1)] #[(Value.pointer none), (Value.pointer none)] := ⟨by kernel_rfl⟩
instance : TBld Pr 376 [(0, 1)] #[(Value.string (ByteArray.mk #[]))] := ⟨by kernel_rfl⟩
end Go.Proofs.YtmmpogfbhelioaaGreat
/-
  The struct values that the program builds, printed by mkTy.py.
  Conditions: none.
-/
namespace Go.Proofs.YtmmpogfbhelioaaGreat
set_option maxRecDepth 10000
set_option linter.unusedVariables false
set_option linter.unusedSimpArgs false
set_option linter.unusedSimpArgs false
theorem cells_agg {cs : Array Value} : (Value.agg cs).cells = cs := rfl
theorem b25_0_1 {S : World → Prop} {K : Value → Prop} {x0 x1 : Value} (h0 : one x0 = true) (h1 : one x1 = true) (k : K (.agg #[x0, x1, (Value.slice none 0 0), (Value.slice none 0 0), (Value.bool false)])) : Qu Pr S (Instr.build 25 #[(0, x0), (1, x1)]) K :=
  q_build (cs := #[x0, x1, (Value.slice none 0 0), (Value.slice none 0 0), (Value.bool false)]) (by simp [Instr.fill, one_cells' h0, one_cells' h1, cells_agg]) k
theorem b56_0_1 {S : World → Prop} {K : Value → Prop} {x0 x1 : Value} (h0 : one x0 = true) (h1 : one x1 = true) (k : K (.agg #[x0, x1, (Value.int .i64 0), (Value.string (ByteArray.mk #[]))])) : Qu Pr S (Instr.build 56 #[(0, x0), (1, x1)]) K :=
  q_build (cs := #[x0, x1, (Value.int .i64 0), (Value.string (ByteArray.mk #[]))]) (by simp [Instr.fill, one_cells' h0, one_cells' h1, cells_agg]) k
theorem b64_0_1_2_3_10 {S : World → Prop} {K : Value → Prop} {x0 x1 x2 x3 x10_0 x10_1 x10_2 x10_3 x10_4 x10_5 x10_6 x10_7 : Value} (h0 : one x0 = true) (h1 : one x1 = true) (h2 : one x2 = true) (h3 : one x3 = true) (k : K (.agg #[x0, x1, x2, x3, (Value.int .u64 0), (Value.int .u64 0), (Value.int .u64 0), (Value.int .u64 0), (Value.int .u64 0), (Value.slice none 0 0), x10_0, x10_1, x10_2, x10_3, x10_4, x10_5, x10_6, x10_7, (Value.bool false), (Value.string (ByteArray.mk #[])), (Value.slice none 0 0)])) : Qu Pr S (Instr.build 64 #[(0, x0), (1, x1), (2, x2), (3, x3), (10, .agg #[x10_0, x10_1, x10_2, x10_3, x10_4, x10_5, x10_6, x10_7])]) K :=
  q_build (cs := #[x0, x1, x2, x3, (Value.int .u64 0), (Value.int .u64 0), (Value.int .u64 0), (Value.int .u64 0), (Value.int .u64 0), (Value.slice none 0 0), x10_0, x10_1, x10_2, x10_3, x10_4, x10_5, x10_6, x10_7, (Value.bool false), (Value.string (ByteArray.mk #[])), (Value.slice none 0 0)]) (by simp [Instr.fill, one_cells' h0, one_cells' h1, one_cells' h2, one_cells' h3, cells_agg]) k
theorem b41_0_1_2 {S : World → Prop} {K : Value → Prop} {x0 x1 x2 : Value} (h0 : one x0 = true) (h1 : one x1 = true) (h2 : one x2 = true) (k : K (.agg #[x0, x1, x2])) : Qu Pr S (Instr.build 41 #[(0, x0), (1, x1), (2, x2)]) K :=
  q_build (cs := #[x0, x1, x2]) (by simp [Instr.fill, one_cells' h0, one_cells' h1, one_cells' h2, cells_agg]) k
theorem b43_0_1_2_3_4 {S : World → Prop} {K : Value → Prop} {x0 x1 x2_0 x2_1 x2_2 x3_0 x3_1 x3_2 x3_3 x3_4 x3_5 x3_6 x3_7 x4 : Value} (h0 : one x0 = true) (h1 : one x1 = true) (h4 : one x4 = true) (k : K (.agg #[x0, x1, x2_0, x2_1, x2_2, x3_0, x3_1, x3_2, x3_3, x3_4, x3_5, x3_6, x3_7, x4])) : Qu Pr S (Instr.build 43 #[(0, x0), (1, x1), (2, .agg #[x2_0, x2_1, x2_2]), (3, .agg #[x3_0, x3_1, x3_2, x3_3, x3_4, x3_5, x3_6, x3_7]), (4, x4)]) K :=
  q_build (cs := #[x0, x1, x2_0, x2_1, x2_2, x3_0, x3_1, x3_2, x3_3, x3_4, x3_5, x3_6, x3_7, x4]) (by simp [Instr.fill, one_cells' h0, one_cells' h1, one_cells' h4, cells_agg]) k
theorem b38_4 {S : World → Prop} {K : Value → Prop} {x4 : Value} (h4 : one x4 = true) (k : K (.agg #[(Value.int .u64 0), (Value.int .u64 0), (Value.int .u64 0), (Value.int .u64 0), (Value.int .i64 0), (Value.string (ByteArray.mk #[])), (Value.int .u64 0), (Value.int .u64 0), (Value.slice none 0 0), (Value.slice none 0 0), (Value.slice none 0 0), (Value.slice none 0 0), (Value.bool false), (Value.slice none 0 0), (Value.slice none 0 0), (Value.int .u64 0), (Value.int .u64 0), (Value.slice none 0 0), (Value.slice none 0 0), (Value.slice none 0 0), (Value.slice none 0 0), (Value.bool false), (Value.bool false), (Value.int .i64 0), (Value.int .i64 0), (Value.int .i64 0), (Value.int .i64 0), (Value.int .i64 0), (Value.int .u64 0), (Value.int .u64 0), (Value.int .u64 0), (Value.int .u64 0), (Value.slice none 0 0), (Value.slice none 0 0), (Value.bool false), x4])) : Qu Pr S (Instr.build 38 #[(4, x4)]) K :=
  q_build (cs := #[(Value.int .u64 0), (Value.int .u64 0), (Value.int .u64 0), (Value.int .u64 0), (Value.int .i64 0), (Value.string (ByteArray.mk #[])), (Value.int .u64 0), (Value.int .u64 0), (Value.slice none 0 0), (Value.slice none 0 0), (Value.slice none 0 0), (Value.slice none 0 0), (Value.bool false), (Value.slice none 0 0), (Value.slice none 0 0), (Value.int .u64 0), (Value.int .u64 0), (Value.slice none 0 0), (Value.slice none 0 0), (Value.slice none 0 0), (Value.slice none 0 0), (Value.bool false), (Value.bool false), (Value.int .i64 0), (Value.int .i64 0), (Value.int .i64 0), (Value.int .i64 0), (Value.int .i64 0), (Value.int .u64 0), (Value.int .u64 0), (Value.int .u64 0), (Value.int .u64 0), (Value.slice none 0 0), (Value.slice none 0 0), (Value.bool false), x4]) (by simp [Instr.fill, one_cells' h4, cells_agg]) k
theorem b106_0_1_2 {S : World → Prop} {K : Value → Prop} {x0 x1 x2 : Value} (h0 : one x0 = true) (h1 : one x1 = true) (h2 : one x2 = true) (k : K (.agg #[x0, x1, x2])) : Qu Pr S (Instr.build 106 #[(0, x0), (1, x1), (2, x2)]) K :=
  q_build (cs := #[x0, x1, x2]) (by simp [Instr.fill, one_cells' h0, one_cells' h1, one_cells' h2, cells_agg]) k
theorem b108_0_1 {S : World → Prop} {K : Value → Prop} {x0 x1 : Value} (h0 : one x0 = true) (h1 : one x1 = true) (k : K (.agg #[x0, x1])) : Qu Pr S (Instr.build 108 #[(0, x0), (1, x1)]) K :=
  q_build (cs := #[x0, x1]) (by simp [Instr.fill, one_cells' h0, one_cells' h1, cells_agg]) k
theorem b119_0_1_2_3_4_5_7_8_11_6_12 {S : World → Prop} {K : Value → Prop} {x0 x1 x2 x3 x4 x5 x7 x8 x11 x6 x12 : Value} (h0 : one x0 = true) (h1 : one x1 = true) (h2 : one x2 = true) (h3 : one x3 = true) (h4 : one x4 = true) (h5 : one x5 = true) (h7 : one x7 = true) (h8 : one x8 = true) (h11 : one x11 = true) (h6 : one x6 = true) (h12 : one x12 = true) (k : K (.agg #[x0, x1, x2, x3, x4, x5, x6, x7, x8, (Value.pointer none), (Value.pointer none), x11, x12, (Value.slice none 0 0)])) : Qu Pr S (Instr.build 119 #[(0, x0), (1, x1), (2, x2), (3, x3), (4, x4), (5, x5), (7, x7), (8, x8), (11, x11), (6, x6), (12, x12)]) K :=
  q_build (cs := #[x0, x1, x2, x3, x4, x5, x6, x7, x8, (Value.pointer none), (Value.pointer none), x11, x12, (Value.slice none 0 0)]) (by simp [Instr.fill, one_cells' h0, one_cells' h1, one_cells' h2, one_cells' h3, one_cells' h4, one_cells' h5, one_cells' h7, one_cells' h8, one_cells' h11, one_cells' h6, one_cells' h12, cells_agg]) k
theorem b161_0_1_2_3_4_5_6_7_8_9_10_11_12_13_14_15_16 {S : World → Prop} {K : Value → Prop} {x0 x1 x2 x3 x4 x5 x6 x7 x8 x9 x10 x11 x12 x13 x14 x15 x16 : Value} (h0 : one x0 = true) (h1 : one x1 = true) (h2 : one x2 = true) (h3 : one x3 = true) (h4 : one x4 = true) (h5 : one x5 = true) (h6 : one x6 = true) (h7 : one x7 = true) (h8 : one x8 = true) (h9 : one x9 = true) (h10 : one x10 = true) (h11 : one x11 = true) (h12 : one x12 = true) (h13 : one x13 = true) (h14 : one x14 = true) (h15 : one x15 = true) (h16 : one x16 = true) (k : K (.agg #[x0, x1, x2, x3, x4, x5, x6, x7, x8, x9, x10, x11, x12, x13, x14, x15, x16])) : Qu Pr S (Instr.build 161 #[(0, x0), (1, x1), (2, x2), (3, x3), (4, x4), (5, x5), (6, x6), (7, x7), (8, x8), (9, x9), (10, x10), (11, x11), (12, x12), (13, x13), (14, x14), (15, x15), (16, x16)]) K :=
  q_build (cs := #[x0, x1, x2, x3, x4, x5, x6, x7, x8, x9, x10, x11, x12, x13, x14, x15, x16]) (by simp [Instr.fill, one_cells' h0, one_cells' h1, one_cells' h2, one_cells' h3, one_cells' h4, one_cells' h5, one_cells' h6, one_cells' h7, one_cells' h8, one_cells' h9, one_cells' h10, one_cells' h11, one_cells' h12, one_cells' h13, one_cells' h14, one_cells' h15, one_cells' h16, cells_agg]) k
theorem b152_1_8_7 {S : World → Prop} {K : Value → Prop} {x1 x8 x7 : Value} (h1 : one x1 = true) (h8 : one x8 = true) (h7 : one x7 = true) (k : K (.agg #[(Value.int .u64 0), x1, (Value.int .u64 0), (Value.int .u64 0), (Value.int .u64 0), (Value.bool false), (Value.bool false), x7, x8])) : Qu Pr S (Instr.build 152 #[(1, x1), (8, x8), (7, x7)]) K :=
  q_build (cs := #[(Value.int .u64 0), x1, (Value.int .u64 0), (Value.int .u64 0), (Value.int .u64 0), (Value.bool false), (Value.bool false), x7, x8]) (by simp [Instr.fill, one_cells' h1, one_cells' h8, one_cells' h7, cells_agg]) k
theorem b156_ {S : World → Prop} {K : Value → Prop}  (k : K (.agg #[])) : Qu Pr S (Instr.build 156 #[]) K :=
  q_build (cs := #[]) (by simp [Instr.fill, cells_agg]) k
theorem b155_0_1 {S : World → Prop} {K : Value → Prop} {x0 x1 : Value} (h0 : one x0 = true) (h1 : one x1 = true) (k : K (.agg #[x0, x1])) : Qu Pr S (Instr.build 155 #[(0, x0), (1, x1)]) K :=
  q_build (cs := #[x0, x1]) (by simp [Instr.fill, one_cells' h0, one_cells' h1, cells_agg]) k
theorem b32_0_1_2_3_4_5_7_10_11_14_15_16_17_18_19_20_21_22_23_24 {S : World → Prop} {K : Value → Prop} {x0 x1 x2 x3 x4 x5_0 x5_1 x5_2 x5_3 x5_4 x5_5 x5_6 x5_7 x7 x10 x11 x14 x15 x16 x17 x18 x19 x20 x21 x22 x23 x24 : Value} (h0 : one x0 = true) (h1 : one x1 = true) (h2 : one x2 = true) (h3 : one x3 = true) (h4 : one x4 = true) (h7 : one x7 = true) (h10 : one x10 = true) (h11 : one x11 = true) (h14 : one x14 = true) (h15 : one x15 = true) (h16 : one x16 = true) (h17 : one x17 = true) (h18 : one x18 = true) (h19 : one x19 = true) (h20 : one x20 = true) (h21 : one x21 = true) (h22 : one x22 = true) (h23 : one x23 = true) (h24 : one x24 = true) (k : K (.agg #[x0, x1, x2, x3, x4, x5_0, x5_1, x5_2, x5_3, x5_4, x5_5, x5_6, x5_7, (Value.slice none 0 0), x7, (Value.int .u64 0), (Value.int .u64 0), x10, x11, (Value.slice none 0 0), (Value.slice none 0 0), x14, x15, x16, x17, x18, x19, x20, x21, x22, x23, x24])) : Qu Pr S (Instr.build 32 #[(0, x0), (1, x1), (2, x2), (3, x3), (4, x4), (5, .agg #[x5_0, x5_1, x5_2, x5_3, x5_4, x5_5, x5_6, x5_7]), (7, x7), (10, x10), (11, x11), (14, x14), (15, x15), (16, x16), (17, x17), (18, x18), (19, x19), (20, x20), (21, x21), (22, x22), (23, x23), (24, x24)]) K :=
  q_build (cs := #[x0, x1, x2, x3, x4, x5_0, x5_1, x5_2, x5_3, x5_4, x5_5, x5_6, x5_7, (Value.slice none 0 0), x7, (Value.int .u64 0), (Value.int .u64 0), x10, x11, (Value.slice none 0 0), (Value.slice none 0 0), x14, x15, x16, x17, x18, x19, x20, x21, x22, x23, x24]) (by simp [Instr.fill, one_cells' h0, one_cells' h1, one_cells' h2, one_cells' h3, one_cells' h4, one_cells' h7, one_cells' h10, one_cells' h11, one_cells' h14, one_cells' h15, one_cells' h16, one_cells' h17, one_cells' h18, one_cells' h19, one_cells' h20, one_cells' h21, one_cells' h22, one_cells' h23, one_cells' h24, cells_agg]) k
theorem b209_0_1 {S : World → Prop} {K : Value → Prop} {x0_0 x0_1 x0_2 x0_3 x0_4 x0_5 x0_6 x0_7 x0_8 x1 : Value} (h1 : one x1 = true) (k : K (.agg #[x0_0, x0_1, x0_2, x0_3, x0_4, x0_5, x0_6, x0_7, x0_8, x1])) : Qu Pr S (Instr.build 209 #[(0, .agg #[x0_0, x0_1, x0_2, x0_3, x0_4, x0_5, x0_6, x0_7, x0_8]), (1, x1)]) K :=
  q_build (cs := #[x0_0, x0_1, x0_2, x0_3, x0_4, x0_5, x0_6, x0_7, x0_8, x1]) (by simp [Instr.fill, one_cells' h1, cells_agg]) k
theorem b202_0_1 {S : World → Prop} {K : Value → Prop} {x0 x1 : Value} (h0 : one x0 = true) (h1 : one x1 = true) (k : K (.agg #[x0, x1])) : Qu Pr S (Instr.build 202 #[(0, x0), (1, x1)]) K :=
  q_build (cs := #[x0, x1]) (by simp [Instr.fill, one_cells' h0, one_cells' h1, cells_agg]) k
theorem b200_0_1_2_3_4 {S : World → Prop} {K : Value → Prop} {x0 x1 x2 x3 x4 : Value} (h0 : one x0 = true) (h1 : one x1 = true) (h2 : one x2 = true) (h3 : one x3 = true) (h4 : one x4 = true) (k : K (.agg #[x0, x1, x2, x3, x4])) : Qu Pr S (Instr.build 200 #[(0, x0), (1, x1), (2, x2), (3, x3), (4, x4)]) K :=
  q_build (cs := #[x0, x1, x2, x3, x4]) (by simp [Instr.fill, one_cells' h0, one_cells' h1, one_cells' h2, one_cells' h3, one_cells' h4, cells_agg]) k
theorem b215_3 {S : World → Prop} {K : Value → Prop} {x3 : Value} (h3 : one x3 = true) (k : K (.agg #[(Value.pointer none), (Value.pointer none), (Value.pointer none), x3])) : Qu Pr S (Instr.build 215 #[(3, x3)]) K :=
  q_build (cs := #[(Value.pointer none), (Value.pointer none), (Value.pointer none), x3]) (by simp [Instr.fill, one_cells' h3, cells_agg]) k
theorem b119_1_0_5 {S : World → Prop} {K : Value → Prop} {x1 x0 x5 : Value} (h1 : one x1 = true) (h0 : one x0 = true) (h5 : one x5 = true) (k : K (.agg #[x0, x1, (Value.pointer none), (Value.pointer none), (Value.pointer none), x5, (Value.slice none 0 0), (Value.pointer none), (Value.pointer none), (Value.pointer none), (Value.pointer none), (Value.pointer none), (Value.slice none 0 0), (Value.slice none 0 0)])) : Qu Pr S (Instr.build 119 #[(1, x1), (0, x0), (5, x5)]) K :=
  q_build (cs := #[x0, x1, (Value.pointer none), (Value.pointer none), (Value.pointer none), x5, (Value.slice none 0 0), (Value.pointer none), (Value.pointer none), (Value.pointer none), (Value.pointer none), (Value.pointer none), (Value.slice none 0 0), (Value.slice none 0 0)]) (by simp [Instr.fill, one_cells' h1, one_cells' h0, one_cells' h5, cells_agg]) k
theorem b215_ {S : World → Prop} {K : Value → Prop}  (k : K (.agg #[(Value.pointer none), (Value.pointer none), (Value.pointer none), (Value.slice none 0 0)])) : Qu Pr S (Instr.build 215 #[]) K :=
  q_build (cs := #[(Value.pointer none), (Value.pointer none), (Value.pointer none), (Value.slice none 0 0)]) (by simp [Instr.fill, cells_agg]) k
theorem b225_2 {S : World → Prop} {K : Value → Prop} {x2 : Value} (h2 : one x2 = true) (k : K (.agg #[(Value.pointer none), (Value.pointer none), x2, (Value.int .i64 0), (Value.int .i64 0), (Value.int .i64 0), (Value.int .i64 0), (Value.int .i64 0), (Value.int .i64 0)])) : Qu Pr S (Instr.build 225 #[(2, x2)]) K :=
  q_build (cs := #[(Value.pointer none), (Value.pointer none), x2, (Value.int .i64 0), (Value.int .i64 0), (Value.int .i64 0), (Value.int .i64 0), (Value.int .i64 0), (Value.int .i64 0)]) (by simp [Instr.fill, one_cells' h2, cells_agg]) k
theorem b215_0_1 {S : World → Prop} {K : Value → Prop} {x0 x1 : Value} (h0 : one x0 = true) (h1 : one x1 = true) (k : K (.agg #[x0, x1, (Value.pointer none), (Value.slice none 0 0)])) : Qu Pr S (Instr.build 215 #[(0, x0), (1, x1)]) K :=
  q_build (cs := #[x0, x1, (Value.pointer none), (Value.slice none 0 0)]) (by simp [Instr.fill, one_cells' h0, one_cells' h1, cells_agg]) k
theorem b134_0_1 {S : World → Prop} {K : Value → Prop} {x0 x1 : Value} (h0 : one x0 = true) (h1 : one x1 = true) (k : K (.agg #[x0, x1])) : Qu Pr S (Instr.build 134 #[(0, x0), (1, x1)]) K :=
  q_buildA (cs := #[x0, x1]) (by simp [Instr.fill, one_cells' h0, one_cells' h1, cells_agg]) k
theorem b136_0_2_3 {S : World → Prop} {K : Value → Prop} {x0_0 x0_1 x2 x3 : Value} (h2 : one x2 = true) (h3 : one x3 = true) (k : K (.agg #[x0_0, x0_1, (Value.bool false), x2, x3])) : Qu Pr S (Instr.build 136 #[(0, .agg #[x0_0, x0_1]), (2, x2), (3, x3)]) K :=
  q_build (cs := #[x0_0, x0_1, (Value.bool false), x2, x3]) (by simp [Instr.fill, one_cells' h2, one_cells' h3, cells_agg]) k
theorem b141_3_4_0_2_1 {S : World → Prop} {K : Value → Prop} {x3 x4 x0_0 x0_1 x0_2 x0_3 x0_4 x2 x1 : Value} (h3 : one x3 = true) (h4 : one x4 = true) (h2 : one x2 = true) (h1 : one x1 = true) (k : K (.agg #[x0_0, x0_1, x0_2, x0_3, x0_4, x1, x2, x3, x4])) : Qu Pr S (Instr.build 141 #[(3, x3), (4, x4), (0, .agg #[x0_0, x0_1, x0_2, x0_3, x0_4]), (2, x2), (1, x1)]) K :=
  q_build (cs := #[x0_0, x0_1, x0_2, x0_3, x0_4, x1, x2, x3, x4]) (by simp [Instr.fill, one_cells' h3, one_cells' h4, one_cells' h2, one_cells' h1, cells_agg]) k
theorem b230_3_4 {S : World → Prop} {K : Value → Prop} {x3 x4 : Value} (h3 : one x3 = true) (h4 : one x4 = true) (k : K (.agg #[(Value.int .i64 0), (Value.int .i64 0), (Value.int .u64 0), x3, x4, (Value.slice none 0 0)])) : Qu Pr S (Instr.build 230 #[(3, x3), (4, x4)]) K :=
  q_build (cs := #[(Value.int .i64 0), (Value.int .i64 0), (Value.int .u64 0), x3, x4, (Value.slice none 0 0)]) (by simp [Instr.fill, one_cells' h3, one_cells' h4, cells_agg]) k
theorem b152_0_1_3_4_5_6_8_7 {S : World → Prop} {K : Value → Prop} {x0 x1 x3 x4 x5 x6 x8 x7 : Value} (h0 : one x0 = true) (h1 : one x1 = true) (h3 : one x3 = true) (h4 : one x4 = true) (h5 : one x5 = true) (h6 : one x6 = true) (h8 : one x8 = true) (h7 : one x7 = true) (k : K (.agg #[x0, x1, (Value.int .u64 0), x3, x4, x5, x6, x7, x8])) : Qu Pr S (Instr.build 152 #[(0, x0), (1, x1), (3, x3), (4, x4), (5, x5), (6, x6), (8, x8), (7, x7)]) K :=
  q_build (cs := #[x0, x1, (Value.int .u64 0), x3, x4, x5, x6, x7, x8]) (by simp [Instr.fill, one_cells' h0, one_cells' h1, one_cells' h3, one_cells' h4, one_cells' h5, one_cells' h6, one_cells' h8, one_cells' h7, cells_agg]) k
theorem b187_0_1_2_12_13_8_9_21_20_23_22_24_18_19_5_6_16_4_7_17 {S : World → Prop} {K : Value → Prop} {x0 x1 x2 x12 x13 x8 x9 x21 x20 x23 x22 x24 x18 x19 x5 x6 x16 x4 x7_0 x7_1 x7_2 x7_3 x7_4 x7_5 x7_6 x7_7 x7_8 x17 : Value} (h0 : one x0 = true) (h1 : one x1 = true) (h2 : one x2 = true) (h12 : one x12 = true) (h13 : one x13 = true) (h8 : one x8 = true) (h9 : one x9 = true) (h21 : one x21 = true) (h20 : one x20 = true) (h23 : one x23 = true) (h22 : one x22 = true) (h24 : one x24 = true) (h18 : one x18 = true) (h19 : one x19 = true) (h5 : one x5 = true) (h6 : one x6 = true) (h16 : one x16 = true) (h4 : one x4 = true) (h17 : one x17 = true) (k : K (.agg #[x0, x1, x2, (Value.slice none 0 0), x4, x5, x6, x7_0, x7_1, x7_2, x7_3, x7_4, x7_5, x7_6, x7_7, x7_8, x8, x9, (Value.slice none 0 0), (Value.slice none 0 0), x12, x13, (Value.int .u64 0), (Value.bool false), x16, x17, x18, x19, x20, x21, x22, x23, x24, (Value.bool false), (Value.bool false), Value.nilFunc, Value.nilFunc, (Value.slice none 0 0), (Value.slice none 0 0), (Value.int .i64 0)])) : Qu Pr S (Instr.build 187 #[(0, x0), (1, x1), (2, x2), (12, x12), (13, x13), (8, x8), (9, x9), (21, x21), (20, x20), (23, x23), (22, x22), (24, x24), (18, x18), (19, x19), (5, x5), (6, x6), (16, x16), (4, x4), (7, .agg #[x7_0, x7_1, x7_2, x7_3, x7_4, x7_5, x7_6, x7_7, x7_8]), (17, x17)]) K :=
  q_build (cs := #[x0, x1, x2, (Value.slice none 0 0), x4, x5, x6, x7_0, x7_1, x7_2, x7_3, x7_4, x7_5, x7_6, x7_7, x7_8, x8, x9, (Value.slice none 0 0), (Value.slice none 0 0), x12, x13, (Value.int .u64 0), (Value.bool false), x16, x17, x18, x19, x20, x21, x22, x23, x24, (Value.bool false), (Value.bool false), Value.nilFunc, Value.nilFunc, (Value.slice none 0 0), (Value.slice none 0 0), (Value.int .i64 0)]) (by simp [Instr.fill, one_cells' h0, one_cells' h1, one_cells' h2, one_cells' h12, one_cells' h13, one_cells' h8, one_cells' h9, one_cells' h21, one_cells' h20, one_cells' h23, one_cells' h22, one_cells' h24, one_cells' h18, one_cells' h19, one_cells' h5, one_cells' h6, one_cells' h16, one_cells' h4, one_cells' h17, cells_agg]) k
theorem b56_0_1_2_3 {S : World → Prop} {K : Value → Prop} {x0 x1 x2 x3 : Value} (h0 : one x0 = true) (h1 : one x1 = true) (h2 : one x2 = true) (h3 : one x3 = true) (k : K (.agg #[x0, x1, x2, x3])) : Qu Pr S (Instr.build 56 #[(0, x0), (1, x1), (2, x2), (3, x3)]) K :=
  q_build (cs := #[x0, x1, x2, x3]) (by simp [Instr.fill, one_cells' h0, one_cells' h1, one_cells' h2, one_cells' h3, cells_agg]) k
theorem b27_0_1_2_3 {S : World → Prop} {K : Value → Prop} {x0 x1 x2 x3_0 x3_1 x3_2 x3_3 x3_4 : Value} (h0 : one x0 = true) (h1 : one x1 = true) (h2 : one x2 = true) (k : K (.agg #[x0, x1, x2, x3_0, x3_1, x3_2, x3_3, x3_4])) : Qu Pr S (Instr.build 27 #[(0, x0), (1, x1), (2, x2), (3, .agg #[x3_0, x3_1, x3_2, x3_3, x3_4])]) K :=
  q_build (cs := #[x0, x1, x2, x3_0, x3_1, x3_2, x3_3, x3_4]) (by simp [Instr.fill, one_cells' h0, one_cells' h1, one_cells' h2, cells_agg]) k
theorem b60_0_1 {S : World → Prop} {K : Value → Prop} {x0 x1_0 x1_1 x1_2 x1_3 x1_4 x1_5 x1_6 x1_7 x1_8 x1_9 x1_10 : Value} (h0 : one x0 = true) (k : K (.agg #[x0, x1_0, x1_1, x1_2, x1_3, x1_4, x1_5, x1_6, x1_7, x1_8, x1_9, x1_10])) : Qu Pr S (Instr.build 60 #[(0, x0), (1, .agg #[x1_0, x1_1, x1_2, x1_3, x1_4, x1_5, x1_6, x1_7, x1_8, x1_9, x1_10])]) K :=
  q_build (cs := #[x0, x1_0, x1_1, x1_2, x1_3, x1_4, x1_5, x1_6, x1_7, x1_8, x1_9, x1_10]) (by simp [Instr.fill, one_cells' h0, cells_agg]) k
theorem b58_0_1_2_3_4_5_6 {S : World → Prop} {K : Value → Prop} {x0 x1 x2 x3 x4 x5 x6 : Value} (h0 : one x0 = true) (h1 : one x1 = true) (h2 : one x2 = true) (h3 : one x3 = true) (h4 : one x4 = true) (h5 : one x5 = true) (h6 : one x6 = true) (k : K (.agg #[x0, x1, x2, x3, x4, x5, x6, (Value.int .i64 0), (Value.int .u64 0), (Value.slice none 0 0), (Value.slice none 0 0)])) : Qu Pr S (Instr.build 58 #[(0, x0), (1, x1), (2, x2), (3, x3), (4, x4), (5, x5), (6, x6)]) K :=
  q_build (cs := #[x0, x1, x2, x3, x4, x5, x6, (Value.int .i64 0), (Value.int .u64 0), (Value.slice none 0 0), (Value.slice none 0 0)]) (by simp [Instr.fill, one_cells' h0, one_cells' h1, one_cells' h2, one_cells' h3, one_cells' h4, one_cells' h5, one_cells' h6, cells_agg]) k
theorem b64_0_1_2_3_4_5_6_7_8_9_10_11_12 {S : World → Prop} {K : Value → Prop} {x0 x1 x2 x3 x4 x5 x6 x7 x8 x9 x10_0 x10_1 x10_2 x10_3 x10_4 x10_5 x10_6 x10_7 x11 x12 : Value} (h0 : one x0 = true) (h1 : one x1 = true) (h2 : one x2 = true) (h3 : one x3 = true) (h4 : one x4 = true) (h5 : one x5 = true) (h6 : one x6 = true) (h7 : one x7 = true) (h8 : one x8 = true) (h9 : one x9 = true) (h11 : one x11 = true) (h12 : one x12 = true) (k : K (.agg #[x0, x1, x2, x3, x4, x5, x6, x7, x8, x9, x10_0, x10_1, x10_2, x10_3, x10_4, x10_5, x10_6, x10_7, x11, x12, (Value.slice none 0 0)])) : Qu Pr S (Instr.build 64 #[(0, x0), (1, x1), (2, x2), (3, x3), (4, x4), (5, x5), (6, x6), (7, x7), (8, x8), (9, x9), (10, .agg #[x10_0, x10_1, x10_2, x10_3, x10_4, x10_5, x10_6, x10_7]), (11, x11), (12, x12)]) K :=
  q_build (cs := #[x0, x1, x2, x3, x4, x5, x6, x7, x8, x9, x10_0, x10_1, x10_2, x10_3, x10_4, x10_5, x10_6, x10_7, x11, x12, (Value.slice none 0 0)]) (by simp [Instr.fill, one_cells' h0, one_cells' h1, one_cells' h2, one_cells' h3, one_cells' h4, one_cells' h5, one_cells' h6, one_cells' h7, one_cells' h8, one_cells' h9, one_cells' h11, one_cells' h12, cells_agg]) k
theorem b215_0_1_3 {S : World → Prop} {K : Value → Prop} {x0 x1 x3 : Value} (h0 : one x0 = true) (h1 : one x1 = true) (h3 : one x3 = true) (k : K (.agg #[x0, x1, (Value.pointer none), x3])) : Qu Pr S (Instr.build 215 #[(0, x0), (1, x1), (3, x3)]) K :=
  q_build (cs := #[x0, x1, (Value.pointer none), x3]) (by simp [Instr.fill, one_cells' h0, one_cells' h1, one_cells' h3, cells_agg]) k
theorem b194_2_4 {S : World → Prop} {K : Value → Prop} {x2 x4 : Value} (h2 : one x2 = true) (h4 : one x4 = true) (k : K (.agg #[(Value.pointer none), (Value.slice none 0 0), x2, (Value.bool false), x4])) : Qu Pr S (Instr.build 194 #[(2, x2), (4, x4)]) K :=
  q_build (cs := #[(Value.pointer none), (Value.slice none 0 0), x2, (Value.bool false), x4]) (by simp [Instr.fill, one_cells' h2, one_cells' h4, cells_agg]) k
theorem b196_0_1_5_2_3_4 {S : World → Prop} {K : Value → Prop} {x0 x1_0 x1_1 x1_2 x1_3 x1_4 x5 x2 x3 x4 : Value} (h0 : one x0 = true) (h5 : one x5 = true) (h2 : one x2 = true) (h3 : one x3 = true) (h4 : one x4 = true) (k : K (.agg #[x0, x1_0, x1_1, x1_2, x1_3, x1_4, x2, x3, x4, x5, (Value.int .u64 0), (Value.bool false)])) : Qu Pr S (Instr.build 196 #[(0, x0), (1, .agg #[x1_0, x1_1, x1_2, x1_3, x1_4]), (5, x5), (2, x2), (3, x3), (4, x4)]) K :=
  q_build (cs := #[x0, x1_0, x1_1, x1_2, x1_3, x1_4, x2, x3, x4, x5, (Value.int .u64 0), (Value.bool false)]) (by simp [Instr.fill, one_cells' h0, one_cells' h5, one_cells' h2, one_cells' h3, one_cells' h4, cells_agg]) k
theorem b302_0_1 {S : World → Prop} {K : Value → Prop} {x0 x1 : Value} (h0 : one x0 = true) (h1 : one x1 = true) (k : K (.agg #[x0, x1])) : Qu Pr S (Instr.build 302 #[(0, x0), (1, x1)]) K :=
  q_build (cs := #[x0, x1]) (by simp [Instr.fill, one_cells' h0, one_cells' h1, cells_agg]) k
theorem b265_0_1 {S : World → Prop} {K : Value → Prop} {x0 x1 : Value} (h0 : one x0 = true) (h1 : one x1 = true) (k : K (.agg #[x0, x1, (Value.slice none 0 0), (Value.int .u64 0)])) : Qu Pr S (Instr.build 265 #[(0, x0), (1, x1)]) K :=
  q_build (cs := #[x0, x1, (Value.slice none 0 0), (Value.int .u64 0)]) (by simp [Instr.fill, one_cells' h0, one_cells' h1, cells_agg]) k
theorem b25_0_1_2_3_4 {S : World → Prop} {K : Value → Prop} {x0 x1 x2 x3 x4 : Value} (h0 : one x0 = true) (h1 : one x1 = true) (h2 : one x2 = true) (h3 : one x3 = true) (h4 : one x4 = true) (k : K (.agg #[x0, x1, x2, x3, x4])) : Qu Pr S (Instr.build 25 #[(0, x0), (1, x1), (2, x2), (3, x3), (4, x4)]) K :=
  q_build (cs := #[x0, x1, x2, x3, x4]) (by simp [Instr.fill, one_cells' h0, one_cells' h1, one_cells' h2, one_cells' h3, one_cells' h4, cells_agg]) k
theorem b309_0_1 {S : World → Prop} {K : Value → Prop} {x0 x1 : Value} (h0 : one x0 = true) (h1 : one x1 = true) (k : K (.agg #[x0, x1])) : Qu Pr S (Instr.build 309 #[(0, x0), (1, x1)]) K :=
  q_build (cs := #[x0, x1]) (by simp [Instr.fill, one_cells' h0, one_cells' h1, cells_agg]) k
theorem b136_ {S : World → Prop} {K : Value → Prop}  (k : K (.agg #[(Value.map none), (Value.map none), (Value.bool false), (Value.map none), (Value.map none)])) : Qu Pr S (Instr.build 136 #[]) K :=
  q_build (cs := #[(Value.map none), (Value.map none), (Value.bool false), (Value.map none), (Value.map none)]) (by simp [Instr.fill, cells_agg]) k
theorem b200_0_2_1_3_4 {S : World → Prop} {K : Value → Prop} {x0 x2 x1 x3 x4 : Value} (h0 : one x0 = true) (h2 : one x2 = true) (h1 : one x1 = true) (h3 : one x3 = true) (h4 : one x4 = true) (k : K (.agg #[x0, x1, x2, x3, x4])) : Qu Pr S (Instr.build 200 #[(0, x0), (2, x2), (1, x1), (3, x3), (4, x4)]) K :=
  q_build (cs := #[x0, x1, x2, x3, x4]) (by simp [Instr.fill, one_cells' h0, one_cells' h2, one_cells' h1, one_cells' h3, one_cells' h4, cells_agg]) k
theorem b152_0_1_7_8 {S : World → Prop} {K : Value → Prop} {x0 x1 x7 x8 : Value} (h0 : one x0 = true) (h1 : one x1 = true) (h7 : one x7 = true) (h8 : one x8 = true) (k : K (.agg #[x0, x1, (Value.int .u64 0), (Value.int .u64 0), (Value.int .u64 0), (Value.bool false), (Value.bool false), x7, x8])) : Qu Pr S (Instr.build 152 #[(0, x0), (1, x1), (7, x7), (8, x8)]) K :=
  q_build (cs := #[x0, x1, (Value.int .u64 0), (Value.int .u64 0), (Value.int .u64 0), (Value.bool false), (Value.bool false), x7, x8]) (by simp [Instr.fill, one_cells' h0, one_cells' h1, one_cells' h7, one_cells' h8, cells_agg]) k
theorem b215_0_1_2_3 {S : World → Prop} {K : Value → Prop} {x0 x1 x2 x3 : Value} (h0 : one x0 = true) (h1 : one x1 = true) (h2 : one x2 = true) (h3 : one x3 = true) (k : K (.agg #[x0, x1, x2, x3])) : Qu Pr S (Instr.build 215 #[(0, x0), (1, x1), (2, x2), (3, x3)]) K :=
  q_build (cs := #[x0, x1, x2, x3]) (by simp [Instr.fill, one_cells' h0, one_cells' h1, one_cells' h2, one_cells' h3, cells_agg]) k
theorem b376_0 {S : World → Prop} {K : Value → Prop} {x0 : Value} (h0 : one x0 = true) (k : K (.agg #[x0])) : Qu Pr S (Instr.build 376 #[(0, x0)]) K :=
  q_build (cs := #[x0]) (by simp [Instr.fill, one_cells' h0, cells_agg]) k
theorem b133_0_1 {S : World → Prop} {K : Value → Prop} {x0 x1 : Value} (h0 : one x0 = true) (h1 : one x1 = true) (k : K (.agg #[x0, x1])) : Qu Pr S (Instr.build 133 #[(0, x0), (1, x1)]) K :=
  q_buildA (cs := #[x0, x1]) (by simp [Instr.fill, one_cells' h0, one_cells' h1, cells_agg]) k
theorem b152_0_1_7_8_5 {S : World → Prop} {K : Value → Prop} {x0 x1 x7 x8 x5 : Value} (h0 : one x0 = true) (h1 : one x1 = true) (h7 : one x7 = true) (h8 : one x8 = true) (h5 : one x5 = true) (k : K (.agg #[x0, x1, (Value.int .u64 0), (Value.int .u64 0), (Value.int .u64 0), x5, (Value.bool false), x7, x8])) : Qu Pr S (Instr.build 152 #[(0, x0), (1, x1), (7, x7), (8, x8), (5, x5)]) K :=
  q_build (cs := #[x0, x1, (Value.int .u64 0), (Value.int .u64 0), (Value.int .u64 0), x5, (Value.bool false), x7, x8]) (by simp [Instr.fill, one_cells' h0, one_cells' h1, one_cells' h7, one_cells' h8, one_cells' h5, cells_agg]) k
end Go.Proofs.YtmmpogfbhelioaaGreat
/-
  Steps as theorems whose last argument a tactic finds: a step through plain operations, a fact lifted to a later world, a world that follows.
  Conditions: none.
-/
namespace Go.Proofs.YtmmpogfbhelioaaGreat
set_option maxRecDepth 10000
set_option linter.unusedVariables false
set_option linter.unusedSimpArgs false
set_option linter.unusedVariables false
/-- What a step hands on: the goal behind it. -/
structure Stp (G H : Prop) : Prop where
  mk :: f : H → G
structure Hld (p : Prop) : Prop where
  out : p
theorem Stp.of {G H : Prop} (f : Hld H → G) : Stp G H := ⟨fun h => f ⟨h⟩⟩
theorem bk_ {p : Prop} (h : p := by (repeat (first | assumption | refine Ex.at_ (by assumption) ?_ | refine Up.at_ (by assumption) ?_ rfl | refine Up.off (by assumption) ?_ (by intro h; (try clear hS); (try subst h); omega)))) : p := h
theorem ex_ {p : Prop} (h : p := by (repeat (first | assumption | exact Up.refl _ _ _ | refine Up.trans ?_ (by assumption) | refine Up.ex ?_ (by assumption) | refine Up.new ?_ (by assumption) (by intro _ h; (try clear hS); (try subst h); omega)))) : p := h
theorem lf_ {p : Prop} (h : p := by (repeat (first | assumption | refine Sl.ex (by assumption) ?_ | refine PE.ex (by assumption) ?_ | refine PEs.ex (by assumption) ?_ | refine PC.ex (by assumption) ?_ | refine PM.ex (by assumption) ?_ | refine PS.ex (by assumption) ?_ | refine PN.ex (by assumption) ?_ | refine PBo.ex (by assumption) ?_ | refine PN1.ex (by assumption) ?_ | refine PB1.ex (by assumption) ?_ | refine Mp.ex (by assumption) ?_ | refine It.ex (by assumption) ?_ | refine Own.ex (by assumption) ?_ | refine Cu.ex (by assumption) ?_ | refine PE.mt rfl (by assumption) ?_ | refine PEs.mt rfl (by assumption) ?_ | refine PC.mt rfl (by assumption) ?_ | refine PM.mt rfl (by assumption) ?_ | refine PS.mt rfl (by assumption) ?_ | refine PBo.mt rfl (by assumption) ?_ | refine PB1.mt rfl (by assumption) ?_ | refine Sl.typ (by assumption) ?_ rfl | refine PN.mt rfl (by assumption) ?_ | refine PN1.mt rfl (by assumption) ?_))) : p := h
theorem nm_ {p : Prop} (h : p := by (try simp only [List.getElem?_toArray, List.getElem?_cons_zero, List.getElem?_cons_succ, List.setIfInBounds_toArray, List.set_cons_zero, List.set_cons_succ, List.toList_toArray, List.drop_zero, List.drop_succ_cons, List.take_zero, List.take_succ_cons, Nat.zero_add, Nat.add_zero, Nat.reduceAdd, putCells]) <;> rfl) : p := h
theorem go {G H : Prop} (h : H) (s : Stp G H := by (apply Stp.of; intro hS; (first | (refine gd_ff ?_) | (refine gd_tf ?_) | (refine gd_tt ?_) | (refine gd_ft ?_) | (refine gd_un ?_) | (refine q_fa ?_) | (refine q_nil ?_) | (refine q_pick_t ?_) | (refine q_pick_f ?_) | (refine q_not ?_) | (refine if_t ?_) | (refine if_f ?_) | (refine e_boxA ?_) | (refine e_box1 (by first | rfl | assumption) ?_) | (refine e_allocA ?_) | (refine e_alloc1 rfl ?_) | (refine q_len ?_) | (refine q_lenS ?_) | (refine q_lenSl lf_ ?_) | (refine q_conv ?_) | (refine q_neqP0 ?_) | (refine q_eqlP0 ?_) | (refine q_neqI1 ?_) | (refine q_eqlI1 ?_) | (refine q_neqI0 rfl ?_) | (refine q_eqlI0 rfl ?_) | (refine q_eqlZ0 ?_) | (refine q_neqZ0 ?_) | (refine q_eqlM0 ?_) | (refine q_neqM0 ?_) | (refine q_eql ?_) | (refine q_neq ?_) | (refine q_lss ?_) | (refine q_leq ?_) | (refine q_gtr ?_) | (refine q_geq ?_) | (refine q_add ?_) | (refine q_sub ?_) | (refine q_mul ?_) | (refine q_eqlS ?_) | (refine q_neqS ?_) | (refine q_eqlB ?_) | (refine q_neqB ?_) | (refine q_mkf ?_)); exact hS.out)) : G := s.f h
theorem gon {G H : Prop} (h : H) (s : Stp G H := by (apply Stp.of; intro hS; (first | (refine q_ld bk_ nm_ ?_) | (refine q_ldU bk_ rfl nm_ ?_) | (refine q_ldW bk_ (by rfl) ?_) | (refine q_ldWU bk_ rfl (by rfl) ?_) | (refine q_ldP bk_ (Nat.le_of_ble_eq_true rfl) nm_ ?_) | (refine q_ldPU bk_ rfl (Nat.le_of_ble_eq_true rfl) nm_ ?_) | (refine q_ext nm_ ?_) | (refine u_st bk_ (Nat.le_of_ble_eq_true rfl) (by first | rfl | assumption) nm_ ?_) | (refine u_stA bk_ (Nat.le_of_ble_eq_true rfl) (by rfl) (by rfl) nm_ ?_) | (refine q_field nm_ ?_)); exact hS.out)) : G := s.f h

end Go.Proofs.YtmmpogfbhelioaaGreat
