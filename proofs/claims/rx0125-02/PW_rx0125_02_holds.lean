import PyProof.Rows.All
import Wide.All
import OpenK.AllK
import Wide.FinOn
import PySem.Challenge.RW_rx0125_02
set_option Elab.async false
set_option linter.unusedVariables false
set_option linter.unusedSimpArgs false

section
set_option linter.unusedSectionVars false
open PySem PySem.W PyProof.Rows PySem.Calls
set_option Elab.async false
set_option linter.unusedVariables false
namespace Mine

/-- pure data -/
inductive D where
  | none
  | bool (b : Bool)
  | int (i : Int)
  | str (x : List Nat)
  | bytes (b : List UInt8)
  | list (l : List D)
  | tuple (l : List D)
  | addr (a : Addr)
  | bound (i : String) (a : Addr)

/-- the part of a heap that is not hidden -/
noncomputable def vis (H : List Addr) (h : Heap) (a : Addr) : Option Obj := if a ∈ H then Option.none else h.get? a
theorem vis_iff {H : List Addr} {h : Heap} {a : Addr} {o : Obj} : vis H h a = some o ↔ a ∉ H ∧ h.get? a = some o := by
  unfold vis; split <;> simp_all

noncomputable def ListAt (F : Addr → Option Obj) (a : Addr) (vs : List Value) : Prop := ∃ n, F a = some { cls := .type "list", data := .seq vs.toArray n }
noncomputable def TupAt (F : Addr → Option Obj) (a : Addr) (vs : List Value) : Prop := ∃ n, F a = some { cls := .type "tuple", data := .seq vs.toArray n }

/-- a built-in method, bound -/
noncomputable abbrev boundObj (i : String) (a : Addr) : Obj := { cls := .type "builtin_function_or_method", data := .fields #[.builtin i, .ref a] }
/-- what stays as it is, in sight -/
inductive FixD : Data → Prop where
  | seq (xs : Array Value) (n : Nat) : FixD (.seq xs n)
  | bound (i : String) (a : Addr) : FixD (.fields #[.builtin i, .ref a])

mutual
noncomputable def Is (F : Addr → Option Obj) : D → Value → Prop
  | .none, v => v = .none
  | .bool b, v => v = .bool b
  | .int i, v => ∃ t, v = .int i t
  | .str x, v => ∃ t, v = .str ⟨x.toArray⟩ t
  | .bytes b, v => ∃ t, v = .bytes b.toArray t
  | .list l, v => ∃ a vs, v = .ref a ∧ ListAt F a vs ∧ IsAll F l vs
  | .tuple l, v => ∃ a vs, v = .ref a ∧ TupAt F a vs ∧ IsAll F l vs
  | .addr a, v => v = .ref a
  | .bound i a, v => ∃ b, v = .ref b ∧ F b = some (boundObj i a)
noncomputable def IsAll (F : Addr → Option Obj) : List D → List Value → Prop
  | [], vs => vs = []
  | d :: r, vs => ∃ v vr, vs = v :: vr ∧ Is F d v ∧ IsAll F r vr
end

/-- what matters of a heap for data: its lists and tuples -/
noncomputable def SeqSub (F F' : Addr → Option Obj) : Prop := ∀ a o, F a = some o → FixD o.data → F' a = some o
theorem ListAt.mono {F F' : Addr → Option Obj} (k : SeqSub F F') {a : Addr} {vs : List Value} (h : ListAt F a vs) : ListAt F' a vs := by
  obtain ⟨n, h1⟩ := h
  exact ⟨n, k a _ h1 (.seq ..)⟩
theorem TupAt.mono {F F' : Addr → Option Obj} (k : SeqSub F F') {a : Addr} {vs : List Value} (h : TupAt F a vs) : TupAt F' a vs := by
  obtain ⟨n, h1⟩ := h
  exact ⟨n, k a _ h1 (.seq ..)⟩

mutual
theorem Is.mono {F F' : Addr → Option Obj} (k : SeqSub F F') : ∀ {d : D} {v : Value}, Is F d v → Is F' d v
  | .none, _, h => h
  | .bool _, _, h => h
  | .int _, _, h => h
  | .str _, _, h => h
  | .bytes _, _, h => h
  | .addr _, _, h => h
  | .bound _ _, _, h => by
    simp only [Is] at h ⊢
    obtain ⟨b, e, h1⟩ := h
    exact ⟨b, e, k b _ h1 (.bound ..)⟩
  | .list _, _, h => by
    simp only [Is] at h ⊢
    obtain ⟨a, vs, e, h1, h2⟩ := h
    exact ⟨a, vs, e, h1.mono k, IsAll.mono k h2⟩
  | .tuple _, _, h => by
    simp only [Is] at h ⊢
    obtain ⟨a, vs, e, h1, h2⟩ := h
    exact ⟨a, vs, e, h1.mono k, IsAll.mono k h2⟩
theorem IsAll.mono {F F' : Addr → Option Obj} (k : SeqSub F F') : ∀ {l : List D} {vs : List Value}, IsAll F l vs → IsAll F' l vs
  | [], _, h => by simp only [IsAll] at h ⊢; exact h
  | _ :: _, _, h => by
    simp only [IsAll] at h ⊢
    obtain ⟨v, vr, e, h1, h2⟩ := h
    exact ⟨v, vr, e, Is.mono k h1, IsAll.mono k h2⟩
end
section
variable {F : Addr → Option Obj}
theorem is_none {v : Value} : Is F .none v ↔ v = .none := by simp only [Is]
theorem is_bool {v : Value} {b : Bool} : Is F (.bool b) v ↔ v = .bool b := by simp only [Is]
theorem is_int {v : Value} {i : Int} : Is F (.int i) v ↔ ∃ t, v = .int i t := by simp only [Is]
theorem is_str {v : Value} {i : List Nat} : Is F (.str i) v ↔ ∃ t, v = .str ⟨i.toArray⟩ t := by simp only [Is]
theorem is_bytes {v : Value} {i : List UInt8} : Is F (.bytes i) v ↔ ∃ t, v = .bytes i.toArray t := by simp only [Is]
theorem is_addr {v : Value} {a : Addr} : Is F (.addr a) v ↔ v = .ref a := by simp only [Is]
theorem is_bound {v : Value} {i : String} {a : Addr} : Is F (.bound i a) v ↔ ∃ b, v = .ref b ∧ F b = some (boundObj i a) := by simp only [Is]
theorem is_list {v : Value} {l : List D} : Is F (.list l) v ↔ ∃ a vs, v = .ref a ∧ ListAt F a vs ∧ IsAll F l vs := by simp only [Is]
theorem is_tuple {v : Value} {l : List D} : Is F (.tuple l) v ↔ ∃ a vs, v = .ref a ∧ TupAt F a vs ∧ IsAll F l vs := by simp only [Is]
theorem isAll_nil {vs : List Value} : IsAll F [] vs ↔ vs = [] := by simp only [IsAll]
theorem isAll_cons {vs : List Value} {d : D} {r : List D} : IsAll F (d :: r) vs ↔ ∃ v vr, vs = v :: vr ∧ Is F d v ∧ IsAll F r vr := by simp only [IsAll]
theorem IsAll.length : ∀ {l : List D} {vs : List Value}, IsAll F l vs → vs.length = l.length
  | [], _, h => by rw [isAll_nil.mp h]; rfl
  | _ :: _, _, h => by
    obtain ⟨v, vr, rfl, _, h2⟩ := isAll_cons.mp h
    simp [IsAll.length h2]
theorem IsAll.append : ∀ {l l' : List D} {vs vs' : List Value}, IsAll F l vs → IsAll F l' vs' → IsAll F (l ++ l') (vs ++ vs')
  | [], _, _, _, h, h' => by rw [isAll_nil.mp h]; exact h'
  | _ :: _, _, _, _, h, h' => by
    obtain ⟨v, vr, rfl, h1, h2⟩ := isAll_cons.mp h
    exact isAll_cons.mpr ⟨v, _, rfl, h1, IsAll.append h2 h'⟩
theorem IsAll.get : ∀ {l : List D} {vs : List Value}, IsAll F l vs → ∀ {i : Nat} {d : D}, l[i]? = some d → ∃ v, vs[i]? = some v ∧ Is F d v
  | [], _, _, _, _, e => by simp at e
  | _ :: _, _, h, i, d, e => by
    obtain ⟨v, vr, rfl, h1, h2⟩ := isAll_cons.mp h
    cases i with
    | zero => simp at e; subst e; exact ⟨v, rfl, h1⟩
    | succ i => simp at e; simpa using IsAll.get h2 e
theorem IsAll.get' : ∀ {l : List D} {vs : List Value}, IsAll F l vs → ∀ {i : Nat} {v : Value}, vs[i]? = some v → ∃ d, l[i]? = some d ∧ Is F d v
  | [], _, h, _, _, e => by rw [isAll_nil.mp h] at e; simp at e
  | d :: _, _, h, i, v, e => by
    obtain ⟨v, vr, rfl, h1, h2⟩ := isAll_cons.mp h
    cases i with
    | zero => simp at e; subst e; exact ⟨d, rfl, h1⟩
    | succ i => simp at e; simpa using IsAll.get' h2 e
theorem IsAll.take : ∀ {l : List D} {vs : List Value}, IsAll F l vs → ∀ n, IsAll F (l.take n) (vs.take n)
  | [], _, h, n => by rw [isAll_nil.mp h]; simp [isAll_nil]
  | _ :: _, _, h, n => by
    obtain ⟨v, vr, rfl, h1, h2⟩ := isAll_cons.mp h
    cases n with
    | zero => simp [isAll_nil]
    | succ n => exact isAll_cons.mpr ⟨v, _, rfl, h1, IsAll.take h2 n⟩
theorem IsAll.drop : ∀ {l : List D} {vs : List Value}, IsAll F l vs → ∀ n, IsAll F (l.drop n) (vs.drop n)
  | [], _, h, n => by rw [isAll_nil.mp h]; simp [isAll_nil]
  | _ :: _, _, h, n => by
    obtain ⟨v, vr, rfl, h1, h2⟩ := isAll_cons.mp h
    cases n with
    | zero => exact isAll_cons.mpr ⟨v, _, rfl, h1, h2⟩
    | succ n => simpa using IsAll.drop h2 n
end

/-- a table of code that a maker's calls fill: its place, the maker's code, where the made def stands, its name -/
structure Tab where
  t : Addr
  c : Addr
  line : Nat
  col : Nat
  qual : Str

structure Cx where
  prog : Program
  w : World
  K : Frag
  n : Nat
  mg : Str → Option Value
  mb : Str → Option Value
  tabs : List Tab

noncomputable abbrev Cx.M (X : Cx) : Model := model X.prog X.w
noncomputable abbrev Cx.TB (X : Cx) : List Addr := X.tabs.map (·.t)

noncomputable def TabOk (h : Heap) (T : Tab) : Prop :=
  CodeHd h T.c T.t ∧ (h.get? T.t = some (tabObj #[]) ∨ ∃ c', h.get? T.t = some (tabObj #[rawInt T.line, rawInt T.col, .ref c']) ∧ h.CodeRec (.ref c') T.qual)

/-- built-in names that the text does not bind -/
noncomputable def frees : List Str := ["range", "len", "min", "sum", "sorted", "chr", "ord", "bytes", "str", "object", "isinstance", "ValueError", "IndexError"]
structure Base (X : Cx) (h : Heap) : Prop where
  free : ∀ x ∈ frees, X.mg x = Option.none
  K : X.K.In h
  g : h.Ns mainGlobals X.mg
  b : h.Ns builtinsNs X.mb
  bb : ∀ x : Str, x ≠ "__name__" → X.mb x = bootBuiltins x
  lim : h.NoLimit
  dig : ∃ mc, h.Ns cStatics mc ∧ mc "sys.int_max_str_digits" = Option.none
  tabs : ∀ T ∈ X.tabs, TabOk h T
  low : ∀ a o, X.K.lookup a = some o → a < X.n ∧ a ∉ X.TB
  low3 : mainGlobals < X.n ∧ builtinsNs < X.n ∧ cStatics < X.n ∧ mainGlobals ∉ X.TB ∧ builtinsNs ∉ X.TB ∧ cStatics ∉ X.TB
  lowT : ∀ T ∈ X.tabs, T.t < X.n ∧ T.c < X.n ∧ T.c ∉ X.TB
  big : ∃ o, h.get? (X.n - 1) = some o

theorem ns_at {h h' : Heap} {a : Addr} {m : Str → Option Value} (x : h.Ns a m) (k : ∀ o, h.get? a = some o → h'.get? a = some o) : h'.Ns a m :=
  let ⟨o, es, ep, e, r⟩ := x; ⟨o, es, ep, k o e, r⟩
theorem codeHd_at {h h' : Heap} {c P : Addr} (x : CodeHd h c P) (k : ∀ o, h.get? c = some o → h'.get? c = some o) : CodeHd h' c P :=
  let ⟨o, vs, file, tf, flags, tg, inF, text, tt, e, r⟩ := x; ⟨o, vs, file, tf, flags, tg, inF, text, tt, k _ e, r⟩

theorem Base.keeps {X : Cx} {h h' : Heap} (B : Base X h) (k : ∀ b o, h.get? b = some o → h'.get? b = some o) : Base X h' where
  free := B.free
  K := B.K.keeps k
  g := B.g.keeps k
  b := B.b.keeps k
  bb := B.bb
  lim := B.lim.keeps k
  dig := let ⟨mc, a, e⟩ := B.dig; ⟨mc, a.keeps k, e⟩
  tabs := fun T hT => by
    obtain ⟨h1, h2⟩ := B.tabs T hT
    refine ⟨codeHd_at h1 (k _), ?_⟩
    rcases h2 with h2 | ⟨c', h2, h3⟩
    · exact .inl (k _ _ h2)
    · exact .inr ⟨c', k _ _ h2, h3.keeps k⟩
  low := B.low
  low3 := B.low3
  lowT := B.lowT
  big := let ⟨o, e⟩ := B.big; ⟨o, k _ _ e⟩

/-- an object of the call's own changes: one that is no code -/
noncomputable def NoCode (o : Obj) : Prop := ∀ vs, o.data = .fields vs → (∀ q t, vs[1]? ≠ some (Value.str q t)) ∧ ∀ a, vs[1]? ≠ some (Value.ref a)
theorem noCode_seq {o : Obj} {xs n} (h : o.data = .seq xs n) : NoCode o := fun vs e => by rw [h] at e; cases e
theorem noCode_dict {o : Obj} {xs n} (h : o.data = .dict xs n) : NoCode o := fun vs e => by rw [h] at e; cases e
theorem noCode_cell {o : Obj} {v} (h : o.data = .cell v) : NoCode o := fun vs e => by rw [h] at e; cases e
theorem NoCode.fix {o : Obj} {vs} (h : NoCode o) (hd : o.data = .fields vs) : ¬ FixD o.data := fun q => by
  rw [hd] at q
  cases q
  exact (h _ hd).2 _ rfl
theorem Base.change {X : Cx} {h h' : Heap} (B : Base X h) {a : Addr} {oa : Obj} (ha : h.get? a = some oa) (hn : X.n ≤ a) (hc : NoCode oa) (k : ∀ b o, b ≠ a → h.get? b = some o → h'.get? b = some o) : Base X h' := by
  have lo : ∀ b o, b < X.n → h.get? b = some o → h'.get? b = some o := fun b o hb e => k b o (Nat.ne_of_lt (Nat.lt_of_lt_of_le hb hn)) e
  refine ⟨B.free, fun b o e => lo _ _ (B.low b o e).1 (B.K b o e), ns_at B.g fun o e => lo _ _ B.low3.1 e, ns_at B.b fun o e => lo _ _ B.low3.2.1 e, B.bb, ?_, ?_, ?_, B.low, B.low3, B.lowT, ?_⟩
  · obtain ⟨mc, x, y⟩ := B.lim
    exact ⟨mc, ns_at x fun o e => lo _ _ B.low3.2.2.1 e, y⟩
  · obtain ⟨mc, x, y⟩ := B.dig
    exact ⟨mc, ns_at x fun o e => lo _ _ B.low3.2.2.1 e, y⟩
  · intro T hT
    obtain ⟨h1, h2⟩ := B.tabs T hT
    have lT := B.lowT T hT
    refine ⟨codeHd_at h1 fun o e => lo _ _ lT.2.1 e, ?_⟩
    rcases h2 with h2 | ⟨c', h2, c, o, vs, t, e1, e2, e3, e4⟩
    · exact .inl (lo _ _ lT.1 h2)
    · refine .inr ⟨c', lo _ _ lT.1 h2, c, o, vs, t, e1, k _ _ (fun q => ?_) e2, e3, e4⟩
      rw [q, ha] at e2; cases e2
      exact (hc vs e3).1 _ _ e4
  · obtain ⟨o, e⟩ := B.big
    by_cases hz : X.n - 1 = a
    · have h0 : 0 < X.n := Nat.lt_of_le_of_lt (Nat.zero_le _) B.low3.1
      exact absurd hz (Nat.ne_of_lt (Nat.lt_of_lt_of_le (Nat.sub_lt h0 Nat.one_pos) hn))
    · exact ⟨o, k _ _ hz e⟩
theorem Base.size {X : Cx} {h : Heap} (B : Base X h) : X.n ≤ h.objs.size := by
  obtain ⟨o, e⟩ := B.big
  have h1 : X.n - 1 < h.objs.size := Heap.lt_size e
  exact Nat.le_of_pred_lt h1
theorem Base.tabFields {X : Cx} {h : Heap} (B : Base X h) {a : Addr} (ha : a ∈ X.TB) : ∃ vs, h.get? a = some (tabObj vs) := by
  obtain ⟨T, hT, rfl⟩ := List.mem_map.mp ha
  rcases (B.tabs T hT).2 with h2 | ⟨c', h2, _⟩
  · exact ⟨_, h2⟩
  · exact ⟨_, h2⟩
theorem Base.notTab {X : Cx} {h : Heap} (B : Base X h) {a : Addr} {o : Obj} (e : h.get? a = some o) (hd : ∀ vs, o.data ≠ .fields vs) : a ∉ X.TB := fun q => by
  obtain ⟨vs, e2⟩ := B.tabFields q
  rw [e] at e2; cases e2
  exact hd vs rfl


/-- what stands stays: but what W names; a frame's own slots may turn (a traceback's work) -/
structure Ext (X : Cx) (W : Addr → Prop) (h h' : Heap) : Prop where
  keep : ∀ b o, ¬ W b → b ∉ X.TB → h.get? b = some o → (∃ sl, h'.get? b = some { o with slots := sl }) ∧ ((∀ es ep, o.data ≠ .dict es ep) → h'.get? b = some o)
  live : ∀ b o, h.get? b = some o → (∀ vs, o.data ≠ .fields vs) → ∃ o', h'.get? b = some o' ∧ (∀ vs, o'.data ≠ .fields vs) ∧ ∀ es ep, o.data = .dict es ep → ∃ es' ep', o'.data = .dict es' ep'
  base : Base X h → Base X h'
noncomputable abbrev No : Addr → Prop := fun _ => False
theorem Ext.refl (X : Cx) (W : Addr → Prop) (h : Heap) : Ext X W h h := ⟨fun _ o _ _ e => ⟨⟨o.slots, e⟩, fun _ => e⟩, fun _ o e f => ⟨o, e, f, fun es ep k => ⟨es, ep, k⟩⟩, id⟩
theorem Ext.trans {X : Cx} {W : Addr → Prop} {h h₁ h₂ : Heap} (x : Ext X W h h₁) (y : Ext X W h₁ h₂) : Ext X W h h₂ := by
  refine ⟨fun b o n t e => ?_, fun b o e f => ?_, fun B => y.base (x.base B)⟩
  · obtain ⟨⟨sl, e1⟩, e2⟩ := x.keep b o n t e
    obtain ⟨⟨sl2, e3⟩, e4⟩ := y.keep b _ n t e1
    exact ⟨⟨sl2, e3⟩, fun hc => (y.keep b _ n t (e2 hc)).2 hc⟩
  · obtain ⟨o1, e1, f1, d1⟩ := x.live b o e f
    obtain ⟨o2, e2, f2, d2⟩ := y.live b o1 e1 f1
    exact ⟨o2, e2, f2, fun es ep k => let ⟨_, _, q⟩ := d1 es ep k; d2 _ _ q⟩
theorem Ext.mono {X : Cx} {W W' : Addr → Prop} {h h' : Heap} (x : Ext X W h h') (k : ∀ b, W b → W' b) : Ext X W' h h' := ⟨fun b o n t e => x.keep b o (fun q => n (k b q)) t e, x.live, x.base⟩
/-- the same, the places that may change told by who stood at the start -/
theorem Ext.monoAt {X : Cx} {W W' : Addr → Prop} {h h' : Heap} (x : Ext X W h h') (k : ∀ b o, h.get? b = some o → W b → W' b) : Ext X W' h h' := ⟨fun b o n t e => x.keep b o (fun q => n (k b o e q)) t e, x.live, x.base⟩
theorem Ext.of {X : Cx} {W : Addr → Prop} {h h' : Heap} (k : ∀ b o, h.get? b = some o → h'.get? b = some o) : Ext X W h h' := ⟨fun b o _ _ e => ⟨⟨o.slots, k b o e⟩, fun _ => k b o e⟩, fun b o e f => ⟨o, k b o e, f, fun es ep k => ⟨es, ep, k⟩⟩, fun B => B.keeps k⟩
theorem Ext.push {X : Cx} {W : Addr → Prop} (h : Heap) (o : Obj) : Ext X W h (h.push o) := Ext.of fun _ _ e => Heap.get?_push_of_some _ e
/-- one object that is no record turned -/
theorem Ext.at {X : Cx} {W : Addr → Prop} {h h' : Heap} {a : Addr} {oa oa' : Obj} (ha : h.get? a = some oa) (ha' : h'.get? a = some oa') (hd : ∀ vs, oa.data ≠ .fields vs) (hd' : ∀ vs, oa'.data ≠ .fields vs) (hd'' : ∀ es ep, oa.data = .dict es ep → ∃ es' ep', oa'.data = .dict es' ep')
    (hn : X.n ≤ a) (hW : W a) (k : ∀ b o, b ≠ a → h.get? b = some o → h'.get? b = some o) : Ext X W h h' := by
  refine ⟨fun b o n t e => ?_, fun b o e f => ?_, fun B => B.change ha hn (fun vs e => absurd e (hd vs)) k⟩
  · have hb : b ≠ a := fun q => n (q ▸ hW)
    exact ⟨⟨o.slots, k b o hb e⟩, fun _ => k b o hb e⟩
  · by_cases hb : b = a
    · subst hb; rw [ha] at e; cases e
      exact ⟨oa', ha', hd', hd''⟩
    · exact ⟨o, k b o hb e, f, fun es ep k => ⟨es, ep, k⟩⟩

/-- a record turned (an iterator) -/
theorem Ext.atF {X : Cx} {W : Addr → Prop} {h h' : Heap} {a : Addr} {oa : Obj} {vs : Array Value} (ha : h.get? a = some oa) (hd : oa.data = .fields vs) (hc : NoCode oa)
    (hn : X.n ≤ a) (hW : W a) (k : ∀ b o, b ≠ a → h.get? b = some o → h'.get? b = some o) : Ext X W h h' := by
  refine ⟨fun b o n t e => ?_, fun b o e f => ?_, fun B => B.change ha hn hc k⟩
  · have hb : b ≠ a := fun q => n (q ▸ hW)
    exact ⟨⟨o.slots, k b o hb e⟩, fun _ => k b o hb e⟩
  · by_cases hb : b = a
    · subst hb; rw [ha] at e; cases e
      exact absurd hd (f vs)
    · exact ⟨o, k b o hb e, f, fun es ep k => ⟨es, ep, k⟩⟩

noncomputable def StepW (X : Cx) (W : Addr → Prop) (s s' : Shared) : Prop := ∃ h' tk, s' = { s with heap := h', toks := tk } ∧ Ext X W s.heap h'
noncomputable abbrev Step (X : Cx) (s s' : Shared) : Prop := StepW X No s s'
section
variable {X : Cx} {W : Addr → Prop} {s s₁ s₂ : Shared}
theorem StepW.refl (X : Cx) (W : Addr → Prop) (s : Shared) : StepW X W s s := ⟨s.heap, s.toks, rfl, Ext.refl _ _ _⟩
theorem StepW.trans (x : StepW X W s s₁) (y : StepW X W s₁ s₂) : StepW X W s s₂ := by
  obtain ⟨h1, t1, rfl, x⟩ := x
  obtain ⟨h2, t2, rfl, y⟩ := y
  exact ⟨h2, t2, rfl, x.trans y⟩
theorem StepW.ext (x : StepW X W s s₁) : Ext X W s.heap s₁.heap := by
  obtain ⟨h1, t1, rfl, x⟩ := x
  exact x
theorem StepW.mono {W' : Addr → Prop} (x : StepW X W s s₁) (k : ∀ b, W b → W' b) : StepW X W' s s₁ := by
  obtain ⟨h1, t1, rfl, x⟩ := x
  exact ⟨h1, t1, rfl, x.mono k⟩
theorem StepW.monoAt {W' : Addr → Prop} (x : StepW X W s s₁) (k : ∀ b o, s.heap.get? b = some o → W b → W' b) : StepW X W' s s₁ := by
  obtain ⟨h1, t1, rfl, x⟩ := x
  exact ⟨h1, t1, rfl, x.monoAt k⟩
theorem StepW.no (x : StepW X No s s₁) : StepW X W s s₁ := x.mono fun _ f => f.elim
theorem StepW.toks (X : Cx) (W : Addr → Prop) (s : Shared) (tk : Nat) : StepW X W s { s with toks := tk } := ⟨s.heap, tk, rfl, Ext.refl _ _ _⟩
theorem StepW.of {h' : Heap} {tk : Nat} (x : Ext X W s.heap h') : StepW X W s { s with heap := h', toks := tk } := ⟨h', tk, rfl, x⟩
theorem StepW.ofH {h' : Heap} (x : Ext X W s.heap h') : StepW X W s { s with heap := h' } := ⟨h', s.toks, rfl, x⟩
theorem StepW.keeps {h' : Heap} {tk : Nat} (x : ∀ b o, s.heap.get? b = some o → h'.get? b = some o) : StepW X W s { s with heap := h', toks := tk } := .of (Ext.of x)
end

/-- room: frames and C units -/
structure AOk (k : Nat) (A : Around) : Prop where
  handled : k ≠ 0 → A.handled = none
  depth : A.depth + k < recursionLimit
  units : A.units + 20 * k < cLine
theorem AOk.mono {k k' : Nat} {A : Around} (h : AOk k A) (hk : k' ≤ k) : AOk k' A := ⟨fun q => h.handled (by omega), by have := h.depth; omega, by have := h.units; omega⟩

/-- the frames on the way stand, above the part that stays -/
noncomputable def FrL (X : Cx) (A : Around) (h : Heap) : Prop := ∃ l, A.frames = some l ∧ ∀ e ∈ l, e.scope.kind ≠ .module ∧ ∃ L o, e.frame = some L ∧ X.n ≤ L ∧ h.get? L = some o ∧ ∃ es ep, o.data = .dict es ep
theorem FrL.ext {X : Cx} {W : Addr → Prop} {A : Around} {h h' : Heap} (x : FrL X A h) (y : Ext X W h h') : FrL X A h' := by
  obtain ⟨l, h1, h2⟩ := x
  refine ⟨l, h1, fun e he => ?_⟩
  obtain ⟨hk, L, o, hf, hn, ho, es, ep, hd⟩ := h2 e he
  obtain ⟨o', e1, _, e3⟩ := y.live L o ho fun vs q => by rw [hd] at q; cases q
  exact ⟨hk, L, o', hf, hn, e1, e3 _ _ hd⟩

structure Good (X : Cx) (k : Nat) (H : List Addr) (A : Around) (s : Shared) : Prop where
  ok : AOk k A
  base : Base X s.heap
  hid : ∀ a ∈ H, ∃ o, s.heap.get? a = some o ∧ ∀ vs, o.data ≠ .fields vs
  fr : FrL X A s.heap
section
variable {X : Cx} {k : Nat} {H : List Addr} {A : Around} {W : Addr → Prop} {s s' : Shared}
theorem Good.step (G : Good X k H A s) (x : StepW X W s s') : Good X k H A s' := by
  have E := x.ext
  refine ⟨G.ok, E.base G.base, fun a ha => ?_, G.fr.ext E⟩
  obtain ⟨o, e, f⟩ := G.hid a ha
  obtain ⟨o', e', f', _⟩ := E.live a o e f
  exact ⟨o', e', f'⟩
theorem Good.mono {k' : Nat} (G : Good X k H A s) (hk : k' ≤ k) : Good X k' H A s := ⟨G.ok.mono hk, G.base, G.hid, G.fr⟩

/-- what may change holds no datum in sight -/
noncomputable def WOk (H : List Addr) (W : Addr → Prop) (h : Heap) : Prop := ∀ a, W a → a ∈ H ∨ ∀ o, h.get? a = some o → ¬ FixD o.data
theorem WOk.no {h : Heap} : WOk H No h := fun _ f => f.elim
theorem seqSub {h h' : Heap} (B : Base X h) (E : Ext X W h h') (hW : WOk H W h) : SeqSub (vis H h) (vis H h') := by
  intro a o e hs
  obtain ⟨h1, h2⟩ := vis_iff.mp e
  refine vis_iff.mpr ⟨h1, (E.keep _ _ (fun q => ?_) (fun q => ?_) h2).2 fun es ep q => by rw [q] at hs; cases hs⟩
  · rcases hW a q with h | h
    · exact h1 h
    · exact h o h2 hs
  · obtain ⟨T, hT, rfl⟩ := List.mem_map.mp q
    rcases (B.tabs T hT).2 with e | ⟨c', e, _⟩ <;> rw [h2] at e <;> cases e <;> cases hs
theorem Is.stepW {d : D} {v : Value} (i : Is (vis H s.heap) d v) (G : Good X k H A s) (x : StepW X W s s') (hW : WOk H W s.heap) : Is (vis H s'.heap) d v := i.mono (seqSub G.base x.ext hW)
theorem IsAll.stepW {d : List D} {v : List Value} (i : IsAll (vis H s.heap) d v) (G : Good X k H A s) (x : StepW X W s s') (hW : WOk H W s.heap) : IsAll (vis H s'.heap) d v := i.mono (seqSub G.base x.ext hW)
theorem Is.step {d : D} {v : Value} (i : Is (vis H s.heap) d v) (G : Good X k H A s) (x : Step X s s') : Is (vis H s'.heap) d v := i.stepW G x WOk.no
theorem IsAll.step {d : List D} {v : List Value} (i : IsAll (vis H s.heap) d v) (G : Good X k H A s) (x : Step X s s') : IsAll (vis H s'.heap) d v := i.stepW G x WOk.no
theorem ListAt.heap {h : Heap} {a : Addr} {vs : List Value} (x : ListAt (vis H h) a vs) : h.IsList a vs.toArray := by
  obtain ⟨n, e⟩ := x
  exact ⟨_, (vis_iff.mp e).2, rfl, n, rfl⟩
theorem TupAt.heap {h : Heap} {a : Addr} {vs : List Value} (x : TupAt (vis H h) a vs) : h.IsTuple a vs.toArray := by
  obtain ⟨n, e⟩ := x
  exact ⟨_, (vis_iff.mp e).2, rfl, n, rfl⟩
theorem get_size_none (h : Heap) : h.get? h.objs.size = none := by
  cases q : h.get? h.objs.size with
  | none => rfl
  | some o => exact absurd (Heap.lt_size q) (Nat.lt_irrefl _)
theorem get_none {h : Heap} {a : Addr} (ha : h.objs.size ≤ a) : h.get? a = none := by
  cases q : h.get? a with
  | none => rfl
  | some o => exact absurd (Heap.lt_size q) (Nat.not_lt.mpr ha)
theorem Good.fresh (G : Good X k H A s) {a : Addr} (ha : s.heap.objs.size ≤ a) : a ∉ H := fun q => by
  obtain ⟨o, e, _⟩ := G.hid _ q
  rw [get_none ha] at e; cases e
end

/-- an environment of a def's, or a comprehension's in it -/
structure EnvOk (env : Env) : Prop where
  kind : env.scope.kind = .function
  globals : env.globals = mainGlobals
  builtins : env.builtins = builtinsNs

noncomputable def Look (env : Env) (h : Heap) (x : Str) (v : Value) : Prop :=
  (env.kindOf x = some .local ∧ ∃ m, h.Ns env.locals m ∧ m x = some v) ∨
  (env.kindOf x = some .cell ∧ ∃ c, env.cells.lookup x = some c ∧ h.IsCell c (some v)) ∨
  (env.kindOf x = some .free ∧ (x == ("__classdict__" : Str)) = false ∧ ∃ c, env.cells.lookup x = some c ∧ h.IsCell c (some v))

noncomputable abbrev Ro := List (Str × D)
noncomputable def Sees (H : List Addr) (env : Env) (h : Heap) (ρ : Ro) : Prop := ∀ x d, ρ.lookup x = some d → ∃ v, Look env h x v ∧ Is (vis H h) d v

theorem Ext.ns {X : Cx} {W : Addr → Prop} {h h' : Heap} (B : Base X h) (E : Ext X W h h') {a : Addr} {m : Str → Option Value} (x : h.Ns a m) (hW : ¬ W a) : h'.Ns a m := by
  obtain ⟨o, es, ep, e, hd, r⟩ := x
  obtain ⟨⟨sl, e1⟩, _⟩ := E.keep _ _ hW (B.notTab e fun vs q => by rw [hd] at q; cases q) e
  exact ⟨_, es, ep, e1, hd, r⟩
theorem Ext.cell {X : Cx} {W : Addr → Prop} {h h' : Heap} (B : Base X h) (E : Ext X W h h') {a : Addr} {m : Option Value} (x : h.IsCell a m) (hW : ¬ W a) : h'.IsCell a m := by
  obtain ⟨o, e, hd⟩ := x
  obtain ⟨⟨sl, e1⟩, _⟩ := E.keep _ _ hW (B.notTab e fun vs q => by rw [hd] at q; cases q) e
  exact ⟨_, e1, hd⟩
theorem Look.ext {X : Cx} {env : Env} {h h' : Heap} {x : Str} {v : Value} (l : Look env h x v) (B : Base X h) (E : Ext X No h h') : Look env h' x v := by
  rcases l with ⟨h1, m, h2, h3⟩ | ⟨h1, c, h2, h3⟩ | ⟨h1, hc, c, h2, h3⟩
  · exact .inl ⟨h1, m, E.ns B h2 fun f => f, h3⟩
  · exact .inr (.inl ⟨h1, c, h2, E.cell B h3 fun f => f⟩)
  · exact .inr (.inr ⟨h1, hc, c, h2, E.cell B h3 fun f => f⟩)
section
variable {X : Cx} {k : Nat} {H : List Addr} {A : Around} {s s' : Shared} {env : Env} {ρ : Ro}
theorem Sees.step (S : Sees H env s.heap ρ) (G : Good X k H A s) (x : Step X s s') : Sees H env s'.heap ρ := fun y d hy => by
  obtain ⟨v, h1, h2⟩ := S y d hy
  exact ⟨v, h1.ext G.base x.ext, h2.step G x⟩
theorem Sees.sub {ρ' : Ro} {h : Heap} (S : Sees H env h ρ) (k : ∀ x d, ρ'.lookup x = some d → ρ.lookup x = some d) : Sees H env h ρ' := fun x d e => S x d (k x d e)
end

/-- the expression evaluates to the datum, and nothing that stood changes -/
noncomputable def Evs (X : Cx) (k : Nat) (H : List Addr) (env : Env) (ρ : Ro) (e : PySem.Expr) (d : D) : Prop :=
  ∀ (A : Around) (s : Shared) (Q : Value → Shared → Prop) (E : Value → Shared → Prop), Good X k H A s → Sees H env s.heap ρ →
    (∀ v s', Is (vis H s'.heap) d v → Step X s s' → Q v s') → wpAny X.M A (eval e env) Q E s
/-- the test comes out so -/
noncomputable def Tst (X : Cx) (k : Nat) (H : List Addr) (env : Env) (ρ : Ro) (e : PySem.Expr) (b : Bool) : Prop :=
  ∀ (A : Around) (s : Shared) (Q : Bool → Shared → Prop) (E : Value → Shared → Prop), Good X k H A s → Sees H env s.heap ρ →
    (∀ s', Step X s s' → Q b s') → wpAny X.M A (isTrue e env (eval e env)) Q E s

/-- what the body of a def may turn: its frame's names, its cells, its own lists: all made since it was called -/
noncomputable def Wr (env : Env) (H : List Addr) (N : Nat) : Addr → Prop := fun b => N ≤ b ∧ (b = env.locals ∨ (∃ x, env.cells.lookup x = some b) ∨ b ∈ H)

structure FrOk (X : Cx) (A : Around) (env : Env) (N : Nat) : Prop where
  eok : EnvOk env
  low : X.n ≤ N
  loc : N ≤ env.locals
  apart : ∀ x y c, env.cells.lookup x = some c → env.cells.lookup y = some c → x = y
  top : env.frame = some env.locals ∧ ∃ outer, A.frames = some (env :: outer)

noncomputable abbrev Mu := List (Addr × List D)
structure Inv (X : Cx) (k : Nat) (H : List Addr) (A : Around) (env : Env) (N : Nat) (ρ : Ro) (μ : Mu) (s : Shared) : Prop where
  fr : FrOk X A env N
  good : Good X k H A s
  sees : Sees H env s.heap ρ
  loc : ∃ m, s.heap.Ns env.locals m
  cell : ∀ x c, env.cells.lookup x = some c → ∃ v, s.heap.IsCell c v
  own : ∀ x c, env.kindOf x = some .cell → env.cells.lookup x = some c → N ≤ c
  lists : ∀ a ds, μ.lookup a = some ds → a ∈ H ∧ N ≤ a ∧ ∃ ys, s.heap.PlainList a ys ∧ IsAll (vis H s.heap) ds ys.toList
section
variable {X : Cx} {k : Nat} {H : List Addr} {A : Around} {s s' : Shared} {env : Env} {N : Nat} {ρ : Ro} {μ : Mu}
theorem plain_ext {W : Addr → Prop} {h h' : Heap} (B : Base X h) (E : Ext X W h h') {a : Addr} {ys : Array Value} (x : h.PlainList a ys) (hW : ¬ W a) : h'.PlainList a ys := by
  obtain ⟨n, e⟩ := x
  exact ⟨n, (E.keep _ _ hW (B.notTab e fun vs q => by cases q) e).2 (by intro _ _ q; cases q)⟩
theorem Inv.step (I : Inv X k H A env N ρ μ s) (x : Step X s s') : Inv X k H A env N ρ μ s' where
  fr := I.fr
  good := I.good.step x
  sees := I.sees.step I.good x
  loc := let ⟨m, h⟩ := I.loc; ⟨m, x.ext.ns I.good.base h fun f => f⟩
  cell := fun y c h => let ⟨v, h'⟩ := I.cell y c h; ⟨v, x.ext.cell I.good.base h' fun f => f⟩
  own := I.own
  lists := fun a ds h => let ⟨h1, h2, ys, h3, h4⟩ := I.lists a ds h; ⟨h1, h2, ys, plain_ext I.good.base x.ext h3 fun f => f, h4.step I.good x⟩
theorem Inv.sub {ρ' : Ro} {μ' : Mu} (I : Inv X k H A env N ρ μ s) (q : ∀ x d, ρ'.lookup x = some d → ρ.lookup x = some d) (q' : ∀ x d, μ'.lookup x = some d → μ.lookup x = some d) : Inv X k H A env N ρ' μ' s :=
  ⟨I.fr, I.good, I.sees.sub q, I.loc, I.cell, I.own, fun a ds h => I.lists a ds (q' a ds h)⟩
theorem Inv.wok (I : Inv X k H A env N ρ μ s) : WOk H (Wr env H N) s.heap := fun a ⟨_, h⟩ => by
  rcases h with rfl | ⟨x, h⟩ | h
  · refine .inr fun o e q => ?_
    obtain ⟨m, o', es, ep, e', hd, _⟩ := I.loc
    rw [e] at e'; cases e'; rw [hd] at q; cases q
  · refine .inr fun o e q => ?_
    obtain ⟨v, o', e', hd⟩ := I.cell x a h
    rw [e] at e'; cases e'; rw [hd] at q; cases q
  · exact .inl h
/-- the postcondition that a run of statements is held against -/
noncomputable abbrev Post := Around → Flow → Shared → Prop
noncomputable def Runs (X : Cx) (k : Nat) (H : List Addr) (env : Env) (N : Nat) (ρ : Ro) (μ : Mu) (ss : List Stmt) (R : Post) : Prop :=
  ∀ (A : Around) (s : Shared) (Q : Flow → Shared → Prop) (E : Value → Shared → Prop), Inv X k H A env N ρ μ s →
    (∀ f s', StepW X (Wr env H N) s s' → R A f s' → Q f s') → wpAny X.M A (execs ss env) Q E s
noncomputable def EvsI (X : Cx) (k : Nat) (H : List Addr) (env : Env) (N : Nat) (ρ : Ro) (μ : Mu) (e : PySem.Expr) (d : D) : Prop :=
  ∀ (A : Around) (s : Shared) (Q : Value → Shared → Prop) (E : Value → Shared → Prop), Inv X k H A env N ρ μ s →
    (∀ v s', Is (vis H s'.heap) d v → Step X s s' → Q v s') → wpAny X.M A (eval e env) Q E s
noncomputable def TstI (X : Cx) (k : Nat) (H : List Addr) (env : Env) (N : Nat) (ρ : Ro) (μ : Mu) (e : PySem.Expr) (b : Bool) : Prop :=
  ∀ (A : Around) (s : Shared) (Q : Bool → Shared → Prop) (E : Value → Shared → Prop), Inv X k H A env N ρ μ s →
    (∀ s', Step X s s' → Q b s') → wpAny X.M A (isTrue e env (eval e env)) Q E s
theorem Evs.i {e : PySem.Expr} {d : D} (h : Evs X k H env ρ e d) : EvsI X k H env N ρ μ e d := fun A s Q E I hQ => h A s Q E I.good I.sees hQ
theorem Tst.i {e : PySem.Expr} {b : Bool} (h : Tst X k H env ρ e b) : TstI X k H env N ρ μ e b := fun A s Q E I hQ => h A s Q E I.good I.sees hQ
end
end Mine
end

section
set_option linter.unusedSectionVars false
open PySem PySem.W PyProof.Rows PySem.Calls
set_option Elab.async false
set_option linter.unusedVariables false
namespace Mine

/-- the signs' numbers of a written text -/
noncomputable abbrev T (x : Str) : List Nat := x.cps.toList
theorem mk_T (x : Str) : (⟨(T x).toArray⟩ : Str) = x := rfl

section
variable {X : Cx} {k : Nat} {H : List Addr} {env : Env} {ρ : Ro}

theorem ev_int {i : Int} {j : Nat} {pos : Pos} : Evs X k H env ρ (.Constant (.int i) j pos) (.int i) :=
  fun A s Q E _ _ hQ => wpAny_Constant_int (hQ _ _ (is_int.mpr ⟨_, rfl⟩) (StepW.toks ..))
theorem ev_str {x : Str} {j : Nat} {pos : Pos} : Evs X k H env ρ (.Constant (.str x) j pos) (.str (T x)) :=
  fun A s Q E _ _ hQ => wpAny_Constant_str (hQ _ _ (is_str.mpr ⟨_, rfl⟩) (StepW.toks ..))
theorem ev_boolc {b : Bool} {j : Nat} {pos : Pos} : Evs X k H env ρ (.Constant (.bool b) j pos) (.bool b) :=
  fun A s Q E _ _ hQ => wpAny_Constant_bool (hQ _ _ (is_bool.mpr rfl) (StepW.refl ..))
theorem ev_nonec {j : Nat} {pos : Pos} : Evs X k H env ρ (.Constant .none j pos) .none :=
  fun A s Q E _ _ hQ => wpAny_Constant_none (hQ _ _ (is_none.mpr rfl) (StepW.refl ..))

theorem ev_name {x : Str} {pos : Pos} {d : D} (O : EnvOk env) (h : ρ.lookup x = some d) (hd : (x == ("__debug__" : Str)) = false := by decide) : Evs X k H env ρ (.Name x pos) d := by
  intro A s Q E _ S hQ
  obtain ⟨v, l, i⟩ := S x d h
  refine wpAny_Name ?_ hd
  rcases l with ⟨h1, m, h2, h3⟩ | ⟨h1, c, h2, h3⟩ | ⟨h1, hc, c, h2, h3⟩
  · exact wpAny_loadName_local O.kind h1 h2 h3 (hQ _ _ i (StepW.refl ..))
  · exact wpAny_loadName_cell O.kind h1 h2 h3 (hQ _ _ i (StepW.refl ..))
  · exact wpAny_loadName_free O.kind h1 h2 h3 (hQ _ _ i (StepW.refl ..)) hc

/-- a binary operation on data -/
noncomputable def Bin (X : Cx) (k : Nat) (H : List Addr) (op : Operator) (a b d : D) : Prop :=
  ∀ (A : Around) (s : Shared) (Q : Value → Shared → Prop) (E : Value → Shared → Prop) (va vb : Value), Good X k H A s → Is (vis H s.heap) a va → Is (vis H s.heap) b vb →
    (∀ v s', Is (vis H s'.heap) d v → Step X s s' → Q v s') → wpAny X.M A (binaryOp op va vb) Q E s
noncomputable def Cmp (X : Cx) (k : Nat) (H : List Addr) (op : CmpOp) (a b : D) (r : Bool) : Prop :=
  ∀ (A : Around) (s : Shared) (Q : Value → Shared → Prop) (E : Value → Shared → Prop) (va vb : Value), Good X k H A s → Is (vis H s.heap) a va → Is (vis H s.heap) b vb →
    (∀ s', Step X s s' → Q (.bool r) s') → wpAny X.M A (compareOp op va vb) Q E s
noncomputable def Tru (X : Cx) (k : Nat) (H : List Addr) (a : D) (r : Bool) : Prop :=
  ∀ (A : Around) (s : Shared) (Q : Bool → Shared → Prop) (E : Value → Shared → Prop) (va : Value), Good X k H A s → Is (vis H s.heap) a va →
    (∀ s', Step X s s' → Q r s') → wpAny X.M A (truthy va) Q E s
noncomputable def Una (X : Cx) (k : Nat) (H : List Addr) (op : UnaryOp) (a d : D) : Prop :=
  ∀ (A : Around) (s : Shared) (Q : Value → Shared → Prop) (E : Value → Shared → Prop) (va : Value), Good X k H A s → Is (vis H s.heap) a va →
    (∀ v s', Is (vis H s'.heap) d v → Step X s s' → Q v s') → wpAny X.M A (unaryOp op va) Q E s

theorem ev_bin {l r : PySem.Expr} {op : Operator} {pos : Pos} {a b d : D} (hl : Evs X k H env ρ l a) (hr : Evs X k H env ρ r b) (ho : Bin X k H op a b d) : Evs X k H env ρ (.BinOp l op r pos) d := by
  intro A s Q E G S hQ
  refine wpAny_BinOp (hl A s _ E G S fun v1 s1 i1 t1 => hr A s1 _ E (G.step t1) (S.step G t1) fun v2 s2 i2 t2 => ?_)
  exact ho A s2 Q E v1 v2 ((G.step t1).step t2) (i1.step (G.step t1) t2) i2 fun v s' i t => hQ v s' i ((t1.trans t2).trans t)
theorem ev_una {l : PySem.Expr} {op : UnaryOp} {pos : Pos} {a d : D} (hl : Evs X k H env ρ l a) (ho : Una X k H op a d) : Evs X k H env ρ (.UnaryOp op l pos) d := by
  intro A s Q E G S hQ
  rw [eval]
  refine wpAny_bind (hl A s _ E G S fun v1 s1 i1 t1 => wpAny_bind (wpAny_standAt (wpAny_holding ?_)))
  exact ho A s1 Q E v1 (G.step t1) i1 fun v s' i t => hQ v s' i (t1.trans t)

theorem ev_cmp {l r : PySem.Expr} {op : CmpOp} {pos : Pos} {a b : D} {c : Bool} (hl : Evs X k H env ρ l a) (hr : Evs X k H env ρ r b) (ho : Cmp X k H op a b c)
    (hm : behindInMarks op r = false := by with_unfolding_all rfl) : Evs X k H env ρ (.Compare l [op] [r] pos) (.bool c) := by
  intro A s Q E G S hQ
  refine wpAny_Compare1 (hl A s _ E G S fun v1 s1 i1 t1 => hr A s1 _ E (G.step t1) (S.step G t1) fun v2 s2 i2 t2 => ?_) hm
  exact ho A s2 Q E v1 v2 ((G.step t1).step t2) (i1.step (G.step t1) t2) i2 fun s' t => hQ _ s' (is_bool.mpr rfl) ((t1.trans t2).trans t)
theorem ts_cmp {l r : PySem.Expr} {op : CmpOp} {pos : Pos} {a b : D} {c : Bool} (hl : Evs X k H env ρ l a) (hr : Evs X k H env ρ r b) (ho : Cmp X k H op a b c)
    (hm : behindInMarks op r = false := by with_unfolding_all rfl) : Tst X k H env ρ (.Compare l [op] [r] pos) c := by
  intro A s Q E G S hQ
  refine wpAny_isTrue_Compare1 (hl A s _ E G S fun v1 s1 i1 t1 => hr A s1 _ E (G.step t1) (S.step G t1) fun v2 s2 i2 t2 => ?_) hm
  exact ho A s2 _ E v1 v2 ((G.step t1).step t2) (i1.step (G.step t1) t2) i2 fun s' t => wpAny_truthy_bool (hQ s' ((t1.trans t2).trans t))
/-- a chain of two: l op1 m op2 r -/
theorem ts_cmp2 {l m r : PySem.Expr} {op op2 : CmpOp} {pos : Pos} {a b d : D} {c c' : Bool} (hl : Evs X k H env ρ l a) (hm : Evs X k H env ρ m b) (hr : Evs X k H env ρ r d) (ho : Cmp X k H op a b c) (ho2 : Cmp X k H op2 b d c')
    (hk : lastMarks [op, op2] [m, r] = false := by with_unfolding_all rfl) : Tst X k H env ρ (.Compare l [op, op2] [m, r] pos) (c && c') := by
  intro A s Q E G S hQ
  refine isTrue_chain (hl A s _ E G S fun v1 s1 i1 t1 => ?_) hk
  refine test_link (hm A s1 _ E (G.step t1) (S.step G t1) fun v2 s2 i2 t2 => ?_)
  have G2 := (G.step t1).step t2
  have S2 := (S.step G t1).step (G.step t1) t2
  refine ho A s2 _ E v1 v2 G2 (i1.step (G.step t1) t2) i2 fun s3 t3 => wpAny_truthy_bool ?_
  cases c with
  | false => exact hQ _ ((t1.trans t2).trans t3)
  | true =>
    refine test_last (hr A s3 _ E (G2.step t3) (S2.step G2 t3) fun v4 s4 i4 t4 => ?_)
    refine ho2 A s4 _ E v2 v4 ((G2.step t3).step t4) ((i2.step G2 t3).step (G2.step t3) t4) i4 fun s5 t5 => ?_
    exact wpAny_truthy_bool (hQ _ ((((t1.trans t2).trans t3).trans t4).trans t5))

theorem ts_val {e : PySem.Expr} {a : D} {c : Bool} (he : Evs X k H env ρ e a) (hc : Tru X k H a c)
    (hp : isTrue e env (eval e env) = (do let v ← eval e env; standAt e.pos; holding [v] (truthy v)) := by rfl) : Tst X k H env ρ e c := by
  intro A s Q E G S hQ
  refine isTrue_plain (he A s _ E G S fun v1 s1 i1 t1 => ?_) hp
  exact hc A s1 Q E v1 (G.step t1) i1 fun s' t => hQ s' (t1.trans t)
theorem ts_not {e : PySem.Expr} {pos : Pos} {c : Bool} (he : Tst X k H env ρ e c) : Tst X k H env ρ (.UnaryOp .Not e pos) (!c) := by
  intro A s Q E G S hQ
  exact isTrue_not (he A s _ E G S fun s' t => hQ s' t)
theorem ts_and_nil {pos : Pos} : Tst X k H env ρ (.BoolOp .And [] pos) true := fun A s Q E _ _ hQ => isTrue_and_nil (hQ s (StepW.refl ..))
theorem ts_or_nil {pos : Pos} : Tst X k H env ρ (.BoolOp .Or [] pos) false := fun A s Q E _ _ hQ => isTrue_or_nil (hQ s (StepW.refl ..))
theorem ts_and {e : PySem.Expr} {r : List PySem.Expr} {pos : Pos} {c c' : Bool} (he : Tst X k H env ρ e c) (hr : c = true → Tst X k H env ρ (.BoolOp .And r pos) c') : Tst X k H env ρ (.BoolOp .And (e :: r) pos) (c && c') := by
  intro A s Q E G S hQ
  refine isTrue_and (he A s _ E G S fun s' t => ?_)
  cases c with
  | false => exact hQ s' t
  | true => exact hr rfl A s' Q E (G.step t) (S.step G t) fun s'' t' => hQ s'' (t.trans t')
theorem ts_or {e : PySem.Expr} {r : List PySem.Expr} {pos : Pos} {c c' : Bool} (he : Tst X k H env ρ e c) (hr : c = false → Tst X k H env ρ (.BoolOp .Or r pos) c') : Tst X k H env ρ (.BoolOp .Or (e :: r) pos) (c || c') := by
  intro A s Q E G S hQ
  refine isTrue_or (he A s _ E G S fun s' t => ?_)
  cases c with
  | true => exact hQ s' t
  | false => exact hr rfl A s' Q E (G.step t) (S.step G t) fun s'' t' => hQ s'' (t.trans t')
theorem ev_if {e a b : PySem.Expr} {pos : Pos} {c : Bool} {d : D} (he : Tst X k H env ρ e c) (h1 : c = true → Evs X k H env ρ a d) (h2 : c = false → Evs X k H env ρ b d) : Evs X k H env ρ (.IfExp e a b pos) d := by
  intro A s Q E G S hQ
  refine IfExp_ (he A s _ E G S fun s' t => ?_)
  cases c with
  | true => exact h1 rfl A s' Q E (G.step t) (S.step G t) fun v s'' i t' => hQ v s'' i (t.trans t')
  | false => exact h2 rfl A s' Q E (G.step t) (S.step G t) fun v s'' i t' => hQ v s'' i (t.trans t')

/-- several expressions, one behind the other -/
noncomputable def EvsAll (X : Cx) (k : Nat) (H : List Addr) (env : Env) (ρ : Ro) (es : List PySem.Expr) (ds : List D) : Prop :=
  ∀ (A : Around) (s : Shared) (pos : Pos) (Q : List Value → Shared → Prop) (E : Value → Shared → Prop), Good X k H A s → Sees H env s.heap ρ →
    (∀ vs s', IsAll (vis H s'.heap) ds vs → Step X s s' → Q vs s') → wpAny X.M A (spliced (backTo pos (starEach es env))) Q E s
theorem evs_nil : EvsAll X k H env ρ [] [] := fun A s pos Q E _ _ hQ => wpAny_items_nil (hQ _ _ (isAll_nil.mpr rfl) (StepW.refl ..))
theorem evs_cons {e : PySem.Expr} {r : List PySem.Expr} {d : D} {ds : List D} (he : Evs X k H env ρ e d) (hr : EvsAll X k H env ρ r ds)
    (hs : starEach (e :: r) env = (false, eval e env) :: starEach r env := by rfl) : EvsAll X k H env ρ (e :: r) (d :: ds) := by
  intro A s pos Q E G S hQ
  refine wpAny_items_cons (he A s _ E G S fun v1 s1 i1 t1 => hr A s1 pos _ E (G.step t1) (S.step G t1) fun vs s2 i2 t2 => ?_) hs
  exact hQ _ _ (isAll_cons.mpr ⟨v1, vs, rfl, i1.step (G.step t1) t2, i2⟩) (t1.trans t2)

theorem new_seq {s : Shared} {o : Obj} : Step X s { s with heap := s.heap.push o } := StepW.ofH (Ext.push _ _)
theorem new_list {A : Around} {s : Shared} {ds : List D} {vs : List Value} {n : Nat} (G : Good X k H A s) (i : IsAll (vis H s.heap) ds vs) :
    Is (vis H (s.heap.push { cls := .type "list", data := .seq vs.toArray n })) (.list ds) (.ref s.heap.objs.size) :=
  is_list.mpr ⟨_, vs, rfl, ⟨n, vis_iff.mpr ⟨G.fresh (Nat.le_refl _), Heap.get?_push_size _ rfl⟩⟩, i.mono (seqSub G.base (Ext.push (W := No) _ _) WOk.no)⟩
theorem new_tuple {A : Around} {s : Shared} {ds : List D} {vs : List Value} {n : Nat} (G : Good X k H A s) (i : IsAll (vis H s.heap) ds vs) :
    Is (vis H (s.heap.push { cls := .type "tuple", data := .seq vs.toArray n })) (.tuple ds) (.ref s.heap.objs.size) :=
  is_tuple.mpr ⟨_, vs, rfl, ⟨n, vis_iff.mpr ⟨G.fresh (Nat.le_refl _), Heap.get?_push_size _ rfl⟩⟩, i.mono (seqSub G.base (Ext.push (W := No) _ _) WOk.no)⟩

theorem ev_list {es : List PySem.Expr} {pos : Pos} {ds : List D} (h : EvsAll X k H env ρ es ds) (hz : ds.length ≤ sizeLine := by decide) : Evs X k H env ρ (.List es pos) (.list ds) := by
  intro A s Q E G S hQ
  refine wpAny_List (h A s pos _ E G S fun vs s1 i t => ⟨by rw [i.length]; exact hz, ?_⟩)
  exact hQ _ _ (new_list (G.step t) i) (t.trans new_seq)
theorem ev_tuple {es : List PySem.Expr} {j : Nat} {pos : Pos} {ds : List D} (h : EvsAll X k H env ρ es ds) (hz : ds.length ≤ sizeLine := by decide) : Evs X k H env ρ (.Tuple es j pos) (.tuple ds) := by
  intro A s Q E G S hQ
  refine wpAny_Tuple (h A s pos _ E G S fun vs s1 i t => ⟨by rw [i.length]; exact hz, ?_⟩)
  exact hQ _ _ (new_tuple (G.step t) i) (t.trans new_seq)
end
end Mine
end

section
set_option linter.unusedSectionVars false
open PySem PySem.W PyProof.Rows PySem.Calls
set_option Elab.async false
set_option linter.unusedVariables false
namespace Mine

/-- an object that a loop's body leaves alone -/
noncomputable def FpOk (X : Cx) (H : List Addr) (b : Addr) (h : Heap) : Prop := b ∉ X.TB ∧ b ∉ H ∧ ∃ o, h.get? b = some o ∧ (∀ es ep, o.data ≠ .dict es ep) ∧ ∀ v, o.data ≠ .cell v
structure ItAt (X : Cx) (H : List Addr) (A : Around) (ds : List D) (I : Addr) (fp : List Addr) (P : Nat → Value → Prop) (St : Nat → Heap → Prop) (s : Shared) : Prop where
  walks : Walks X.prog X.w A I fp [I] ds.length P St
  start : St 0 s.heap
  fp : ∀ b ∈ fp, FpOk X H b s.heap
  val : ∀ i v, i < ds.length → P i v → ∃ d, ds[i]? = some d ∧ ∀ F, SeqSub (vis H s.heap) F → Is F d v
  obj : ∀ i h, St i h → ∃ o, h.get? I = some o ∧ ∃ vs, o.data = .fields vs ∧ NoCode o
  low : X.n ≤ I
  hid : I ∉ H
noncomputable def IsIt (X : Cx) (H : List Addr) (A : Around) (ds : List D) (it : Value) (s : Shared) : Prop := ∃ I fp P St, it = .ref I ∧ ItAt X H A ds I fp P St s
theorem IsIt.mk' {X : Cx} {H : List Addr} {A : Around} {ds : List D} {n : Nat} {I : Addr} {fp : List Addr} {P : Nat → Value → Prop} {St : Nat → Heap → Prop} {s : Shared} (W : Walks X.prog X.w A I fp [I] n P St) (hn : n = ds.length) (h0 : St 0 s.heap)
    (hf : ∀ b ∈ fp, FpOk X H b s.heap) (hv : ∀ i v, i < ds.length → P i v → ∃ d, ds[i]? = some d ∧ ∀ F, SeqSub (vis H s.heap) F → Is F d v) (ho : ∀ i h, St i h → ∃ o, h.get? I = some o ∧ ∃ vs, o.data = .fields vs ∧ NoCode o)
    (hl : X.n ≤ I) (hh : I ∉ H) : IsIt X H A ds (.ref I) s := ⟨I, fp, P, St, rfl, hn ▸ W, h0, hf, hv, ho, hl, hh⟩
/-- an expression whose value is walked -/
noncomputable def Its (X : Cx) (k : Nat) (H : List Addr) (env : Env) (ρ : Ro) (e : PySem.Expr) (ds : List D) : Prop :=
  ∀ (A : Around) (s : Shared) (Q : Value → Shared → Prop) (E : Value → Shared → Prop), Good X k H A s → Sees H env s.heap ρ →
    (∀ I s', Step X s s' → IsIt X H A ds (.ref I) s' → s.heap.get? I = none → Q (.ref I) s') → wpAny X.M A (eval e env) (fun x s₁ => wpAny X.M A (pyIter x) Q E s₁) E s

theorem was_none {X : Cx} {k : Nat} {H : List Addr} {A : Around} {s s1 : Shared} (G : Good X k H A s1) (t : Step X s s1) {a : Addr} (h : s1.heap.get? a = none) : s.heap.get? a = none := by
  cases e : s.heap.get? a with
  | none => rfl
  | some o =>
    by_cases hT : a ∈ X.TB
    · obtain ⟨vs, e2⟩ := G.base.tabFields hT
      rw [h] at e2; cases e2
    · obtain ⟨sl, e'⟩ := (t.ext.keep a o (fun f => f) hT e).1
      rw [h] at e'; cases e'
theorem new_fp {X : Cx} {k : Nat} {H : List Addr} {A : Around} {s : Shared} {o : Obj} (G : Good X k H A s) (hf : o.isFreed = false) (h1 : ∀ es ep, o.data ≠ .dict es ep) (h2 : ∀ v, o.data ≠ .cell v) : FpOk X H s.heap.objs.size (s.heap.push o) :=
  ⟨fun q => (by obtain ⟨vs, e⟩ := G.base.tabFields q; rw [get_size_none] at e; cases e), G.fresh (Nat.le_refl _), o, Heap.get?_push_size _ hf, h1, h2⟩
theorem vis_fp {X : Cx} {k : Nat} {H : List Addr} {A : Around} {s : Shared} {a : Addr} {o : Obj} {xs n} (G : Good X k H A s) (e : vis H s.heap a = some o) (hd : o.data = .seq xs n) {o' : Obj} : FpOk X H a (s.heap.push o') :=
  let ⟨h1, h2⟩ := vis_iff.mp e
  ⟨G.base.notTab h2 (fun vs q => by rw [hd] at q; cases q), h1, o, Heap.get?_push_of_some _ h2, (fun _ _ q => by rw [hd] at q; cases q), (fun _ q => by rw [hd] at q; cases q)⟩
theorem noCode_int {o : Obj} {v : Value} {i : Int} {t : Tok} (h : o.data = .fields #[v, .int i t]) : NoCode o := fun vs e => by rw [h] at e; cases e; simp
theorem noCode_int3 {o : Obj} {v u : Value} {i : Int} {t : Tok} (h : o.data = .fields #[v, .int i t, u]) : NoCode o := fun vs e => by rw [h] at e; cases e; simp

section
variable {X : Cx} {k : Nat} {H : List Addr} {env : Env} {ρ : Ro}
theorem its_list {e : PySem.Expr} {ds : List D} (h : Evs X (k + 1) H env ρ e (.list ds)) : Its X (k + 1) H env ρ e ds := by
  intro A s Q E G S hQ
  refine h A s _ E G S fun v s1 i t => ?_
  obtain ⟨a, vs, rfl, la, ia⟩ := is_list.mp i
  have G1 := G.step t
  refine wpAny_pyIter_list la.heap (hQ _ _ (t.trans new_seq) ?_ (was_none G1 t (get_size_none _)))
  have hne : a ≠ s1.heap.objs.size := fun q => by
    obtain ⟨o, e, _⟩ := la.heap
    rw [q, get_size_none] at e; cases e
  refine IsIt.mk' (Walks.list (G.ok.handled (Nat.succ_ne_zero _)) s1.heap.objs.size a hne vs.toArray) (by simp [ia.length]) ?_ ?_ ?_ ?_ ?_ ?_
  · exact ⟨⟨_, Heap.get?_push_size _ rfl, rfl, rfl⟩, la.heap.push _⟩
  · intro b hb
    rcases List.mem_cons.mp hb with rfl | hb
    · exact new_fp G1 rfl (by intro _ _ q; cases q) (by intro _ q; cases q)
    · obtain ⟨n, e⟩ := la
      rw [List.mem_singleton.mp hb]; exact vis_fp G1 e rfl
  · intro i v _ hv
    obtain ⟨d, hd, iv⟩ := ia.get' (i := i) (v := v) (by simpa using hv)
    exact ⟨d, hd, fun h' q => (iv.mono (seqSub G1.base (Ext.push (W := No) _ _) WOk.no)).mono q⟩
  · rintro i h ⟨⟨o, e, _, hd⟩, _⟩
    exact ⟨o, e, _, hd, noCode_int hd⟩
  · exact G1.base.size
  · exact G1.fresh (Nat.le_refl _)
theorem its_tuple {e : PySem.Expr} {ds : List D} (h : Evs X (k + 1) H env ρ e (.tuple ds)) : Its X (k + 1) H env ρ e ds := by
  intro A s Q E G S hQ
  refine h A s _ E G S fun v s1 i t => ?_
  obtain ⟨a, vs, rfl, la, ia⟩ := is_tuple.mp i
  have G1 := G.step t
  refine wpAny_pyIter_tuple la.heap (hQ _ _ (t.trans new_seq) ?_ (was_none G1 t (get_size_none _)))
  have hne : a ≠ s1.heap.objs.size := fun q => by
    obtain ⟨o, e, _⟩ := la.heap
    rw [q, get_size_none] at e; cases e
  refine IsIt.mk' (Walks.tuple (G.ok.handled (Nat.succ_ne_zero _)) s1.heap.objs.size a hne vs.toArray) (by simp [ia.length]) ?_ ?_ ?_ ?_ ?_ ?_
  · exact ⟨⟨_, Heap.get?_push_size _ rfl, rfl, rfl⟩, la.heap.push _⟩
  · intro b hb
    rcases List.mem_cons.mp hb with rfl | hb
    · exact new_fp G1 rfl (by intro _ _ q; cases q) (by intro _ q; cases q)
    · obtain ⟨n, e⟩ := la
      rw [List.mem_singleton.mp hb]; exact vis_fp G1 e rfl
  · intro i v _ hv
    obtain ⟨d, hd, iv⟩ := ia.get' (i := i) (v := v) (by simpa using hv)
    exact ⟨d, hd, fun h' q => (iv.mono (seqSub G1.base (Ext.push (W := No) _ _) WOk.no)).mono q⟩
  · rintro i h ⟨⟨o, e, _, hd⟩, _⟩
    exact ⟨o, e, _, hd, noCode_int hd⟩
  · exact G1.base.size
  · exact G1.fresh (Nat.le_refl _)
/-- a text's signs -/
noncomputable def chars (l : List Nat) : List D := l.map fun c => .str [c]
theorem its_str {e : PySem.Expr} {l : List Nat} (h : Evs X (k + 1) H env ρ e (.str l)) : Its X (k + 1) H env ρ e (chars l) := by
  intro A s Q E G S hQ
  refine h A s _ E G S fun v s1 i t => ?_
  obtain ⟨tk, rfl⟩ := is_str.mp i
  have G1 := G.step t
  have fin : ∀ (ty : String) (St : Nat → Heap → Prop), Walks X.prog X.w A s1.heap.objs.size [s1.heap.objs.size] [s1.heap.objs.size] l.toArray.size (SignAt ⟨l.toArray⟩) St →
      (∀ i h, St i h ↔ h.IsStrIter s1.heap.objs.size ty ⟨l.toArray⟩ tk i) →
      Q (.ref s1.heap.objs.size) { s1 with heap := s1.heap.push { cls := .type ty, data := .fields #[.str ⟨l.toArray⟩ tk, .int 0 0] } } := by
    intro ty St W hSt
    refine hQ _ _ (t.trans new_seq) (IsIt.mk' W (by simp [chars]) ?_ ?_ ?_ ?_ ?_ ?_) (was_none G1 t (get_size_none _))
    · exact (hSt _ _).mpr ⟨_, Heap.get?_push_size _ rfl, rfl, rfl⟩
    · intro b hb
      rw [List.mem_singleton.mp hb]
      exact new_fp G1 rfl (by intro _ _ q; cases q) (by intro _ q; cases q)
    · intro i v _ hv
      obtain ⟨c, t', e1, e2⟩ := hv
      refine ⟨.str [c], ?_, fun h' _ => is_str.mpr ⟨t', e2⟩⟩
      simp only [chars, List.getElem?_map]
      rw [show l[i]? = some c by simpa using e1]; rfl
    · intro i h hs
      obtain ⟨o, e, _, hd⟩ := (hSt _ _).mp hs
      exact ⟨o, e, _, hd, noCode_int hd⟩
    · exact G1.base.size
    · exact G1.fresh (Nat.le_refl _)
  cases ha : (⟨l.toArray⟩ : Str).cps.all (· < 128)
  · exact wpAny_pyIter_wide ha (fin _ _ (Walks.strWide (G.ok.handled (Nat.succ_ne_zero _)) _ _ _) fun _ _ => Iff.rfl)
  · exact wpAny_pyIter_ascii ha (fin _ _ (Walks.strAscii (G.ok.handled (Nat.succ_ne_zero _)) _ _ _) fun _ _ => Iff.rfl)

/-- a built-in name -/
theorem bi_name {A : Around} {s : Shared} {Q : Value → Shared → Prop} {E : Value → Shared → Prop} {x : Str} {p : Pos} {v : Value} (O : EnvOk env) (G : Good X k H A s) (hk : env.kindOf x = some .globalImplicit) (hx : x ∈ frees)
    (hn : x ≠ "__name__") (hb : bootBuiltins x = some v) (hd : (x == ("__debug__" : Str)) = false) (h : Q v s) : wpAny X.M A (eval (.Name x p) env) Q E s := by
  refine Calls.Name_function_global O.kind hk (Calls.loadGlobal_builtin (by rw [O.globals]; exact G.base.g) (G.base.free _ hx) (by rw [O.builtins]; exact G.base.b) (by rw [G.base.bb x hn]; exact hb) h) hd

/-- ints from nought -/
noncomputable def nums (n : Nat) : List D := (List.range n).map fun i : Nat => D.int (i : Int)
theorem its_range {e : PySem.Expr} {p pos : Pos} {n : Nat} (O : EnvOk env) (h : Evs X (k + 1) H env ρ e (.int n)) (hk : env.kindOf "range" = some .globalImplicit) (hn : n < 2 ^ 62 := by decide)
    (hse : starEach [e] env = [(false, eval e env)] := by rfl) : Its X (k + 1) H env ρ (.Call (.Name "range" p) [e] [] pos) (nums n) := by
  intro A s Q E G S hQ
  refine wpAny_Call_NameR (bi_name O G hk (by decide) (by decide) rfl (by decide) ?_)
  rw [hse]
  refine PySem.callWith_type rfl (Calls.evalArgs_plain (Calls.spliced_cons (h A s _ E G S fun v s1 i t => Calls.spliced_nil ?_)))
  obtain ⟨tk, rfl⟩ := is_int.mp i
  refine call_range_1 ?_
  have G1 := G.step t
  have t2 : Step X s1 { s1 with heap := s1.heap.push { cls := .type "range", data := .fields #[.int 0 s1.toks, .int n tk, .int 1 (s1.toks + 1)] }, toks := s1.toks + 1 + 1 } := StepW.keeps fun _ _ e => Heap.get?_push_of_some _ e
  have G2 := G1.step t2
  refine wpAny_pyIter_range (IsRange.new ..) (small_one (by decide) (by decide) (by omega) (by omega)) (hQ _ _ ((t.trans t2).trans new_seq) ?_ (was_none G2 (t.trans t2) (get_size_none _)))
  have hsz : Builtin.Range.rangeSize 0 n 1 = (n : Int) := by rw [rangeSize_one]; split <;> omega
  refine IsIt.mk' (Walks.range (G.ok.handled (Nat.succ_ne_zero _)) _ 0 1 n) (by simp [nums]) ?_ ?_ ?_ ?_ ?_ ?_
  · rw [hsz]
    have e1 : (0 + ((0 : Nat) : Int) * 1) = 0 := by simp
    have e2 : ((n : Int) - ((0 : Nat) : Int)) = n := by simp
    rw [e1, e2]
    exact Heap.get?_push_size _ rfl
  · intro b hb
    rw [List.mem_singleton.mp hb]
    exact new_fp G2 rfl (by intro _ _ q; cases q) (by intro _ q; cases q)
  · rintro i v hi ⟨t', e⟩
    refine ⟨.int i, ?_, fun h' _ => is_int.mpr ⟨t', by rw [e]; simp⟩⟩
    simp only [nums, List.getElem?_map]
    rw [List.getElem?_range (by simpa [nums] using hi)]; rfl
  · intro i h hs
    exact ⟨_, hs, _, rfl, noCode_int3 rfl⟩
  · exact G2.base.size
  · exact G2.fresh (Nat.le_refl _)
end
end Mine
end

section
set_option linter.unusedSectionVars false
open PySem PySem.W PyProof.Rows PySem.Calls
set_option Elab.async false
set_option linter.unusedVariables false
namespace Mine
section
variable {X : Cx} {k : Nat} {H : List Addr} {A : Around} {env : Env} {ρ : Ro} {s : Shared}

theorem lookup_cons_ne {x y : Str} {d : D} {ρ : Ro} (h : x ≠ y) : ((y, d) :: ρ : Ro).lookup x = ρ.lookup x := by
  rw [List.lookup_cons, beq_eq_false_iff_ne.mpr h]
theorem lookup_cons_self {y : Str} {d : D} {ρ : Ro} : ((y, d) :: ρ : Ro).lookup y = some d := by
  rw [List.lookup_cons, beq_self_eq_true]

/-- what a look-up sees when other things turn -/
theorem Look.extW {W : Addr → Prop} {h h' : Heap} {x : Str} {v : Value} (l : Look env h x v) (B : Base X h) (E : Ext X W h h') (hl : ¬ W env.locals) (hc : ∀ c, env.cells.lookup x = some c → ¬ W c) : Look env h' x v := by
  rcases l with ⟨h1, m, h2, h3⟩ | ⟨h1, c, h2, h3⟩ | ⟨h1, hh, c, h2, h3⟩
  · exact .inl ⟨h1, m, E.ns B h2 hl, h3⟩
  · exact .inr (.inl ⟨h1, c, h2, E.cell B h3 (hc c h2)⟩)
  · exact .inr (.inr ⟨h1, hh, c, h2, E.cell B h3 (hc c h2)⟩)

noncomputable abbrev Wb (env : Env) (y : Str) : Addr → Prop := fun b => (env.kindOf y = some .local ∧ b = env.locals) ∨ (env.kindOf y = some .cell ∧ env.cells.lookup y = some b)

/-- a name is bound -/
theorem store_ok {y : Str} {d : D} {v : Value} {Q : Unit → Shared → Prop} {E : Value → Shared → Prop} (O : EnvOk env) (G : Good X k H A s) (S : Sees H env s.heap ρ) (hl : ∃ m, s.heap.Ns env.locals m) (hn : X.n ≤ env.locals)
    (hy : env.kindOf y = some .local ∨ (env.kindOf y = some .cell ∧ ∃ c, env.cells.lookup y = some c ∧ X.n ≤ c ∧ (∃ v₀, s.heap.IsCell c v₀) ∧ ∀ z d', ρ.lookup z = some d' → z ≠ y → env.cells.lookup z ≠ some c))
    (i : Is (vis H s.heap) d v)
    (hQ : ∀ s', StepW X (Wb env y) s s' → Sees H env s'.heap ((y, d) :: ρ) → (∃ m, s'.heap.Ns env.locals m) → (∀ c, (∃ v, s.heap.IsCell c v) → ∃ v, s'.heap.IsCell c v) → WOk H (Wb env y) s.heap → Q () s') :
    wpAny X.M A (storeName env y v) Q E s := by
  obtain ⟨m, hm⟩ := hl
  have hm' := hm
  obtain ⟨oL, es, ep, eL, hdL, _⟩ := hm'
  have notCell : ∀ c v, s.heap.IsCell c v → c ≠ env.locals := fun c v ⟨o, e, hd⟩ q => by rw [q, eL] at e; cases e; rw [hdL] at hd; cases hd
  rcases hy with hy | ⟨hy, c, hc, hcn, ⟨v₀, hv₀⟩, hap⟩
  · have hky : env.kindOf y ≠ some .cell := by rw [hy]; decide
    refine wpAny_storeName_local hy hm (fun h' hn' hs' => ?_) (by rw [O.kind]; rfl)
    have hn'' := hn'
    obtain ⟨oL', es', ep', eL', hdL', _⟩ := hn''
    have hW : WOk H (Wb env y) s.heap := fun a ha => by
      rcases ha with ⟨_, rfl⟩ | ⟨q, _⟩
      · exact .inr fun o e q => by rw [eL] at e; cases e; rw [hdL] at q; cases q
      · exact absurd q hky
    have t : StepW X (Wb env y) s { s with heap := h', toks := s.toks + 1 } := .of (Ext.at eL eL' (fun vs q => by rw [hdL] at q; cases q) (fun vs q => by rw [hdL'] at q; cases q) (fun _ _ _ => ⟨_, _, hdL'⟩) hn (.inl ⟨hy, rfl⟩) fun b o hb e => by rw [hs'.2 b hb]; exact e)
    refine hQ _ t (fun z d' hz => ?_) ⟨_, hn'⟩ (fun c ⟨v, hv⟩ => ⟨v, hv.sameBut hs' (notCell c v hv)⟩) hW
    by_cases hzy : z = y
    · subst hzy
      rw [lookup_cons_self] at hz; cases hz
      exact ⟨v, .inl ⟨hy, _, hn', by simp⟩, i.stepW G t hW⟩
    · rw [lookup_cons_ne hzy] at hz
      obtain ⟨u, l, iu⟩ := S z d' hz
      refine ⟨u, ?_, iu.stepW G t hW⟩
      rcases l with ⟨h1, m1, h2, h3⟩ | ⟨h1, c, h2, h3⟩ | ⟨h1, hh, c, h2, h3⟩
      · have e1 : m1 z = m z := by
          obtain ⟨o1, es1, ep1, e1, d1, _, f1⟩ := h2
          obtain ⟨o2, es2, ep2, e2, d2, _, f2⟩ := hm
          rw [e1] at e2; cases e2
          rw [d1] at d2; cases d2
          rw [← f1, f2]
        exact .inl ⟨h1, _, hn', by simp only [hzy, if_false]; rw [← e1]; exact h3⟩
      · exact .inr (.inl ⟨h1, c, h2, h3.sameBut hs' (notCell _ _ h3)⟩)
      · exact .inr (.inr ⟨h1, hh, c, h2, h3.sameBut hs' (notCell _ _ h3)⟩)
  · have hky : env.kindOf y ≠ some .local := by rw [hy]; decide
    refine wpAny_storeName_cell O.kind hy hc hv₀ (fun h' hc' hs' => ?_)
    have hcL := notCell c v₀ hv₀
    have hv₀' := hv₀
    have hc'' := hc'
    obtain ⟨oc, ec, hdc⟩ := hv₀'
    obtain ⟨oc', ec', hdc'⟩ := hc''
    have hW : WOk H (Wb env y) s.heap := fun a ha => by
      rcases ha with ⟨q, _⟩ | ⟨_, q⟩
      · exact absurd q hky
      · rw [hc] at q; cases q
        exact .inr fun o e q => by rw [ec] at e; cases e; rw [hdc] at q; cases q
    have t : StepW X (Wb env y) s { s with heap := h' } := .ofH (Ext.at ec ec' (fun vs q => by rw [hdc] at q; cases q) (fun vs q => by rw [hdc'] at q; cases q) (fun _ _ q => by rw [hdc] at q; cases q) hcn (.inr ⟨hy, hc⟩) fun b o hb e => by rw [hs'.2 b hb]; exact e)
    refine hQ _ t (fun z d' hz => ?_) ⟨m, hm.sameBut hs' hcL.symm⟩ (fun c2 ⟨v2, hv2⟩ => ?_) hW
    · by_cases hzy : z = y
      · subst hzy
        rw [lookup_cons_self] at hz; cases hz
        exact ⟨v, .inr (.inl ⟨hy, c, hc, hc'⟩), i.stepW G t hW⟩
      · rw [lookup_cons_ne hzy] at hz
        obtain ⟨u, l, iu⟩ := S z d' hz
        refine ⟨u, ?_, iu.stepW G t hW⟩
        rcases l with ⟨h1, m1, h2, h3⟩ | ⟨h1, c2, h2, h3⟩ | ⟨h1, hh, c2, h2, h3⟩
        · exact .inl ⟨h1, m1, h2.sameBut hs' hcL.symm, h3⟩
        · exact .inr (.inl ⟨h1, c2, h2, h3.sameBut hs' fun q => hap z d' hz hzy (q ▸ h2)⟩)
        · exact .inr (.inr ⟨h1, hh, c2, h2, h3.sameBut hs' fun q => hap z d' hz hzy (q ▸ h2)⟩)
    · by_cases q : c2 = c
      · subst q; exact ⟨_, hc'⟩
      · exact ⟨v2, hv2.sameBut hs' q⟩
theorem bind_ok {y : Str} {p : Pos} {d : D} {v : Value} {Q : Unit → Shared → Prop} {E : Value → Shared → Prop} (O : EnvOk env) (G : Good X k H A s) (S : Sees H env s.heap ρ) (hl : ∃ m, s.heap.Ns env.locals m) (hn : X.n ≤ env.locals)
    (hy : env.kindOf y = some .local ∨ (env.kindOf y = some .cell ∧ ∃ c, env.cells.lookup y = some c ∧ X.n ≤ c ∧ (∃ v₀, s.heap.IsCell c v₀) ∧ ∀ z d', ρ.lookup z = some d' → z ≠ y → env.cells.lookup z ≠ some c))
    (i : Is (vis H s.heap) d v)
    (hQ : ∀ s', StepW X (Wb env y) s s' → Sees H env s'.heap ((y, d) :: ρ) → (∃ m, s'.heap.Ns env.locals m) → (∀ c, (∃ v, s.heap.IsCell c v) → ∃ v, s'.heap.IsCell c v) → WOk H (Wb env y) s.heap → Q () s') :
    wpAny X.M A (assign (.Name y p) env v) Q E s := wpAny_assign_Name (store_ok O G S hl hn hy i hQ)

noncomputable def canBind (env : Env) (y : Str) : Bool := env.kindOf y == some .local || (env.kindOf y == some .cell && (env.cells.lookup y).isSome)
variable {N : Nat} {μ : Mu}
theorem Inv.bind {y : Str} {d : D} {v : Value} {Q : Unit → Shared → Prop} {E : Value → Shared → Prop} (I : Inv X k H A env N ρ μ s) (hy : canBind env y = true) (i : Is (vis H s.heap) d v)
    (hQ : ∀ s', StepW X (Wr env H N) s s' → Inv X k H A env N ((y, d) :: ρ) μ s' → Q () s') : wpAny X.M A (storeName env y v) Q E s := by
  have nl : X.n ≤ env.locals := Nat.le_trans I.fr.low I.fr.loc
  have hy' : env.kindOf y = some .local ∨ (env.kindOf y = some .cell ∧ ∃ c, env.cells.lookup y = some c) := by
    unfold canBind at hy
    rcases Bool.or_eq_true _ _ ▸ hy with h | h
    · exact .inl (by simpa using h)
    · obtain ⟨h1, h2⟩ := Bool.and_eq_true_iff.mp h
      exact .inr ⟨by simpa using h1, Option.isSome_iff_exists.mp h2⟩
  refine store_ok (ρ := ρ) (d := d) I.fr.eok I.good I.sees I.loc nl ?_ i fun s' t S' hl hc hW => ?_
  · rcases hy' with h | ⟨h, c, hc⟩
    · exact .inl h
    · exact .inr ⟨h, c, hc, Nat.le_trans I.fr.low (I.own y c h hc), I.cell y c hc, fun z d' _ hz q => hz (I.fr.apart z y c q hc)⟩
  · have t' : StepW X (Wr env H N) s s' := t.mono fun b hb => by
      rcases hb with ⟨_, rfl⟩ | ⟨hk, hb⟩
      · exact ⟨I.fr.loc, .inl rfl⟩
      · exact ⟨I.own y b hk hb, .inr (.inl ⟨y, hb⟩)⟩
    refine hQ s' t' ⟨I.fr, I.good.step t, S', hl, fun x c h => hc c (I.cell x c h), I.own, fun a ds h => ?_⟩
    obtain ⟨h1, h2, ys, h3, h4⟩ := I.lists a ds h
    have h3' := h3
    obtain ⟨n, e⟩ := h3'
    refine ⟨h1, h2, ys, plain_ext I.good.base t.ext h3 ?_, h4.stepW I.good t hW⟩
    rintro (⟨_, rfl⟩ | ⟨hk, hb⟩)
    · obtain ⟨m, o, es, ep, e', hd, _⟩ := I.loc
      rw [e] at e'; cases e'; cases hd
    · obtain ⟨v, o, e', hd⟩ := I.cell y a hb
      rw [e] at e'; cases e'; cases hd
end
end Mine
end

section
set_option linter.unusedSectionVars false
open PySem PySem.W PyProof.Rows PySem.Calls
set_option Elab.async false
set_option linter.unusedVariables false
namespace Mine

/-- a comprehension's environment -/
noncomputable abbrev compEnv (scope : Scope) (C : Addr) (cs : List (Str × Addr)) (env : Env) : Env :=
  { scope := relabel scope env, locals := C, globals := env.globals, cells := cs, qual := env.qual, func := none, code := env.code, frame := env.frame, builtins := env.builtins }

theorem closure_go (env : Env) : ∀ (names : List (Str × NameKind)) (acc : List (Str × Addr)), (∀ n, (n, NameKind.free) ∈ names → ∃ c, env.cells.lookup n = some c) →
    (∀ n c, acc.lookup n = some c → env.cells.lookup n = some c) →
    ∃ cl, (forIn names acc fun (x : Str × NameKind) cs => (do
      if x.2 == .free then pure (.yield ((x.1, ← cellOf env x.1) :: cs)) else pure (.yield cs) : Sem (ForInStep (List (Str × Addr))))) = pure cl ∧
      (∀ n c, cl.lookup n = some c → env.cells.lookup n = some c) ∧ (∀ n, ((n, NameKind.free) ∈ names ∨ (acc.lookup n).isSome) → (cl.lookup n).isSome) := by
  intro names
  induction names with
  | nil => intro acc h ha; exact ⟨acc, rfl, ha, fun n hn => by simpa using hn⟩
  | cons p r ih =>
    intro acc h ha
    obtain ⟨n, kd⟩ := p
    have hr : ∀ n, (n, NameKind.free) ∈ r → ∃ c, env.cells.lookup n = some c := fun m hm => h m (List.mem_cons_of_mem _ hm)
    by_cases hk : kd = .free
    · subst hk
      obtain ⟨c, hc⟩ := h n (List.mem_cons_self ..)
      obtain ⟨cl, e, h1, h2⟩ := ih ((n, c) :: acc) hr (fun m c' hm => by
        rw [List.lookup_cons] at hm
        cases hb : m == n with
        | true => rw [hb] at hm; cases hm; rw [beq_iff_eq.mp hb]; exact hc
        | false => rw [hb] at hm; exact ha m c' hm)
      refine ⟨cl, ?_, h1, fun m hm => h2 m ?_⟩
      · rw [List.forIn_cons]
        simp only [beq_self_eq_true, if_true, cellOf, hc]
        exact e
      · rw [List.lookup_cons]
        cases hb : m == n with
        | true => exact .inr rfl
        | false =>
          rcases hm with hm | hm
          · rcases List.mem_cons.mp hm with q | hm
            · cases q; simp at hb
            · exact .inl hm
          · exact .inr hm
    · obtain ⟨cl, e, h1, h2⟩ := ih acc hr ha
      refine ⟨cl, ?_, h1, fun m hm => h2 m ?_⟩
      · rw [List.forIn_cons]
        have : (kd == NameKind.free) = false := by simpa using hk
        simp only [this, Bool.false_eq_true, if_false]
        exact e
      · rcases hm with hm | hm
        · rcases List.mem_cons.mp hm with q | hm
          · cases q; exact absurd rfl hk
          · exact .inl hm
        · exact .inr hm
theorem closure_ok (scope : Scope) (env : Env) (h : ∀ n, (n, NameKind.free) ∈ scope.names → ∃ c, env.cells.lookup n = some c) :
    ∃ cl, closureFor scope env = pure cl ∧ (∀ n c, cl.lookup n = some c → env.cells.lookup n = some c) ∧ (∀ n, (n, NameKind.free) ∈ scope.names → cl.lookup n = env.cells.lookup n) := by
  obtain ⟨cl, e, h1, h2⟩ := closure_go env scope.names [] h (by intro n c h; cases h)
  refine ⟨cl, ?_, h1, fun n hn => ?_⟩
  · unfold closureFor
    exact (congrArg (fun t : Sem (List (Str × Addr)) => t >>= fun s => (pure s : Sem (List (Str × Addr)))) e).trans rfl
  · obtain ⟨c, hc⟩ := Option.isSome_iff_exists.mp (h2 n (.inl hn))
    rw [hc, h1 n c hc]

theorem cellsFrom_lookup : ∀ (names : List (Str × NameKind)) (n : Nat) (acc : List (Str × Addr)) (y : Str) (c : Addr), (cellsFrom n names acc).lookup y = some c → (n ≤ c ∧ (y, NameKind.cell) ∈ names) ∨ acc.lookup y = some c
  | [], n, acc, y, c, h => .inr h
  | (name, kind) :: r, n, acc, y, c, h => by
    unfold cellsFrom at h
    split at h
    · rename_i hk
      have hk' : kind = .cell := by simpa using hk
      subst hk'
      rcases cellsFrom_lookup r (n + 1) _ y c h with ⟨h1, h2⟩ | h1
      · exact .inl ⟨Nat.le_of_succ_le h1, List.mem_cons_of_mem _ h2⟩
      · rw [List.lookup_cons] at h1
        cases hb : y == name with
        | true => rw [hb] at h1; cases h1; rw [beq_iff_eq.mp hb]; exact .inl ⟨Nat.le_refl _, List.mem_cons_self ..⟩
        | false => rw [hb] at h1; exact .inr h1
    · rcases cellsFrom_lookup r n _ y c h with ⟨h1, h2⟩ | h1
      · exact .inl ⟨h1, List.mem_cons_of_mem _ h2⟩
      · exact .inr h1
theorem cellsFrom_acc : ∀ (names : List (Str × NameKind)) (n : Nat) (acc : List (Str × Addr)) (y : Str), (y, NameKind.cell) ∉ names → (cellsFrom n names acc).lookup y = acc.lookup y
  | [], n, acc, y, _ => rfl
  | (name, kind) :: r, n, acc, y, h => by
    unfold cellsFrom
    split
    · rename_i hk
      have hk' : kind = .cell := by simpa using hk
      subst hk'
      rw [cellsFrom_acc r (n + 1) _ y fun q => h (List.mem_cons_of_mem _ q), List.lookup_cons]
      have : (y == name) = false := beq_eq_false_iff_ne.mpr fun q => h (q ▸ List.mem_cons_self ..)
      rw [this]
    · exact cellsFrom_acc r n _ y fun q => h (List.mem_cons_of_mem _ q)
theorem cellsFrom_isCell : ∀ (names : List (Str × NameKind)) (h : Heap) (acc : List (Str × Addr)) (y : Str), (y, NameKind.cell) ∈ names →
    ∃ c, (cellsFrom h.objs.size names acc).lookup y = some c ∧ h.objs.size ≤ c ∧ (pushCells h names).IsCell c none
  | (name, kind) :: r, h, acc, y, hy => by
    unfold cellsFrom pushCells
    split
    · rename_i hk
      have hk' : kind = .cell := by simpa using hk
      subst hk'
      have hsz : (h.push ({ cls := .type "cell", data := .cell none } : Obj)).objs.size = h.objs.size + 1 := Heap.size_push ..
      by_cases hr : (y, NameKind.cell) ∈ r
      · obtain ⟨c, h1, h2, h3⟩ := cellsFrom_isCell r (h.push { cls := .type "cell", data := .cell none }) ((name, h.objs.size) :: acc) y hr
        rw [hsz] at h1 h2
        exact ⟨c, h1, Nat.le_of_succ_le h2, h3⟩
      · rcases List.mem_cons.mp hy with q | q
        · cases q
          refine ⟨h.objs.size, ?_, Nat.le_refl _, ?_⟩
          · rw [cellsFrom_acc r _ _ _ hr, List.lookup_cons, beq_self_eq_true]
          · exact ⟨_, pushCells_keeps _ _ _ _ (Heap.get?_push_size _ rfl), rfl⟩
        · exact absurd q hr
    · rename_i hk
      rcases List.mem_cons.mp hy with q | q
      · cases q; simp at hk
      · exact cellsFrom_isCell r h acc y q

/-- a comprehension's environment is made -/
theorem newCompEnv {M : Model} {A : Around} {E : Value → Shared → Prop} {s : Shared} {scope : Scope} {globals : Addr} {cl : List (Str × Addr)} {qual : Str} {outer : Env} {Q : Env → Shared → Prop}
    (hQ : Q { scope, locals := s.heap.objs.size, globals, cells := cellsFrom (s.heap.objs.size + 1) scope.names cl, qual, func := none, code := outer.code, frame := outer.frame, builtins := outer.builtins }
      { s with heap := pushCells (s.heap.push { cls := .type "dict", data := .dict #[] }) scope.names }) :
    wpAny M A (newFunctionEnv scope globals cl [] qual none .none (some outer)) Q E s := by
  simp only [newFunctionEnv, Option.isSome_some, if_true]
  refine wpAny_bind (wpAny_alloc ?_)
  refine wpAny_bind (wpAny_layCells _ (fun name kind cells => by cases hkc : kind == NameKind.cell <;> simp [hkc]) _ _ _ _ ?_)
  rw [show ({ s with heap := s.heap.push { cls := .type "dict", data := .dict #[] } } : Shared).heap.objs.size = s.heap.objs.size + 1 from Heap.size_push ..]
  exact wpAny_bind (wpAny_pure (wpAny_pure hQ))
end Mine
end

section
set_option linter.unusedSectionVars false
open PySem PySem.W PyProof.Rows PySem.Calls
set_option Elab.async false
set_option linter.unusedVariables false
namespace Mine

theorem FpOk.ext {X : Cx} {H : List Addr} {W : Addr → Prop} {h h' : Heap} {b : Addr} (x : FpOk X H b h) (E : Ext X W h h') (hW : ¬ W b) : FpOk X H b h' ∧ ∀ o, h.get? b = some o → h'.get? b = some o := by
  obtain ⟨h1, h2, o, e, h3, h4⟩ := x
  have e' := (E.keep b o hW h1 e).2 h3
  exact ⟨⟨h1, h2, o, e', h3, h4⟩, fun o2 e2 => by rw [e] at e2; cases e2; exact e'⟩
theorem ItAt.at {X : Cx} {H H' : List Addr} {A : Around} {ds : List D} {I : Addr} {fp : List Addr} {P : Nat → Value → Prop} {St : Nat → Heap → Prop} {s s' : Shared} (x : ItAt X H A ds I fp P St s)
    (hs : SeqSub (vis H s.heap) (vis H' s'.heap)) (hk : ∀ b ∈ fp, FpOk X H' b s'.heap ∧ ∀ o, s.heap.get? b = some o → s'.heap.get? b = some o) (hI : I ∉ H') : ItAt X H' A ds I fp P St s' where
  walks := x.walks
  start := x.walks.frame 0 _ _ x.start fun b hb o e => (hk b hb).2 o e
  fp := fun b hb => (hk b hb).1
  val := fun i v hi hv => let ⟨d, e, h⟩ := x.val i v hi hv; ⟨d, e, fun F q => h F fun a o e1 e2 => q a o (hs a o e1 e2) e2⟩
  obj := x.obj
  low := x.low
  hid := hI

structure CI (X : Cx) (k : Nat) (A : Around) (H : List Addr) (a : Addr) (cenv : Env) (rs : List D) (ρ : Ro) (s : Shared) : Prop where
  good : Good X k (a :: H) A s
  low : X.n ≤ a
  acc : ∃ ys, s.heap.PlainList a ys ∧ IsAll (vis (a :: H) s.heap) rs ys.toList
  ns : ∃ m, s.heap.Ns cenv.locals m
  sees : Sees (a :: H) cenv s.heap ρ

section
variable {X : Cx} {k : Nat} {H : List Addr} {A : Around} {a : Addr} {cenv : Env} {rs : List D} {ρ : Ro} {s s' : Shared}
theorem CI.step (C : CI X k A H a cenv rs ρ s) (t : Step X s s') : CI X k A H a cenv rs ρ s' where
  good := C.good.step t
  low := C.low
  acc := by
    obtain ⟨ys, ⟨n, e⟩, i⟩ := C.acc
    exact ⟨ys, ⟨n, (t.ext.keep _ _ (fun f => f) (C.good.base.notTab e fun vs q => by cases q) e).2 (by intro _ _ q; cases q)⟩, i.step C.good t⟩
  ns := let ⟨m, h⟩ := C.ns; ⟨m, t.ext.ns C.good.base h fun f => f⟩
  sees := C.sees.step C.good t

/-- something is laid into the list that grows -/
theorem CI.append {d : D} {v : Value} {E : Value → Shared → Prop} {K : Shared → Prop} (C : CI X k A H a cenv rs ρ s) (i : Is (vis (a :: H) s.heap) d v) (hl : rs.length ≤ sizeLine)
    (hK : ∀ s', StepW X (fun b => b = a) s s' → CI X k A H a cenv (rs ++ [d]) ρ s' → K s') : wpAny X.M A (call (.builtin "list.append") [.ref a, v]) (fun _ s' => K s') E s := by
  obtain ⟨ys, hy, iy⟩ := C.acc
  refine wpAny_list_append_plain (hsz := by have := iy.length; simp at this; omega) hy fun h' hl' hs' => ?_
  have hl2 := hl'
  obtain ⟨n, e⟩ := hy
  obtain ⟨n', e'⟩ := hl'
  have t : StepW X (fun b => b = a) s { s with heap := h' } := .ofH (Ext.at e e' (by intro _ q; cases q) (by intro _ q; cases q) (by intro _ _ q; cases q) C.low rfl fun b o hb e => by rw [hs'.2 b hb]; exact e)
  have hW : WOk (a :: H) (fun b => b = a) s.heap := fun b hb => .inl (hb ▸ List.mem_cons_self ..)
  have notA : ∀ {b o}, s.heap.get? b = some o → (∀ xs n, o.data ≠ .seq xs n) → b ≠ a := fun {b o} q hd r => by rw [r, e] at q; cases q; exact hd _ _ rfl
  refine hK _ t ⟨C.good.step t, C.low, ⟨_, hl2, ?_⟩, ?_, ?_⟩
  · rw [Array.toList_push]
    exact (iy.stepW C.good t hW).append (isAll_cons.mpr ⟨v, [], rfl, i.stepW C.good t hW, isAll_nil.mpr rfl⟩)
  · obtain ⟨m, hm⟩ := C.ns
    have hm' := hm
    obtain ⟨o, es, ep, eo, hd, _⟩ := hm'
    exact ⟨m, hm.sameBut hs' (notA eo fun xs n q => by rw [hd] at q; cases q)⟩
  · intro x d' hx
    obtain ⟨u, l, iu⟩ := C.sees x d' hx
    refine ⟨u, ?_, iu.stepW C.good t hW⟩
    have hc : ∀ c w, s.heap.IsCell c w → c ≠ a := fun c w ⟨o, eo, hd⟩ => notA eo fun xs n q => by rw [hd] at q; cases q
    rcases l with ⟨h1, m1, h2, h3⟩ | ⟨h1, c, h2, h3⟩ | ⟨h1, hh, c, h2, h3⟩
    · have hm' := h2
      obtain ⟨o, es, ep, eo, hd, _⟩ := hm'
      exact .inl ⟨h1, m1, h2.sameBut hs' (notA eo fun xs n q => by rw [hd] at q; cases q), h3⟩
    · exact .inr (.inl ⟨h1, c, h2, h3.sameBut hs' (hc _ _ h3)⟩)
    · exact .inr (.inr ⟨h1, hh, c, h2, h3.sameBut hs' (hc _ _ h3)⟩)
end

/-- what a comprehension's loop may turn -/
noncomputable abbrev Wl (cenv : Env) (x : Str) (I a : Addr) : Addr → Prop := fun b => b = I ∨ Wb cenv x b ∨ b = a ∨ b = cenv.locals

section
variable {X : Cx} {k : Nat} {H : List Addr} {A : Around} {a : Addr} {cenv : Env}

theorem comp_loop {e : PySem.Expr} {j : Nat} {x : Str} {px : Pos} {ds : List D} {g : D → List D} {I : Addr} {fp : List Addr} {P : Nat → Value → Prop} {St : Nat → Heap → Prop} {ρ₀ : Ro} {s : Shared} {rs : List D} {R : Result → Shared → Prop}
    {B : (Shared → Prop) → Shared → Prop} (O : EnvOk cenv)
    (hloop : ∀ (J : Nat → Shared → Prop), (∀ n s, J n s → wpAny X.M A (pyNext (.ref I)) (fun r s₁ => match r with
        | none => R (.ok .next) s₁
        | some v => wpAny X.M A (assign (.Name x px) cenv v) (fun _ s₂ => B (fun s₃ => ∃ m, m < n ∧ J m s₃) s₂) (notedBy X.M A cenv fun e s' => R (.error e) s') s₁) (notedBy X.M A cenv fun e s' => R (.error e) s') s) →
      ∀ n, J n s → codeAny X.M A (.compLoop e j (.ref I) (.ref a) cenv) R s)
    (It : ItAt X (a :: H) A ds I fp P St s) (C : CI X k A H a cenv rs ρ₀ s) (hn : X.n ≤ cenv.locals)
    (hx : cenv.kindOf x = some .local ∨ (cenv.kindOf x = some .cell ∧ ∃ c, cenv.cells.lookup x = some c ∧ X.n ≤ c ∧ (∃ v₀, s.heap.IsCell c v₀) ∧ ∀ z d', ρ₀.lookup z = some d' → z ≠ x → cenv.cells.lookup z ≠ some c))
    (hx0 : ρ₀.lookup x = none)
    (hB : ∀ d ∈ ds, ∀ (rs' : List D) (s' : Shared) (K : Shared → Prop), CI X k A H a cenv rs' ((x, d) :: ρ₀) s' → rs'.length + (g d).length ≤ sizeLine →
      (∀ s'', StepW X (fun b => b = a ∨ b = cenv.locals) s' s'' → CI X k A H a cenv (rs' ++ g d) ((x, d) :: ρ₀) s'' → K s'') → B K s')
    (hsz : rs.length + (ds.flatMap g).length ≤ sizeLine)
    (hR : ∀ s', StepW X (Wl cenv x I a) s s' → CI X k A H a cenv (rs ++ ds.flatMap g) ρ₀ s' → R (.ok .next) s') :
    codeAny X.M A (.compLoop e j (.ref I) (.ref a) cenv) R s := by
  have sub0 : ∀ {d : D} z d', ρ₀.lookup z = some d' → ((x, d) :: ρ₀ : Ro).lookup z = some d' := fun {d} z d' hz => by
    have : z ≠ x := fun q => by rw [q, hx0] at hz; cases hz
    rw [lookup_cons_ne this]; exact hz
  -- the loop's own facts at a turn
  let Jn : Nat → Shared → Prop := fun n s' => ∃ i, n = ds.length - i ∧ i ≤ ds.length ∧ StepW X (Wl cenv x I a) s s' ∧ St i s'.heap ∧ CI X k A H a cenv (rs ++ (ds.take i).flatMap g) ρ₀ s' ∧
    (∀ b ∈ fp, FpOk X (a :: H) b s'.heap) ∧ (∀ c, (∃ v₀, s.heap.IsCell c v₀) → ∃ v₀, s'.heap.IsCell c v₀)
  have lenOk : ∀ i d, ds[i]? = some d → (rs ++ (ds.take i).flatMap g).length + (g d).length ≤ sizeLine := by
    intro i d hd
    obtain ⟨hi, hd'⟩ := List.getElem?_eq_some_iff.mp hd
    have e1 : ds = ds.take i ++ d :: ds.drop (i + 1) := by rw [← hd', ← List.drop_eq_getElem_cons hi, List.take_append_drop]
    have e2 : (ds.flatMap g).length = ((ds.take i).flatMap g).length + (g d).length + ((ds.drop (i + 1)).flatMap g).length := by
      conv => lhs; rw [e1]
      simp only [List.flatMap_append, List.flatMap_cons, List.length_append]; omega
    simp only [List.length_append]; omega
  -- nobody of the look-out is among what a turn changes
  have wokI : ∀ (s' : Shared) i, St i s'.heap → WOk (a :: H) (fun b => b = I) s'.heap := fun s' i st b hb => by
    obtain ⟨o, e, vs, hd, hc⟩ := It.obj i _ st
    exact .inr fun o' e' q => by rw [hb, e] at e'; cases e'; exact hc.fix hd q
  have extI : ∀ (s' : Shared) i (h' : Heap) tk, St i s'.heap → (∀ b o, b ∉ [I] → s'.heap.get? b = some o → h'.get? b = some o) → StepW X (fun b => b = I) s' { s' with heap := h', toks := tk } := by
    intro s' i h' tk st hk
    obtain ⟨o, e, vs, hd, hc⟩ := It.obj i _ st
    exact .of (Ext.atF e hd hc It.low rfl fun b o hb e => hk b o (by simpa using hb) e)
  have ciI : ∀ {rs ρ} (s' : Shared) i (s'' : Shared), St i s'.heap → StepW X (fun b => b = I) s' s'' → CI X k A H a cenv rs ρ s' → CI X k A H a cenv rs ρ s'' := by
    intro rs ρ s' i s'' st t C'
    obtain ⟨o, eI, vs, hdI, _⟩ := It.obj i _ st
    have hne : ∀ {b o'}, s'.heap.get? b = some o' → (∀ vs, o'.data ≠ .fields vs) → b ≠ I := fun {b o'} q hd r => by rw [r, eI] at q; cases q; exact hd _ hdI
    obtain ⟨ys, ⟨n, ea⟩, iy⟩ := C'.acc
    refine ⟨C'.good.step t, C'.low, ⟨ys, ⟨n, (t.ext.keep _ _ (hne ea (by intro _ q; cases q)) (C'.good.base.notTab ea (by intro _ q; cases q)) ea).2 (by intro _ _ q; cases q)⟩, iy.stepW C'.good t (wokI s' i st)⟩, ?_, ?_⟩
    · obtain ⟨m, hm⟩ := C'.ns
      have hm' := hm
      obtain ⟨o1, es, ep, e1, hd, _⟩ := hm'
      exact ⟨m, t.ext.ns C'.good.base hm (hne e1 fun vs q => by rw [hd] at q; cases q)⟩
    · intro z d' hz
      obtain ⟨u, l, iu⟩ := C'.sees z d' hz
      refine ⟨u, ?_, iu.stepW C'.good t (wokI s' i st)⟩
      rcases l with ⟨h1, m1, h2, h3⟩ | ⟨h1, c, h2, h3⟩ | ⟨h1, hh, c, h2, h3⟩
      · have hm' := h2
        obtain ⟨o1, es, ep, e1, hd, _⟩ := hm'
        exact .inl ⟨h1, m1, t.ext.ns C'.good.base h2 (hne e1 fun vs q => by rw [hd] at q; cases q), h3⟩
      · have h3' := h3
        obtain ⟨o1, e1, hd⟩ := h3'
        exact .inr (.inl ⟨h1, c, h2, t.ext.cell C'.good.base h3 (hne e1 fun vs q => by rw [hd] at q; cases q)⟩)
      · have h3' := h3
        obtain ⟨o1, e1, hd⟩ := h3'
        exact .inr (.inr ⟨h1, hh, c, h2, t.ext.cell C'.good.base h3 (hne e1 fun vs q => by rw [hd] at q; cases q)⟩)
  have fpI : ∀ (s' : Shared) i j (s'' : Shared), St i s'.heap → St j s''.heap → StepW X (fun b => b = I) s' s'' → (∀ b ∈ fp, FpOk X (a :: H) b s'.heap) → ∀ b ∈ fp, FpOk X (a :: H) b s''.heap := by
    intro s' i j s'' st st' t hf b hb
    by_cases hbI : b = I
    · subst hbI
      obtain ⟨o', e', vs', hd', _⟩ := It.obj j _ st'
      obtain ⟨h1, h2, _⟩ := hf _ hb
      exact ⟨h1, h2, o', e', (fun es ep q => by rw [hd'] at q; cases q), fun v q => by rw [hd'] at q; cases q⟩
    · exact ((hf b hb).ext t.ext hbI).1
  have cellI : ∀ (s' : Shared) i (s'' : Shared), Good X k (a :: H) A s' → St i s'.heap → StepW X (fun b => b = I) s' s'' → ∀ c, (∃ v₀, s'.heap.IsCell c v₀) → ∃ v₀, s''.heap.IsCell c v₀ := by
    rintro s' i s'' G st t c ⟨v, hv⟩
    obtain ⟨o, eI, vs, hdI, _⟩ := It.obj i _ st
    have hv' := hv
    obtain ⟨o1, e1, hd⟩ := hv'
    exact ⟨v, t.ext.cell G.base hv fun r => by rw [r, eI] at e1; cases e1; rw [hdI] at hd; cases hd⟩
  refine hloop Jn ?_ (ds.length - 0) ⟨0, rfl, Nat.zero_le _, StepW.refl .., It.start, by simpa using C, It.fp, fun c h => h⟩
  rintro n s' ⟨i, rfl, hi, t, st, Ci, hf, hcl⟩
  by_cases hlt : i < ds.length
  · refine It.walks.item i s' _ _ hlt st fun v h1 tk1 hv st1 hk1 => ?_
    have t1 := extI s' i h1 tk1 st hk1
    obtain ⟨d, hd, hval⟩ := It.val i v hlt hv
    have C1 := ciI s' i _ st t1 Ci
    have f1 := fpI s' i (i + 1) _ st st1 t1 hf
    have c1 := cellI s' i _ Ci.good st t1
    have tt1 : StepW X (Wl cenv x I a) s _ := t.trans (t1.mono fun b hb => .inl hb)
    have hSeq : SeqSub (vis (a :: H) s.heap) (vis (a :: H) ({ s' with heap := h1, toks := tk1 } : Shared).heap) := by
      refine seqSub C.good.base tt1.ext fun b hb => ?_
      rcases hb with rfl | (⟨_, rfl⟩ | ⟨hk, hc⟩) | rfl | rfl
      · obtain ⟨o, e, vs, hdd, hc⟩ := It.obj 0 _ It.start
        exact .inr fun o' e' q => by rw [e] at e'; cases e'; exact hc.fix hdd q
      · obtain ⟨m, o, es, ep, e, hdd, _⟩ := C.ns
        exact .inr fun o' e' q => by rw [e] at e'; cases e'; rw [hdd] at q; cases q
      · rcases hx with hx | ⟨_, c, hc', _, ⟨v₀, o, e, hdd⟩, _⟩
        · rw [hx] at hk; cases hk
        · rw [hc] at hc'; cases hc'
          exact .inr fun o' e' q => by rw [e] at e'; cases e'; rw [hdd] at q; cases q
      · exact .inl (List.mem_cons_self ..)
      · obtain ⟨m, o, es, ep, e, hdd, _⟩ := C.ns
        exact .inr fun o' e' q => by rw [e] at e'; cases e'; rw [hdd] at q; cases q
    have iv := hval _ hSeq
    refine bind_ok (H := a :: H) (ρ := ρ₀) (d := d) O C1.good C1.sees C1.ns hn ?_ iv fun s2 t2 S2 ns2 cl2 hW2 => ?_
    · rcases hx with hx | ⟨hx, c, hc, hcn, hv0, hap⟩
      · exact .inl hx
      · exact .inr ⟨hx, c, hc, hcn, c1 c (hcl c hv0), hap⟩
    have notW : ∀ {b o'}, ({ s' with heap := h1, toks := tk1 } : Shared).heap.get? b = some o' → (∀ es ep, o'.data ≠ .dict es ep) → (∀ v, o'.data ≠ .cell v) → ¬ Wb cenv x b := by
      intro b o' e' hd1 hd2 hb
      rcases hb with ⟨_, rfl⟩ | ⟨hk, hc⟩
      · obtain ⟨m, o, es, ep, e, hdd, _⟩ := C1.ns
        rw [e] at e'; cases e'; exact hd1 _ _ hdd
      · rcases hx with hx | ⟨_, c, hc', _, hv0, _⟩
        · rw [hx] at hk; cases hk
        · rw [hc] at hc'; cases hc'
          obtain ⟨v₀, o, e, hdd⟩ := c1 _ (hcl _ hv0)
          rw [e] at e'; cases e'; exact hd2 _ hdd
    have C2 : CI X k A H a cenv (rs ++ (ds.take i).flatMap g) ((x, d) :: ρ₀) s2 := by
      obtain ⟨ys, ⟨nn, ea⟩, iy⟩ := C1.acc
      exact ⟨C1.good.step t2, C1.low, ⟨ys, ⟨nn, (t2.ext.keep _ _ (notW ea (by intro _ _ q; cases q) (by intro _ q; cases q)) (C1.good.base.notTab ea (by intro _ q; cases q)) ea).2 (by intro _ _ q; cases q)⟩, iy.stepW C1.good t2 hW2⟩, ns2, S2⟩
    have f2 : ∀ b ∈ fp, FpOk X (a :: H) b s2.heap ∧ ∀ o, ({ s' with heap := h1, toks := tk1 } : Shared).heap.get? b = some o → s2.heap.get? b = some o := fun b hb => by
      have q := f1 b hb
      obtain ⟨_, _, o, e, hd1, hd2⟩ := q
      exact (f1 b hb).ext t2.ext (notW e hd1 hd2)
    have st2 : St (i + 1) s2.heap := It.walks.frame _ _ _ st1 fun b hb o e => (f2 b hb).2 o e
    have hmem : d ∈ ds := List.mem_of_getElem? hd
    refine hB d hmem _ s2 _ C2 (lenOk i d hd) fun s3 t3 C3 => ?_
    have f3 : ∀ b ∈ fp, FpOk X (a :: H) b s3.heap ∧ ∀ o, s2.heap.get? b = some o → s3.heap.get? b = some o := fun b hb => by
      have q := (f2 b hb).1
      obtain ⟨h1, h2, o, e, hd1, hd2⟩ := q
      refine ((f2 b hb).1).ext t3.ext ?_
      rintro (rfl | rfl)
      · exact h2 (List.mem_cons_self ..)
      · obtain ⟨m, o', es, ep, e', hdd, _⟩ := ns2
        rw [e] at e'; cases e'; exact hd1 _ _ hdd
    refine ⟨ds.length - (i + 1), by omega, i + 1, rfl, hlt, ?_, It.walks.frame _ _ _ st2 fun b hb o e => (f3 b hb).2 o e, ?_, fun b hb => (f3 b hb).1, fun c hc => ?_⟩
    · exact (tt1.trans (t2.mono fun b hb => .inr (.inl hb))).trans (t3.mono fun b hb => .inr (.inr hb))
    · have e1 : rs ++ (ds.take (i + 1)).flatMap g = rs ++ (ds.take i).flatMap g ++ g d := by
        rw [List.take_add_one, hd]; simp [List.flatMap_append]
      rw [e1]
      exact ⟨C3.good, C3.low, C3.acc, C3.ns, C3.sees.sub sub0⟩
    · obtain ⟨v, hv⟩ := cl2 c (c1 c (hcl c hc))
      have hv' := hv
      obtain ⟨o, e, hdd⟩ := hv'
      refine ⟨v, t3.ext.cell C2.good.base hv ?_⟩
      rintro (rfl | rfl)
      · obtain ⟨ys, ⟨nn, ea⟩, _⟩ := C2.acc
        rw [ea] at e; cases e; cases hdd
      · obtain ⟨m, o', es, ep, e', hdd', _⟩ := ns2
        rw [e] at e'; cases e'; rw [hdd] at hdd'; cases hdd'
  · have hi' : i = ds.length := Nat.le_antisymm hi (Nat.le_of_not_lt hlt)
    subst hi'
    refine It.walks.done s' _ _ st fun h1 tk1 hk1 => ?_
    have t1 := extI s' _ h1 tk1 st hk1
    have C1 := ciI s' _ _ st t1 Ci
    rw [List.take_length] at C1
    exact hR _ (t.trans (t1.mono fun b hb => .inl hb)) C1
end
end Mine
end

section
set_option linter.unusedSectionVars false
open PySem PySem.W PyProof.Rows PySem.Calls
set_option Elab.async false
set_option linter.unusedVariables false
namespace Mine

/-- what a comprehension sees of its def -/
noncomputable def fre (scope : Scope) (ρ : Ro) : Ro := ρ.filter fun y => scope.names.lookup y.1 == some .free
theorem fre_lookup {scope : Scope} : ∀ {ρ : Ro} {n : Str} {d : D}, (fre scope ρ).lookup n = some d → ρ.lookup n = some d ∧ scope.names.lookup n = some .free
  | [], n, d, h => by cases h
  | (m, e) :: r, n, d, h => by
    unfold fre at h
    rw [List.filter_cons] at h
    by_cases hb : n = m
    · subst hb
      split at h
      · rename_i hk
        rw [List.lookup_cons, beq_self_eq_true] at h; cases h
        exact ⟨by rw [List.lookup_cons, beq_self_eq_true], by simpa using hk⟩
      · rename_i hk
        have := (fre_lookup (ρ := r) h).2
        exact absurd (by simp [this]) hk
    · have hb' : (n == m) = false := beq_eq_false_iff_ne.mpr hb
      rw [List.lookup_cons, hb']
      split at h
      · rw [List.lookup_cons, hb'] at h
        exact fre_lookup (ρ := r) h
      · exact fre_lookup (ρ := r) h

/-- looks at a comprehension's names -/
noncomputable def compOk (scope : Scope) (env : Env) (xs : List Str) : Bool :=
  scope.kind == .function && decide (scope.names.map (·.1)).Nodup && (scope.names.all fun p => p.2 != .free || env.kindOf p.1 == some .cell) && (xs.all fun x => scope.names.lookup x == some .local || scope.names.lookup x == some .cell)
noncomputable def haveAll (scope : Scope) (ρ : Ro) : Bool := scope.names.all fun p => p.2 != .free || (ρ.lookup p.1).isSome

theorem lookup_of_mem {names : List (Str × NameKind)} (hd : (names.map (·.1)).Nodup) {n : Str} {kd : NameKind} (h : (n, kd) ∈ names) : names.lookup n = some kd := by
  induction names with
  | nil => cases h
  | cons p r ih =>
    obtain ⟨m, k2⟩ := p
    rw [List.map_cons, List.nodup_cons] at hd
    rw [List.lookup_cons]
    rcases List.mem_cons.mp h with q | q
    · cases q; rw [beq_self_eq_true]
    · have : (n == m) = false := beq_eq_false_iff_ne.mpr fun e => hd.1 (by subst e; exact List.mem_map_of_mem (f := (·.1)) q)
      rw [this]; exact ih hd.2 q
theorem relabel_lookup {env : Env} {scope : Scope} (n : Str) : (relabel scope env).names.lookup n = (scope.names.lookup n).map fun kd => if (kd == NameKind.free && env.scope.kind == .function && env.kindOf n == some .cell) then .cell else kd := by
  show (scope.names.map fun (n, k) => if (k == NameKind.free && env.scope.kind == .function && env.kindOf n == some .cell) then (n, NameKind.cell) else (n, k)).lookup n = _
  induction scope.names with
  | nil => rfl
  | cons p r ih =>
    obtain ⟨m, k2⟩ := p
    rw [List.map_cons]
    by_cases hb : n = m
    · subst hb
      rw [show (List.lookup n ((n, k2) :: r)) = some k2 by rw [List.lookup_cons, beq_self_eq_true]]
      dsimp only
      by_cases hc : (k2 == NameKind.free && env.scope.kind == .function && env.kindOf n == some .cell) = true
      · rw [if_pos hc, List.lookup_cons, beq_self_eq_true]; simp only [Option.map_some, if_pos hc]
      · rw [if_neg hc, List.lookup_cons, beq_self_eq_true]; simp only [Option.map_some, if_neg hc]
    · have hb' : (n == m) = false := beq_eq_false_iff_ne.mpr hb
      rw [show (List.lookup n ((m, k2) :: r)) = List.lookup n r by rw [List.lookup_cons, hb']]
      dsimp only
      by_cases hc : (k2 == NameKind.free && env.scope.kind == .function && env.kindOf m == some .cell) = true
      · rw [if_pos hc, List.lookup_cons, hb']; exact ih
      · rw [if_neg hc, List.lookup_cons, hb']; exact ih

theorem StepW.sameBut {X : Cx} {W : Addr → Prop} {s s' : Shared} {C : Addr} {o : Obj} {h' : Heap} (t : StepW X W s s') (hC : s.heap.get? C = none) (hs : Heap.SameBut C s'.heap h') (ho : s'.heap.get? C = some o) (hc : NoCode o) (hn : X.n ≤ C) :
    StepW X W s { s' with heap := h' } := by
  obtain ⟨h1, tk, rfl, E⟩ := t
  have ne : ∀ {b o}, s.heap.get? b = some o → b ≠ C := fun e q => by rw [q, hC] at e; cases e
  refine ⟨h', tk, rfl, fun b o n T e => ?_, fun b o e f => ?_, fun B => (E.base B).change ho hn hc fun b o hb e => by rw [hs.2 b hb]; exact e⟩
  · rw [hs.2 b (ne e)]; exact E.keep b o n T e
  · rw [hs.2 b (ne e)]; exact E.live b o e f

section
variable {X : Cx} {k : Nat} {H : List Addr} {env : Env} {ρ : Ro}
noncomputable def TstIfs (X : Cx) (k : Nat) (H : List Addr) (env : Env) (ρ : Ro) (ifs : List PySem.Expr) (b : Bool) : Prop :=
  ∀ (A : Around) (s : Shared) (Q : Bool → Shared → Prop) (E : Value → Shared → Prop), Good X k H A s → Sees H env s.heap ρ →
    (∀ s', Step X s s' → Q b s') → wpAny X.M A (forIn ifs true fun c r => if r = true then do let ok ← isTrue c env (eval c env); pure (ForInStep.yield ok) else pure (ForInStep.yield r)) Q E s
theorem ifs_nil : TstIfs X k H env ρ [] true := fun A s Q E G S hQ => wpAny_tests_nil (hQ s (StepW.refl ..))
theorem ifs_one {c : PySem.Expr} {b : Bool} (h : Tst X k H env ρ c b) : TstIfs X k H env ρ [c] b := fun A s Q E G S hQ => wpAny_tests_one (h A s Q E G S hQ)

/-- the common part: from the list that is walked to the loop -/
theorem comp_startG {gens : List Comprehension} {elt iter : PySem.Expr} {ifs : List PySem.Expr} {x : Str} {px : Pos} {scope : Scope} {pos : Pos} {ds rs : List D} (O : EnvOk env) (hit : Its X k H env ρ iter ds)
    (hsc : compOk scope env [x] = true) (hfr : haveAll scope ρ = true)
    (hs : ∀ x, foldedSetIterable iter env x = pure x)
    (hmain : ∀ (A : Around) (s : Shared) (C I a : Addr) (fp : List Addr) (P : Nat → Value → Prop) (St : Nat → Heap → Prop) (cs : List (Str × Addr)) (R : Result → Shared → Prop), ItAt X (a :: H) A ds I fp P St s → CI X k A H a (compEnv scope C cs env) [] (fre scope ρ) s → X.n ≤ C →
      ((compEnv scope C cs env).kindOf x = some .local ∨ ((compEnv scope C cs env).kindOf x = some .cell ∧ ∃ c, cs.lookup x = some c ∧ X.n ≤ c ∧ (∃ v₀, s.heap.IsCell c v₀) ∧ ∀ z d', (fre scope ρ).lookup z = some d' → z ≠ x → cs.lookup z ≠ some c)) →
      (fre scope ρ).lookup x = none →
      (∀ s', StepW X (Wl (compEnv scope C cs env) x I a) s s' → CI X k A H a (compEnv scope C cs env) rs (fre scope ρ) s' → R (.ok .next) s') →
      codeAny X.M A (.compLoop (.ListComp elt (⟨.Name x px, iter, ifs, 0⟩ :: gens) scope pos) 0 (.ref I) (.ref a) (compEnv scope C cs env)) R s)
    {A : Around} {s : Shared} {Q : Value → Shared → Prop} {E : Value → Shared → Prop} {use : Option (Value → Sem Unit)} {p1 : Pos} (G : Good X k H A s) (S : Sees H env s.heap ρ)
    (hQ : ∀ a C s', Is (vis H s'.heap) (.list rs) (.ref a) → Step X s s' → s.heap.get? C = none → X.n ≤ C → (∃ m, s'.heap.Ns C m) → compPost X.M A E use Q (.ref a) C (.ok .next) s') :
    wpAny X.M A (comprehension (.ListComp elt (⟨.Name x px, iter, ifs, 0⟩ :: gens) scope pos) scope env p1 (newList []) false (eval iter env) use) Q E s := by
  unfold compOk at hsc
  simp only [Bool.and_eq_true, beq_iff_eq, decide_eq_true_eq, List.all_eq_true] at hsc
  obtain ⟨⟨⟨hkind, hnd⟩, hfree⟩, hxs⟩ := hsc
  have hxk := hxs x (List.mem_cons_self ..)
  have freeOf : ∀ n, (n, NameKind.free) ∈ scope.names → env.kindOf n = some .cell ∧ ∃ d, ρ.lookup n = some d := fun n hn => by
    have h1 := hfree _ hn
    have h2 := List.all_eq_true.mp hfr _ hn
    have hfl : (NameKind.free != NameKind.free) = false := by decide
    simp only [hfl, Bool.false_or, beq_iff_eq] at h1 h2
    exact ⟨h1, Option.isSome_iff_exists.mp h2⟩
  obtain ⟨cl, hclos, hcl1, hcl2⟩ := closure_ok scope env fun n hn => by
    obtain ⟨h1, d, h2⟩ := freeOf n hn
    obtain ⟨v, l, _⟩ := S n d h2
    rcases l with ⟨h, _⟩ | ⟨_, c, h, _⟩ | ⟨_, _, c, h, _⟩
    · rw [h1] at h; cases h
    · exact ⟨c, h⟩
    · exact ⟨c, h⟩
  refine wpAny_comprehension_free (use := use) rfl hs hclos hkind (fun y hy hl => lookup_of_mem hnd (by rw [← hl]; exact hy)) ?_
  refine hit A s _ E G S fun I s₂ t₂ hIt hI0 => ?_
  obtain ⟨I', fp, P, St, eI, It⟩ := hIt
  cases eI
  have G₂ := G.step t₂
  have S₂ := S.step G t₂
  refine wpAny_newObj_type ?_
  refine newCompEnv ?_
  -- the heap with the list, the frame's dict, the cells
  generalize hH2 : s₂.heap.push { cls := .type "list", dict := none, data := .seq ([] : List Value).toArray } = H2
  have hC : H2.objs.size = s₂.heap.objs.size + 1 := by rw [← hH2, Heap.size_push]
  have keep1 : ∀ b o, s₂.heap.get? b = some o → H2.get? b = some o := fun b o e => hH2 ▸ Heap.get?_push_of_some _ e
  have keep2 : ∀ b o, H2.get? b = some o → (pushCells (H2.push { cls := .type "dict", data := .dict #[] }) scope.names).get? b = some o := fun b o e => pushCells_keeps _ _ _ _ (Heap.get?_push_of_some _ e)
  have keep : ∀ b o, s₂.heap.get? b = some o → (pushCells (H2.push { cls := .type "dict", data := .dict #[] }) scope.names).get? b = some o := fun b o e => keep2 b o (keep1 b o e)
  have eA : H2.get? s₂.heap.objs.size = some { cls := .type "list", dict := none, data := .seq ([] : List Value).toArray } := hH2 ▸ Heap.get?_push_size _ rfl
  have eC : (pushCells (H2.push { cls := .type "dict", data := .dict #[] }) scope.names).get? H2.objs.size = some { cls := .type "dict", data := .dict #[] } := pushCells_keeps _ _ _ _ (Heap.get?_push_size _ rfl)
  dsimp only
  generalize hcs : cellsFrom (H2.objs.size + 1) scope.names cl = cs
  have hsz3 : (H2.push ({ cls := .type "dict", data := .dict #[] } : Obj)).objs.size = H2.objs.size + 1 := Heap.size_push ..
  have isC : ∀ y, (y, NameKind.cell) ∈ scope.names → ∃ c, cs.lookup y = some c ∧ H2.objs.size + 1 ≤ c ∧ (pushCells (H2.push { cls := .type "dict", data := .dict #[] }) scope.names).IsCell c none := fun y hy => by
    obtain ⟨c, h1, h2, h3⟩ := cellsFrom_isCell scope.names (H2.push { cls := .type "dict", data := .dict #[] }) cl y hy
    rw [hsz3] at h1 h2
    exact ⟨c, by rw [← hcs]; exact h1, h2, h3⟩
  have lowC : ∀ y, scope.names.lookup y = some .free → cs.lookup y = cl.lookup y := fun y hy => by
    rw [← hcs]
    exact cellsFrom_acc _ _ _ _ fun q => by rw [lookup_of_mem hnd q] at hy; cases hy
  generalize hH4 : pushCells (H2.push { cls := .type "dict", data := .dict #[] }) scope.names = H4 at *
  have ts : Step X s₂ { s₂ with heap := H4 } := .ofH (Ext.of keep)
  have sub1 : SeqSub (vis H s₂.heap) (vis (s₂.heap.objs.size :: H) H4) := fun b o e hq => by
    obtain ⟨h1, h2⟩ := vis_iff.mp e
    refine vis_iff.mpr ⟨fun q => ?_, keep b o h2⟩
    rcases List.mem_cons.mp q with rfl | q
    · rw [get_size_none] at h2; cases h2
    · exact h1 q
  have notA : ∀ {b o}, s₂.heap.get? b = some o → b ≠ s₂.heap.objs.size := fun e q => by rw [q, get_size_none] at e; cases e
  have G4 : Good X k (s₂.heap.objs.size :: H) A { s₂ with heap := H4 } := by
    refine ⟨G₂.ok, (G₂.step ts).base, fun b hb => ?_, (G₂.step ts).fr⟩
    rcases List.mem_cons.mp hb with rfl | hb
    · exact ⟨_, keep2 _ _ eA, by intro _ q; cases q⟩
    · exact (G₂.step ts).hid b hb
  have ItN : ItAt X (s₂.heap.objs.size :: H) A ds I fp P St { s₂ with heap := H4 } := by
    refine It.at sub1 (fun b hb => ?_) fun q => ?_
    · obtain ⟨h1, h2, o, e, h3, h4⟩ := It.fp b hb
      refine ⟨⟨h1, fun q => ?_, o, keep b o e, h3, h4⟩, fun o' e' => keep b o' e'⟩
      rcases List.mem_cons.mp q with q | q
      · exact notA e q
      · exact h2 q
    · rcases List.mem_cons.mp q with q | q
      · obtain ⟨o, e, _⟩ := It.obj 0 _ It.start
        exact notA e q
      · exact It.hid q
  have CI0 : CI X k A H s₂.heap.objs.size (compEnv scope H2.objs.size cs env) [] (fre scope ρ) { s₂ with heap := H4 } := by
    refine ⟨G4, G₂.base.size, ⟨#[], ⟨_, keep2 _ _ eA⟩, isAll_nil.mpr rfl⟩, ⟨fun _ => none, _, #[], _, eC, rfl, ?_, fun _ => rfl⟩, fun n d hn => ?_⟩
    · intro e he; simp at he
    · obtain ⟨h1, h2⟩ := fre_lookup hn
      have hm : (n, NameKind.free) ∈ scope.names := by
        obtain ⟨l1, l2, e⟩ : ∃ p ∈ scope.names, p = (n, NameKind.free) := ⟨_, mem_of_lookup h2, rfl⟩
        exact mem_of_lookup h2
      obtain ⟨h3, _⟩ := freeOf n hm
      obtain ⟨v, l, iv⟩ := S₂ n d h1
      refine ⟨v, .inr (.inl ⟨?_, ?_⟩), iv.mono sub1⟩
      · show (relabel scope env).names.lookup n = some .cell
        rw [relabel_lookup, h2]
        simp [h3, O.kind]
      · rcases l with ⟨h, _⟩ | ⟨_, c, h, hv⟩ | ⟨h, _⟩
        · rw [h3] at h; cases h
        · exact ⟨c, by show cs.lookup n = _; rw [lowC n h2, hcl2 n hm, h], hv.keeps keep⟩
        · rw [h3] at h; cases h
  have hxn : (fre scope ρ).lookup x = none := by
    cases q : (fre scope ρ).lookup x with
    | none => rfl
    | some d =>
      have := (fre_lookup q).2
      rw [this] at hxk; simp at hxk
  have hkx : ∀ kd, scope.names.lookup x = some kd → kd ≠ .free → (compEnv scope H2.objs.size cs env).kindOf x = some kd := fun kd h hk => by
    show (relabel scope env).names.lookup x = some kd
    rw [relabel_lookup, h]
    have : (kd == NameKind.free) = false := by simpa using hk
    simp only [this, Bool.false_and, Bool.false_eq_true, if_false, Option.map_some]
  have hCn : X.n ≤ H2.objs.size := Nat.le_trans G₂.base.size (by omega)
  have loop : codeAny X.M A (.compLoop (.ListComp elt (⟨.Name x px, iter, ifs, 0⟩ :: gens) scope pos) 0 (.ref I) (.ref s₂.heap.objs.size) (compEnv scope H2.objs.size cs env)) (compPost X.M A E use Q (.ref s₂.heap.objs.size) H2.objs.size) { s₂ with heap := H4 } := by
    refine hmain A _ _ _ _ fp P St cs _ ItN CI0 hCn ?_ hxn fun s' t' C' => ?_
    · rcases Bool.or_eq_true _ _ ▸ hxk with hx | hx
      · exact .inl (hkx _ (by simpa using hx) (by decide))
      · have hx' : scope.names.lookup x = some .cell := by simpa using hx
        obtain ⟨c, h1, h2, h3⟩ := isC x (mem_of_lookup hx')
        refine .inr ⟨hkx _ hx' (by decide), c, h1, (by have := G₂.base.size; omega), ⟨_, h3⟩, fun z d' hz hzx q => ?_⟩
        obtain ⟨h5, h6⟩ := fre_lookup hz
        have hm : (z, NameKind.free) ∈ scope.names := mem_of_lookup h6
        rw [lowC z h6, hcl2 z hm] at q
        obtain ⟨v, l, _⟩ := S₂ z d' h5
        have hlt : c < s₂.heap.objs.size := by
          rcases l with ⟨h, _⟩ | ⟨_, c', h, hv⟩ | ⟨h, _, c', h', hv⟩
          · rw [(freeOf z hm).1] at h; cases h
          · rw [q] at h; cases h
            obtain ⟨o, e, _⟩ := hv
            exact Heap.lt_size e
          · rw [q] at h'; cases h'
            obtain ⟨o, e, _⟩ := hv
            exact Heap.lt_size e
        exact Nat.lt_irrefl c (Nat.lt_of_lt_of_le hlt (Nat.le_trans (by omega : s₂.heap.objs.size ≤ H2.objs.size + 1) h2))
    · obtain ⟨m, hm⟩ := C'.ns
      obtain ⟨ys, ⟨nn, ea⟩, iy⟩ := C'.acc
      have hac : s₂.heap.objs.size ≠ H2.objs.size := by omega
      have fresh : ∀ b, s₂.heap.objs.size ≤ b → s.heap.get? b = none := fun b hb => was_none G₂ t₂ (get_none hb)
      refine hQ _ _ s' (is_list.mpr ⟨_, ys.toList, rfl, ⟨nn, vis_iff.mpr ⟨G₂.fresh (Nat.le_refl _), ea⟩⟩, iy.mono fun b o e hq => ?_⟩) ?_ (fresh _ (by omega)) hCn ⟨m, hm⟩
      · obtain ⟨h1, h2⟩ := vis_iff.mp e
        exact vis_iff.mpr ⟨fun q => h1 (List.mem_cons_of_mem _ q), h2⟩
      · have tt : StepW X (fun b => b = I ∨ s₂.heap.objs.size ≤ b) s s' := (t₂.no.trans ts.no).trans (t'.mono fun b hb => ?_)
        · refine tt.monoAt (W' := No) fun b o e hb => ?_
          rcases hb with rfl | hb
          · rw [hI0] at e; cases e
          · rw [fresh b hb] at e; cases e
        · rcases hb with rfl | (⟨_, rfl⟩ | ⟨hk, hc⟩) | rfl | rfl
          · exact .inl rfl
          · exact .inr (by show s₂.heap.objs.size ≤ H2.objs.size; omega)
          · have hx' : scope.names.lookup x = some .cell := by
              rcases Bool.or_eq_true _ _ ▸ hxk with hx | hx
              · rw [hkx _ (by simpa using hx) (by decide)] at hk; cases hk
              · simpa using hx
            obtain ⟨c, h1, h2, h3⟩ := isC x (mem_of_lookup hx')
            have hc' : cs.lookup x = some b := hc
            rw [h1] at hc'; cases hc'
            exact .inr (by omega)
          · exact .inr (Nat.le_refl _)
          · exact .inr (by show s₂.heap.objs.size ≤ H2.objs.size; omega)
  exact codeAny_compStart_list loop (ItN.walks.self 0 _ _ _ ItN.start loop)

/-- a comprehension, whatever its list is used for -/
noncomputable def CompX (X : Cx) (k : Nat) (H : List Addr) (env : Env) (ρ : Ro) (elt : PySem.Expr) (gens : List Comprehension) (scope : Scope) (pos : Pos) (rs : List D) : Prop :=
  ∀ (A : Around) (s : Shared) (Q : Value → Shared → Prop) (E : Value → Shared → Prop) (use : Option (Value → Sem Unit)) (p1 : Pos), Good X k H A s → Sees H env s.heap ρ →
    (∀ a C s', Is (vis H s'.heap) (.list rs) (.ref a) → Step X s s' → s.heap.get? C = none → X.n ≤ C → (∃ m, s'.heap.Ns C m) → compPost X.M A E use Q (.ref a) C (.ok .next) s') →
    wpAny X.M A (comprehension (.ListComp elt gens scope pos) scope env p1 (newList []) (firstAsync gens) (firstIter gens env) use) Q E s
theorem comp_start {gens : List Comprehension} {elt iter : PySem.Expr} {ifs : List PySem.Expr} {x : Str} {px : Pos} {scope : Scope} {pos : Pos} {ds rs : List D} (O : EnvOk env) (hit : Its X k H env ρ iter ds)
    (hsc : compOk scope env [x] = true) (hfr : haveAll scope ρ = true)
    (hs : ∀ x, foldedSetIterable iter env x = pure x)
    (hmain : ∀ (A : Around) (s : Shared) (C I a : Addr) (fp : List Addr) (P : Nat → Value → Prop) (St : Nat → Heap → Prop) (cs : List (Str × Addr)) (R : Result → Shared → Prop), ItAt X (a :: H) A ds I fp P St s → CI X k A H a (compEnv scope C cs env) [] (fre scope ρ) s → X.n ≤ C →
      ((compEnv scope C cs env).kindOf x = some .local ∨ ((compEnv scope C cs env).kindOf x = some .cell ∧ ∃ c, cs.lookup x = some c ∧ X.n ≤ c ∧ (∃ v₀, s.heap.IsCell c v₀) ∧ ∀ z d', (fre scope ρ).lookup z = some d' → z ≠ x → cs.lookup z ≠ some c)) →
      (fre scope ρ).lookup x = none →
      (∀ s', StepW X (Wl (compEnv scope C cs env) x I a) s s' → CI X k A H a (compEnv scope C cs env) rs (fre scope ρ) s' → R (.ok .next) s') →
      codeAny X.M A (.compLoop (.ListComp elt (⟨.Name x px, iter, ifs, 0⟩ :: gens) scope pos) 0 (.ref I) (.ref a) (compEnv scope C cs env)) R s) :
    CompX X k H env ρ elt (⟨.Name x px, iter, ifs, 0⟩ :: gens) scope pos rs :=
  fun A s Q E use p1 G S hQ => comp_startG O hit hsc hfr hs hmain G S hQ

theorem ev_cx {elt : PySem.Expr} {gens : List Comprehension} {scope : Scope} {pos : Pos} {rs : List D} (h : CompX X k H env ρ elt gens scope pos rs) : Evs X k H env ρ (.ListComp elt gens scope pos) (.list rs) := by
  intro A s Q E G S hQ
  rw [eval_ListComp]
  refine h A s _ E none _ G S fun a C s' i t hC hCn hm => ?_
  obtain ⟨m, hm⟩ := hm
  refine ⟨m, hm, fun h' hs' => ?_⟩
  obtain ⟨oC, es, ep, eC, hdC, _⟩ := hm
  refine hQ _ _ (i.mono fun b o e hq => ?_) (t.sameBut hC hs' eC (noCode_dict hdC) hCn)
  obtain ⟨h1, h2⟩ := vis_iff.mp e
  refine vis_iff.mpr ⟨h1, ?_⟩
  have : b ≠ C := fun q => by
    rw [q, eC] at h2; cases h2
    rw [hdC] at hq; cases hq
  rw [hs'.2 b this]; exact h2
end
end Mine
end

section
set_option linter.unusedSectionVars false
open PySem PySem.W PyProof.Rows PySem.Calls
set_option Elab.async false
set_option linter.unusedVariables false
namespace Mine

theorem flat_filter {p : D → Bool} {f : D → D} : ∀ ds : List D, (ds.flatMap fun d => if p d = true then [f d] else []) = (ds.filter p).map f
  | [] => rfl
  | d :: r => by
    rw [List.flatMap_cons, flat_filter r, List.filter_cons]
    cases p d <;> simp
theorem comp_env_ok {scope : Scope} {env : Env} {C : Addr} {cs : List (Str × Addr)} {xs : List Str} (O : EnvOk env) (h : compOk scope env xs = true) : EnvOk (compEnv scope C cs env) := by
  unfold compOk at h
  simp only [Bool.and_eq_true, beq_iff_eq] at h
  exact ⟨h.1.1.1, O.globals, O.builtins⟩

section
variable {X : Cx} {k : Nat} {H : List Addr} {env : Env} {ρ : Ro}

theorem cx_comp {elt iter : PySem.Expr} {ifs : List PySem.Expr} {x : Str} {px : Pos} {scope : Scope} {pos : Pos} {ds : List D} {p : D → Bool} {f : D → D} (O : EnvOk env) (hit : Its X k H env ρ iter ds)
    (htest : ∀ (C : Addr) (cs : List (Str × Addr)) (a : Addr), EnvOk (compEnv scope C cs env) → ∀ d ∈ ds, TstIfs X k (a :: H) (compEnv scope C cs env) ((x, d) :: fre scope ρ) ifs (p d))
    (helt : ∀ (C : Addr) (cs : List (Str × Addr)) (a : Addr), EnvOk (compEnv scope C cs env) → ∀ d ∈ ds, p d = true → Evs X k (a :: H) (compEnv scope C cs env) ((x, d) :: fre scope ρ) elt (f d))
    (hz : ds.length ≤ sizeLine)
    (hsc : compOk scope env [x] = true := by rfl) (hfr : haveAll scope ρ = true := by rfl) (hs : ∀ x, foldedSetIterable iter env x = pure x := by intro _; rfl) :
    CompX X k H env ρ elt [⟨.Name x px, iter, ifs, 0⟩] scope pos ((ds.filter p).map f) := by
  refine comp_start O hit hsc hfr hs fun A s C I a fp P St cs R It C0 hCn hx hx0 hR => ?_
  have O' := comp_env_ok (C := C) (cs := cs) O hsc
  have hlen : (ds.flatMap fun d => if p d = true then [f d] else []).length ≤ sizeLine := by
    rw [flat_filter, List.length_map]; exact Nat.le_trans (List.length_filter_le _ _) hz
  refine comp_loop (x := x) (px := px) (g := fun d => if p d = true then [f d] else []) (B := fun K s₂ => wpAny X.M A (forIn ifs true fun c r => if r = true then do let ok ← isTrue c (compEnv scope C cs env) (eval c (compEnv scope C cs env)); pure (ForInStep.yield ok) else pure (ForInStep.yield r)) (fun ok s₃ =>
      if ok = true then wpAny X.M A (eval elt (compEnv scope C cs env)) (fun x s₄ =>
        wpAny X.M A (call (.builtin "list.append") [.ref a, x]) (fun _ s₅ => K s₅) (notedBy X.M A (compEnv scope C cs env) fun e s' => R (.error e) s') s₄) (notedBy X.M A (compEnv scope C cs env) fun e s' => R (.error e) s') s₃
      else K s₃) (notedBy X.M A (compEnv scope C cs env) fun e s' => R (.error e) s') s₂) O' (fun J turn n hJ => codeAny_compLoop_tests J turn n hJ) It C0 hCn hx hx0 ?_ (by simpa using hlen) ?_
  · intro d hd rs' s' K C1 hl hK
    refine htest C cs a O' d hd A s' _ _ C1.good C1.sees fun s2 t2 => ?_
    have C2 := C1.step t2
    cases hp : p d with
    | false =>
      simp only [hp, Bool.false_eq_true, if_false] at hK ⊢
      exact hK s2 t2.no (by simpa using C2)
    | true =>
      simp only [hp, if_true] at hK hl ⊢
      refine helt C cs a O' d hd hp A s2 _ _ C2.good C2.sees fun v s3 i3 t3 => ?_
      refine (C2.step t3).append i3 (by simp at hl; omega) fun s4 t4 C4 => ?_
      exact hK s4 ((t2.no.trans t3.no).trans (t4.mono fun b hb => .inl hb)) C4
  · intro s' t' C'
    exact hR s' t' (by rw [flat_filter] at C'; simpa using C')

section
variable {A : Around} {E : Value → Shared → Prop} {R : Result → Shared → Prop} {s : Shared} {elt t0 t1 i0 i1 : PySem.Expr} {scope : Scope} {pos : Pos} {it acc : Value}
noncomputable abbrev two (elt t0 i0 t1 i1 : PySem.Expr) (scope : Scope) (pos : Pos) : PySem.Expr := .ListComp elt [⟨t0, i0, [], 0⟩, ⟨t1, i1, [], 0⟩] scope pos
theorem codeAny_compStart1 {env : Env}
    (h0 : codeAny X.M A (.compLoop (two elt t0 i0 t1 i1 scope pos) 1 it acc env) R s)
    (h : wpAny X.M A (pyIter it) (fun it' s' => codeAny X.M A (.compLoop (two elt t0 i0 t1 i1 scope pos) 1 it' acc env) R s')
      (notedBy X.M A env fun x s' => R (.error x) s') s) :
    codeAny X.M A (.compStart (two elt t0 i0 t1 i1 scope pos) 1 it acc env) R s := by
  refine codeAny_of_tree ?_
  show wpAny _ _ ((compStart (two elt t0 i0 t1 i1 scope pos) 1 it acc env).onRaise (fun x => do noteFrame x env; standAt theWindowsPlace)) _ _ s
  refine wpAny_notedAt ?_
  unfold compStart
  show wpAny _ _ (ask >>= _) _ _ s
  refine wpAny_bind (wpAny_askSetting (wpAny_ite ?_))
  split
  · first
      | exact wpAny_bind (wpAny_pure (wpAny_pure (And.intro rfl h0)))
      | exact wpAny_pure (And.intro rfl h0)
  · first
      | exact wpAny_bind (wpAny_rule (wpAny_bind (wpAny_standAt (wpAny_bind (wpAny_mono h (fun it' s' h' => wpAny_pure (And.intro rfl h')) fun _ _ x => x)))))
      | (refine wpAny_bind (wpAny_rule ?_); show wpAny _ _ (standAt i1.pos >>= _) _ _ s; exact wpAny_bind (wpAny_standAt (wpAny_bind (wpAny_mono h (fun it' s' h' => wpAny_pure (And.intro rfl h')) fun _ _ x => x))))
theorem compTurn_two1 (env : Env) : compTurn (two elt t0 i0 t1 i1 scope pos) 1 it acc env = (standAt i1.pos >>= fun _ => pyNext it >>= fun r => match r with
      | none => pure (.done .next)
      | some v => letOwnedTupleGo t1 it v >>= fun _ => assign t1 env v >>= fun _ =>
        (eval elt env >>= fun x => call (.builtin "list.append") [acc, x] >>= fun _ => pure ()) >>= fun _ =>
          again (.compLoop (two elt t0 i0 t1 i1 scope pos) 1 it acc env)) := by rfl
theorem compTurn_two0 (env : Env) : compTurn (two elt t0 i0 t1 i1 scope pos) 0 it acc env = (standAt i0.pos >>= fun _ => pyNext it >>= fun r => match r with
      | none => pure (.done .next)
      | some v => letOwnedTupleGo t0 it v >>= fun _ => assign t0 env v >>= fun _ =>
        (eval i1 env >>= fun x => standAt i1.pos >>= fun _ => foldedSetIterable i1 env x >>= fun x => holding [x] (pyIter x) >>= fun it1 =>
          runOwn (.compStart (two elt t0 i0 t1 i1 scope pos) 1 it1 acc env) env >>= fun _ =>
          again (.compLoop (two elt t0 i0 t1 i1 scope pos) 0 it acc env))) := by rfl
theorem codeAny_compLoop1 {env : Env} (I : Nat → Shared → Prop)
    (turn : ∀ n s, I n s → wpAny X.M A (pyNext it) (fun r s₁ => match r with
      | none => R (.ok .next) s₁
      | some v => wpAny X.M A (assign t1 env v) (fun _ s₂ => wpAny X.M A (eval elt env) (fun x s₃ =>
          wpAny X.M A (call (.builtin "list.append") [acc, x]) (fun _ s₄ => ∃ m, m < n ∧ I m s₄) (notedBy X.M A env fun e s' => R (.error e) s') s₃)
          (notedBy X.M A env fun e s' => R (.error e) s') s₂) (notedBy X.M A env fun e s' => R (.error e) s') s₁) (notedBy X.M A env fun e s' => R (.error e) s') s)
    (n : Nat) (h : I n s) (ht : ∀ v, letOwnedTupleGo t1 it v = pure () := by intro _; rfl) :
    codeAny X.M A (.compLoop (two elt t0 i0 t1 i1 scope pos) 1 it acc env) R s := by
  refine codeAny_loop rfl I (fun n s hI => ?_) n h
  show wpAny _ A ((compTurn (two elt t0 i0 t1 i1 scope pos) 1 it acc env).onRaise (fun x => do noteFrame x env; theTreesLotGoes x)) _ _ s
  refine wpAny_noted ?_
  rw [compTurn_two1]
  refine wpAny_bind (wpAny_standAt (wpAny_bind (wpAny_mono (turn n s hI) (fun r s₁ h₁ => ?_) fun _ _ h' => h')))
  cases r with
  | none => exact wpAny_pure h₁
  | some v =>
    refine wpAny_bind (wpAny_of_eq (ht v) ?_)
    refine wpAny_bind (wpAny_mono h₁ (fun _ s₂ h₂ => wpAny_bind (wpAny_bind (wpAny_mono h₂ (fun x s₃ h₃ => wpAny_bind (wpAny_mono h₃ (fun _ s₄ h₄ => wpAny_pure (wpAny_pure ⟨rfl, h₄⟩)) fun _ _ h' => h')) fun _ _ h' => h'))) fun _ _ h' => h')
theorem codeAny_compLoop0 {env : Env} (I : Nat → Shared → Prop)
    (turn : ∀ n s, I n s → wpAny X.M A (pyNext it) (fun r s₁ => match r with
      | none => R (.ok .next) s₁
      | some v => wpAny X.M A (assign t0 env v) (fun _ s₂ => wpAny X.M A (eval i1 env) (fun x s₃ =>
          wpAny X.M A (pyIter x) (fun it1 s₄ => codeAny X.M A (.compStart (two elt t0 i0 t1 i1 scope pos) 1 it1 acc env) (fun r s' => match r with | .ok f => ∃ m, m < n ∧ I m s' | .error e => cameBackBy X.M A env (notedBy X.M A env fun e s' => R (.error e) s') e s') s₄) (notedBy X.M A env fun e s' => R (.error e) s') s₃)
          (notedBy X.M A env fun e s' => R (.error e) s') s₂) (notedBy X.M A env fun e s' => R (.error e) s') s₁) (notedBy X.M A env fun e s' => R (.error e) s') s)
    (n : Nat) (h : I n s) (hs : ∀ x, foldedSetIterable i1 env x = pure x) (ht : ∀ v, letOwnedTupleGo t0 it v = pure () := by intro _; rfl) :
    codeAny X.M A (.compLoop (two elt t0 i0 t1 i1 scope pos) 0 it acc env) R s := by
  refine codeAny_loop rfl I (fun n s hI => ?_) n h
  show wpAny _ A ((compTurn (two elt t0 i0 t1 i1 scope pos) 0 it acc env).onRaise (fun x => do noteFrame x env; theTreesLotGoes x)) _ _ s
  refine wpAny_noted ?_
  rw [compTurn_two0]
  refine wpAny_bind (wpAny_standAt (wpAny_bind (wpAny_mono (turn n s hI) (fun r s₁ h₁ => ?_) fun _ _ h' => h')))
  cases r with
  | none => exact wpAny_pure h₁
  | some v =>
    refine wpAny_bind (wpAny_of_eq (ht v) ?_)
    refine wpAny_bind (wpAny_mono h₁ (fun _ s₂ h₂ => wpAny_bind (wpAny_mono h₂ (fun x s₃ h₃ => wpAny_bind (wpAny_standAt (wpAny_bind (wpAny_of_eq (hs x) (wpAny_bind (wpAny_holding (wpAny_mono h₃ (fun it1 s₄ h₄ => ?_) fun _ _ h' => h'))))))) fun _ _ h' => h')) fun _ _ h' => h')
    refine wpAny_bind (wpAny_runOwn ?_)
    rw [Around.mark_none]
    refine codeAny_mono h₄ fun r s' hr => ?_
    cases r with
    | ok f => exact wpAny_pure ⟨rfl, hr⟩
    | error e => exact hr
end

theorem cx_comp2 {elt i0 i1 : PySem.Expr} {x y : Str} {px py : Pos} {scope : Scope} {pos : Pos} {ds : List D} {es : D → List D} {f : D → D → D} (O : EnvOk env) (hit : Its X k H env ρ i0 ds)
    (hit2 : ∀ (C : Addr) (cs : List (Str × Addr)) (a : Addr), EnvOk (compEnv scope C cs env) → ∀ d ∈ ds, Its X k (a :: H) (compEnv scope C cs env) ((x, d) :: fre scope ρ) i1 (es d))
    (helt : ∀ (C : Addr) (cs : List (Str × Addr)) (a : Addr), EnvOk (compEnv scope C cs env) → ∀ d ∈ ds, ∀ e ∈ es d, Evs X k (a :: H) (compEnv scope C cs env) ((y, e) :: (x, d) :: fre scope ρ) elt (f d e))
    (hz : (ds.flatMap fun d => (es d).map (f d)).length ≤ sizeLine)
    (hy : scope.names.lookup y = some .local := by rfl) (hx' : scope.names.lookup x = some .local := by rfl) (hxy : y ≠ x := by decide)
    (hsc : compOk scope env [x] = true := by rfl) (hfr : haveAll scope ρ = true := by rfl) (hs : ∀ x, foldedSetIterable i0 env x = pure x := by intro _; rfl) (hs1 : ∀ C cs x, foldedSetIterable i1 (compEnv scope C cs env) x = pure x := by intro _ _ _; rfl) :
    CompX X k H env ρ elt [⟨.Name x px, i0, [], 0⟩, ⟨.Name y py, i1, [], 0⟩] scope pos (ds.flatMap fun d => (es d).map (f d)) := by
  refine comp_start O hit hsc hfr hs fun A s C I a fp P St cs R It C0 hCn hx hx0 hR => ?_
  have O' := comp_env_ok (C := C) (cs := cs) O hsc
  have hky : (compEnv scope C cs env).kindOf y = some .local := by
    show (relabel scope env).names.lookup y = some .local
    rw [relabel_lookup, hy]; rfl
  have hy0 : (fre scope ρ).lookup y = none := by
    cases q : (fre scope ρ).lookup y with
    | none => rfl
    | some d =>
      have := (fre_lookup q).2
      rw [hy] at this; cases this
  refine comp_loop (x := x) (px := px) (g := fun d => (es d).map (f d)) (B := fun K s₂ => wpAny X.M A (eval i1 (compEnv scope C cs env)) (fun x s₃ =>
          wpAny X.M A (pyIter x) (fun it1 s₄ => codeAny X.M A (.compStart (two elt (.Name _ px) i0 (.Name y py) i1 scope pos) 1 it1 (.ref a) (compEnv scope C cs env)) (fun r s' => match r with | .ok f => K s' | .error e => cameBackBy X.M A (compEnv scope C cs env) (notedBy X.M A (compEnv scope C cs env) fun e s' => R (.error e) s') e s') s₄) (notedBy X.M A (compEnv scope C cs env) fun e s' => R (.error e) s') s₃)
          (notedBy X.M A (compEnv scope C cs env) fun e s' => R (.error e) s') s₂) O' (fun J turn n hJ => codeAny_compLoop0 J turn n hJ (hs1 C cs)) It C0 hCn hx hx0 ?_ (by simpa using hz) hR
  intro d hd rs' s' K C1 hl hK
  refine hit2 C cs a O' d hd A s' _ _ C1.good C1.sees fun I2 s2 t2 hIt2 hI2 => ?_
  obtain ⟨I2', fp2, P2, St2, e2, It2⟩ := hIt2
  cases e2
  have C2 := C1.step t2
  have loop : codeAny X.M A (.compLoop (two elt (.Name x px) i0 (.Name y py) i1 scope pos) 1 (.ref I2) (.ref a) (compEnv scope C cs env)) (fun r s' => match r with | .ok f => K s' | .error e => cameBackBy X.M A (compEnv scope C cs env) (notedBy X.M A (compEnv scope C cs env) fun e s' => R (.error e) s') e s') s2 := by
    refine comp_loop (x := y) (px := py) (g := fun e => [f d e]) (B := fun K' s₂ => wpAny X.M A (eval elt (compEnv scope C cs env)) (fun x s₃ =>
          wpAny X.M A (call (.builtin "list.append") [.ref a, x]) (fun _ s₄ => K' s₄) _ s₃)
          _ s₂) O' (fun J turn n hJ => codeAny_compLoop1 J turn n hJ) It2 C2 hCn (.inl hky) (by rw [lookup_cons_ne hxy]; exact hy0) ?_ ?_ ?_
    · intro e he rs2 s3 K' C3 hl3 hK'
      refine helt C cs a O' d hd e he A s3 _ _ C3.good C3.sees fun v s4 i4 t4 => ?_
      refine (C3.step t4).append i4 (by simp at hl3; omega) fun s5 t5 C5 => ?_
      exact hK' s5 (t4.no.trans (t5.mono fun b hb => .inl hb)) C5
    · have : (List.flatMap (fun e => [f d e]) (es d)) = (es d).map (f d) := by induction es d with | nil => rfl | cons q r ih => simp [List.flatMap_cons, ih]
      rw [this]; exact hl
    · intro s3 t3 C3
      have : (List.flatMap (fun e => [f d e]) (es d)) = (es d).map (f d) := by induction es d with | nil => rfl | cons q r ih => simp [List.flatMap_cons, ih]
      rw [this] at C3
      refine hK s3 ?_ C3
      have tt : StepW X (fun b => b = I2 ∨ b = a ∨ b = C) s' s3 := t2.no.trans (t3.mono fun b hb => by
        rcases hb with rfl | (⟨_, rfl⟩ | ⟨hk, _⟩) | rfl | rfl
        · exact .inl rfl
        · exact .inr (.inr rfl)
        · rw [hky] at hk; cases hk
        · exact .inr (.inl rfl)
        · exact .inr (.inr rfl))
      refine tt.monoAt fun b o e hb => ?_
      rcases hb with rfl | hb
      · rw [hI2] at e; cases e
      · exact hb
  exact codeAny_compStart1 loop (It2.walks.self 0 _ _ _ It2.start loop)
end
end Mine
end

section
set_option linter.unusedSectionVars false
open PySem PySem.W PyProof.Rows PySem.Calls
set_option Elab.async false
set_option linter.unusedVariables false
namespace Mine
section
variable {X : Cx} {k : Nat} {H : List Addr} {env : Env} {N : Nat} {ρ : Ro} {μ : Mu} {rest : List Stmt} {R : Post}

theorem r_nil (h : ∀ A s, Inv X k H A env N ρ μ s → R A .next s) : Runs X k H env N ρ μ [] R := fun A s Q E I hQ => wpAny_execs_nil (hQ _ _ (StepW.refl ..) (h A s I))
/-- the look-out is narrowed -/
theorem r_sub {ρ' : Ro} {μ' : Mu} {ss : List Stmt} (h : Runs X k H env N ρ' μ' ss R) (q : ∀ x d, ρ'.lookup x = some d → ρ.lookup x = some d) (q' : ∀ x d, μ'.lookup x = some d → μ.lookup x = some d) : Runs X k H env N ρ μ ss R :=
  fun A s Q E I hQ => h A s Q E (I.sub q q') hQ
theorem r_post {R' : Post} {ss : List Stmt} (h : Runs X k H env N ρ μ ss R) (q : ∀ A f s, R A f s → R' A f s) : Runs X k H env N ρ μ ss R' := fun A s Q E I hQ => h A s Q E I fun f s' t r => hQ f s' t (q A f s' r)

theorem r_ret {e : PySem.Expr} {d : D} {pos : Pos} (he : EvsI X k H env N ρ μ e d) (h : ∀ A s v, Inv X k H A env N ρ μ s → Is (vis H s.heap) d v → R A (.ret v) s) : Runs X k H env N ρ μ (.Return (some e) pos :: rest) R :=
  fun A s Q E I hQ => wpAny_execs_cons (wpAny_Return_some (he A s _ E I fun v s' i t => hQ _ _ t.no (h A s' v (I.step t) i)))

theorem r_assign {e : PySem.Expr} {d : D} {y : Str} {p pos : Pos} (he : EvsI X k H env N ρ μ e d) (h : Runs X k H env N ((y, d) :: ρ) μ rest R)
    (hy : canBind env y = true := by rfl) (hs : swapsWith e (some (.Name y p)) pos.line env = pure false := by rfl) : Runs X k H env N ρ μ (.Assign [.Name y p] e pos :: rest) R := by
  intro A s Q E I hQ
  refine wpAny_execs_cons (wpAny_Assign_Name (he A s _ E I fun v s1 i t => ?_) hs)
  refine (I.step t).bind hy i fun s2 t2 I2 => ?_
  exact h A s2 Q E I2 fun f s3 t3 r => hQ f s3 ((t.no.trans t2).trans t3) r

/-- a comprehension laid under a name of the frame's own -/
theorem r_assignC {elt : PySem.Expr} {gens : List Comprehension} {scope : Scope} {cpos : Pos} {rs : List D} {y : Str} {p pos : Pos} (he : CompX X k H env ρ elt gens scope cpos rs) (h : Runs X k H env N ((y, .list rs) :: ρ) μ rest R)
    (hy : canBind env y = true := by rfl) (hs : swapsWith (.ListComp elt gens scope cpos) (some (.Name y p)) pos.line env = pure true := by rfl) (hk : env.kindOf y = some .local := by rfl) : Runs X k H env N ρ μ (.Assign [.Name y p] (.ListComp elt gens scope cpos) pos :: rest) R := by
  intro A s Q E I hQ
  refine wpAny_execs_cons ?_
  rw [exec_Assign_Name_used _ _ _ _ hs]
  refine wpAny_bind (wpAny_standAt (wpAny_bind ?_))
  show wpAny _ A (do let _ ← comprehension (.ListComp elt gens scope cpos) scope env _ (newList []) (firstAsync gens) (firstIter gens env) (some (assign (.Name y p) env))) _ _ s
  refine wpAny_bind (he A s _ E (some (assign (.Name y p) env)) _ I.good I.sees fun a C s1 i t hC hCn hm => ?_)
  show wpAny X.M A (assign (.Name y p) env (.ref a)) _ E s1
  refine wpAny_assign_Name ((I.step t).bind hy i fun s2 t2 I2 => ?_)
  -- the comprehension's own dict
  obtain ⟨m, hm⟩ := hm
  have hCW : ¬ Wr env H N C := fun ⟨_, q⟩ => by
    have I1 := I.step t
    rcases q with q | ⟨x, q⟩ | q
    · obtain ⟨m0, o, _, _, e, _⟩ := I.loc
      rw [← q, hC] at e; cases e
    · obtain ⟨v0, o, e, _⟩ := I.cell x C q
      rw [hC] at e; cases e
    · obtain ⟨o, e, _⟩ := I.good.hid C q
      rw [hC] at e; cases e
  have hm2 : s2.heap.Ns C m := t2.ext.ns (I.step t).good.base hm hCW
  refine ⟨m, hm2, fun h' hs' => wpAny_pure (wpAny_pure ?_)⟩
  obtain ⟨oC, es, ep, eC, hdC, _⟩ := hm2
  have t3 : StepW X (Wr env H N) s { s2 with heap := h' } := (t.no.trans t2).sameBut hC hs' eC (noCode_dict hdC) hCn
  have hk2 : ∀ b, b ≠ C → h'.get? b = s2.heap.get? b := hs'.2
  have I3 : Inv X k H A env N ((y, .list rs) :: ρ) μ { s2 with heap := h' } := by
    have B2 := I2.good.base
    have ne : ∀ {b o}, s2.heap.get? b = some o → (∀ es ep, o.data ≠ .dict es ep) → h'.get? b = some o := fun {b o} e hd => by
      rw [hk2 b fun q => ?_]; exact e
      rw [q, eC] at e; cases e; exact hd _ _ hdC
    have sq : SeqSub (vis H s2.heap) (vis H h') := fun b o e hq => by
      obtain ⟨h1, h2⟩ := vis_iff.mp e
      exact vis_iff.mpr ⟨h1, ne h2 fun es ep q => by rw [q] at hq; cases hq⟩
    have cl : ∀ {c v}, s2.heap.IsCell c v → h'.IsCell c v := fun ⟨o, e, hd⟩ => ⟨o, ne e (fun es ep q => by rw [hd] at q; cases q), hd⟩
    have hL : env.locals ≠ C := fun q => by
      obtain ⟨m0, o, _, _, e, _⟩ := I.loc
      rw [q, hC] at e; cases e
    refine ⟨I2.fr, ⟨I2.good.ok, B2.change eC hCn (noCode_dict hdC) fun b o hb e => by rw [hk2 b hb]; exact e, fun b hb => ?_, ?_⟩, fun x d hx => ?_, ?_, fun x c hx => let ⟨v, hv⟩ := I2.cell x c hx; ⟨v, cl hv⟩, I2.own, fun b ds hb => ?_⟩
    · have : b ≠ C := fun q => by
        obtain ⟨o, e, _⟩ := I.good.hid b hb
        rw [q, hC] at e; cases e
      rw [hk2 b this]; exact I2.good.hid b hb
    · obtain ⟨l, h1, h2⟩ := I2.good.fr
      obtain ⟨l', h1', h2'⟩ := I.good.fr
      refine ⟨l, h1, fun e he => ?_⟩
      obtain ⟨a1, L, o, a2, a3, a4, a5⟩ := h2 e he
      rw [h1] at h1'; cases h1'
      obtain ⟨_, L', o', b2, _, b4, _⟩ := h2' e he
      rw [a2] at b2; cases b2
      have : L ≠ C := fun q => by rw [q, hC] at b4; cases b4
      exact ⟨a1, L, o, a2, a3, by show h'.get? L = _; rw [hk2 L this]; exact a4, a5⟩
    · obtain ⟨v, l, iv⟩ := I2.sees x d hx
      refine ⟨v, ?_, iv.mono sq⟩
      rcases l with ⟨h1, m1, h2, h3⟩ | ⟨h1, c, h2, h3⟩ | ⟨h1, hh, c, h2, h3⟩
      · exact .inl ⟨h1, m1, h2.sameBut hs' hL, h3⟩
      · exact .inr (.inl ⟨h1, c, h2, cl h3⟩)
      · exact .inr (.inr ⟨h1, hh, c, h2, cl h3⟩)
    · obtain ⟨m1, h1⟩ := I2.loc
      exact ⟨m1, h1.sameBut hs' hL⟩
    · obtain ⟨a1, a2, ys, ⟨n, a3⟩, a4⟩ := I2.lists b ds hb
      exact ⟨a1, a2, ys, ⟨n, ne a3 (by intro _ _ q; cases q)⟩, a4.mono sq⟩
  exact h A _ Q E I3 fun f s4 t4 r => hQ f s4 (t3.trans t4) r

theorem bin_iadd {H' : List Addr} {a b : Int} {A : Around} {s : Shared} {Q : Value → Shared → Prop} {E : Value → Shared → Prop} {va vb : Value} {F F' : Addr → Option Obj} (ia : Is F (.int a) va) (ib : Is F' (.int b) vb)
    (hQ : ∀ v s', Is (vis H' s'.heap) (.int (a + b)) v → Step X s s' → Q v s') : wpAny X.M A (inplaceOp .Add va vb) Q E s := by
  obtain ⟨t, rfl⟩ := is_int.mp ia
  obtain ⟨u, rfl⟩ := is_int.mp ib
  exact wpAny_iadd_int (hQ _ _ (is_int.mpr ⟨_, rfl⟩) (StepW.toks ..))
/-- x += e, of ints -/
theorem r_aug {e : PySem.Expr} {a b : Int} {y : Str} {p pos : Pos} (hρ : ρ.lookup y = some (.int a)) (he : EvsI X k H env N ρ μ e (.int b)) (h : Runs X k H env N ((y, .int (a + b)) :: ρ) μ rest R)
    (hy : canBind env y = true := by rfl) : Runs X k H env N ρ μ (.AugAssign (.Name y p) .Add e pos :: rest) R := by
  intro A s Q E I hQ
  refine wpAny_execs_cons (wpAny_AugAssign_Name ?_)
  obtain ⟨v, l, i⟩ := I.sees y _ hρ
  have go : wpAny X.M A (eval e env) (fun v2 s2 => wpAny X.M A (inplaceOp .Add v v2) (fun r s3 => wpAny X.M A (storeName env y r) (fun _ s4 => wpAny X.M A (execs rest env) Q E s4) E s3) E s2) E s := by
    refine he A s _ E I fun v2 s2 i2 t2 => bin_iadd (H' := H) i i2 fun v3 s3 i3 t3 => ?_
    refine ((I.step t2).step t3).bind hy i3 fun s4 t4 I4 => ?_
    exact h A s4 Q E I4 fun f s5 t5 r => hQ f s5 (((t2.trans t3).no.trans t4).trans t5) r
  rcases l with ⟨h1, m, h2, h3⟩ | ⟨h1, c, h2, h3⟩ | ⟨h1, hc, c, h2, h3⟩
  · exact wpAny_loadName_local I.fr.eok.kind h1 h2 h3 go
  · exact wpAny_loadName_cell I.fr.eok.kind h1 h2 h3 go
  · exact wpAny_loadName_free I.fr.eok.kind h1 h2 h3 go hc

theorem execs_append_eq : ∀ (a b : List Stmt), execs (a ++ b) env = (execs a env >>= fun f => match f with | .next => execs b env | f => pure f)
  | [], b => by
    show execs b env = (pure Flow.next >>= _)
    rw [pure_bind]
  | st :: r, b => by
    rw [List.cons_append, execs_cons, execs_cons, bind_assoc]
    refine congrArg (exec st env >>= ·) (funext fun f => ?_)
    cases f <;> simp only [pure_bind]
    exact execs_append_eq r b

/-- an if, what follows laid behind each of its ways -/
theorem r_if {test : PySem.Expr} {body orelse : List Stmt} {pos : Pos} {b : Bool} (ht : TstI X k H env N ρ μ test b) (h1 : b = true → Runs X k H env N ρ μ (body ++ rest) R) (h2 : b = false → Runs X k H env N ρ μ (orelse ++ rest) R) :
    Runs X k H env N ρ μ (.If test body orelse pos :: rest) R := by
  intro A s Q E I hQ
  have e : execs (.If test body orelse pos :: rest) env = (standAt pos >>= fun _ => isTrue test env (eval test env) >>= fun c => if c = true then execs (body ++ rest) env else execs (orelse ++ rest) env) := by
    rw [execs_cons, exec_If, bind_assoc]
    refine congrArg (standAt pos >>= ·) (funext fun _ => ?_)
    rw [bind_assoc]
    refine congrArg (isTrue test env (eval test env) >>= ·) (funext fun c => ?_)
    cases c <;> simp only [if_true, Bool.false_eq_true, if_false] <;> rw [execs_append_eq] <;> refine congrArg (_ >>= ·) (funext fun f => ?_) <;> cases f <;> rfl
  rw [e]
  refine wpAny_bind (wpAny_standAt (wpAny_bind (ht A s _ E I fun s1 t => ?_)))
  cases b with
  | true => exact h1 rfl A s1 Q E (I.step t) fun f s2 t2 r => hQ f s2 (t.no.trans t2) r
  | false => exact h2 rfl A s1 Q E (I.step t) fun f s2 t2 r => hQ f s2 (t.no.trans t2) r

theorem r_assert {test : PySem.Expr} {msg : Option PySem.Expr} {pos : Pos} (ht : TstI X k H env N ρ μ test true) (h : Runs X k H env N ρ μ rest R) : Runs X k H env N ρ μ (.Assert test msg pos :: rest) R := by
  intro A s Q E I hQ
  refine wpAny_execs_cons (wpAny_Assert_holds (ht A s _ E I fun s1 t => ⟨rfl, ?_⟩))
  exact h A s1 Q E (I.step t) fun f s2 t2 r => hQ f s2 (t.no.trans t2) r
theorem r_break {pos : Pos} (h : ∀ A s, Inv X k H A env N ρ μ s → R A .brk s) : Runs X k H env N ρ μ (.Break pos :: rest) R :=
  fun A s Q E I hQ => wpAny_execs_cons (wpAny_Break (hQ _ _ (StepW.refl ..) (h A s I)))

/-- an expression for what it does -/
theorem r_expr {e : PySem.Expr} {pos : Pos} {ρ' : Ro} {μ' : Mu} (he : ∀ (A : Around) (s : Shared) (Q : Value → Shared → Prop) (E : Value → Shared → Prop), Inv X k H A env N ρ μ s →
      (∀ s', StepW X (Wr env H N) s s' → Inv X k H A env N ρ' μ' s' → Q .none s') → wpAny X.M A (eval e env) Q E s) (h : Runs X k H env N ρ' μ' rest R)
    (hi : interactive env = false := by rfl) (hs : swapsWith e none pos.line env = pure false := by rfl) : Runs X k H env N ρ μ (.Expr e pos :: rest) R := by
  intro A s Q E I hQ
  refine wpAny_execs_cons (wpAny_Expr (he A s _ E I fun s1 t I1 => ?_) hi hs)
  exact h A s1 Q E I1 fun f s2 t2 r => hQ f s2 (t.trans t2) r

/-- how a loop's turn may end -/
noncomputable def Turn (X : Cx) (k : Nat) (H : List Addr) (env : Env) (N : Nat) (ρ : Ro) (μ : Mu) (R : Post) : Post := fun A f s => ((f = .next ∨ f = .cont) ∧ Inv X k H A env N ρ μ s) ∨ (∃ v, f = .ret v ∧ R A f s)

theorem r_forP {iter : PySem.Expr} {body : List Stmt} {x : Str} {px pos : Pos} {ds : List D} (J : Nat → Ro) (Jm : Nat → Mu) (PP : Nat → Prop) (hP0 : PP 0) (hit : Its X k H env ρ iter ds)
    (h0 : ∀ z d, (J 0).lookup z = some d → ρ.lookup z = some d) (h0' : ∀ z d, (Jm 0).lookup z = some d → μ.lookup z = some d)
    (hbody : ∀ i d, ds[i]? = some d → PP i → Runs X k H env N ((x, d) :: J i) (Jm i) body fun A f s => ((f = .next ∨ f = .cont) ∧ PP (i + 1) ∧ Inv X k H A env N (J (i + 1)) (Jm (i + 1)) s) ∨ (∃ v, f = .ret v ∧ R A f s))
    (hrest : PP ds.length → Runs X k H env N (J ds.length) (Jm ds.length) rest R)
    (hx : canBind env x = true := by rfl) (hs : ∀ x, foldedSetIterable iter env x = pure x := by intro _; rfl) : Runs X k H env N ρ μ (.For (.Name x px) iter body [] pos :: rest) R := by
  intro A s Q E I hQ
  refine wpAny_execs_cons (wpAny_For (hit A s _ E I.good I.sees fun It s1 t1 hIt hI0 => ?_) hs)
  obtain ⟨I', fp, P, St, eI, W⟩ := hIt
  cases eI
  have I1 := I.step t1
  let Wf : Addr → Prop := fun b => b = It ∨ Wr env H N b
  have objI : ∀ (s' : Shared) i, St i s'.heap → ∃ o vs, s'.heap.get? It = some o ∧ o.data = .fields vs ∧ NoCode o := fun s' i st => let ⟨o, e, vs, hd, hc⟩ := W.obj i _ st; ⟨o, vs, e, hd, hc⟩
  have extI : ∀ (s' : Shared) i (h' : Heap) tk, St i s'.heap → (∀ b o, b ∉ [It] → s'.heap.get? b = some o → h'.get? b = some o) → StepW X (fun b => b = It) s' { s' with heap := h', toks := tk } := by
    intro s' i h' tk st hk
    obtain ⟨o, vs, e, hd, hc⟩ := objI s' i st
    exact .of (Ext.atF e hd hc W.low rfl fun b o hb e => hk b o (by simpa using hb) e)
  have invI : ∀ (s' s'' : Shared) i ρ' μ', St i s'.heap → StepW X (fun b => b = It) s' s'' → Inv X k H A env N ρ' μ' s' → Inv X k H A env N ρ' μ' s'' := by
    intro s' s'' i ρ' μ' st t J'
    obtain ⟨o, vs, eI, hdI, hcI⟩ := objI s' i st
    have hne : ∀ {b o'}, s'.heap.get? b = some o' → (∀ vs, o'.data ≠ .fields vs) → b ≠ It := fun {b o'} q hd r => by rw [r, eI] at q; cases q; exact hd _ hdI
    have wk : WOk H (fun b => b = It) s'.heap := fun b hb => .inr fun o' e' q => by rw [hb, eI] at e'; cases e'; exact hcI.fix hdI q
    have cl : ∀ {c v}, s'.heap.IsCell c v → s''.heap.IsCell c v := fun {c v} hv => by
      have hv' := hv
      obtain ⟨o1, e1, hd⟩ := hv'
      exact t.ext.cell J'.good.base hv (hne e1 fun vs q => by rw [hd] at q; cases q)
    have nsk : ∀ {a m}, s'.heap.Ns a m → s''.heap.Ns a m := fun {a m} hm => by
      have hm' := hm
      obtain ⟨o1, es, ep, e1, hd, _⟩ := hm'
      exact t.ext.ns J'.good.base hm (hne e1 fun vs q => by rw [hd] at q; cases q)
    refine ⟨J'.fr, J'.good.step t, fun z d hz => ?_, let ⟨m, hm⟩ := J'.loc; ⟨m, nsk hm⟩, fun x c h => let ⟨v, hv⟩ := J'.cell x c h; ⟨v, cl hv⟩, J'.own, fun a ds h => ?_⟩
    · obtain ⟨v, l, iv⟩ := J'.sees z d hz
      refine ⟨v, ?_, iv.stepW J'.good t wk⟩
      rcases l with ⟨h1, m1, h2, h3⟩ | ⟨h1, c, h2, h3⟩ | ⟨h1, hh, c, h2, h3⟩
      · exact .inl ⟨h1, m1, nsk h2, h3⟩
      · exact .inr (.inl ⟨h1, c, h2, cl h3⟩)
      · exact .inr (.inr ⟨h1, hh, c, h2, cl h3⟩)
    · obtain ⟨a1, a2, ys, a3, a4⟩ := J'.lists a ds h
      have a3' := a3
      obtain ⟨n, e⟩ := a3'
      exact ⟨a1, a2, ys, plain_ext J'.good.base t.ext a3 (hne e (by intro _ q; cases q)), a4.stepW J'.good t wk⟩
  have notW : ∀ {s' : Shared} {ρ' μ' b}, Inv X k H A env N ρ' μ' s' → FpOk X H b s'.heap → ¬ Wr env H N b := by
    rintro s' ρ' μ' b J' ⟨_, h2, o, e, h3, h4⟩ ⟨_, q⟩
    rcases q with rfl | ⟨x, q⟩ | q
    · obtain ⟨m, o', es, ep, e', hd, _⟩ := J'.loc
      rw [e] at e'; cases e'; exact h3 _ _ hd
    · obtain ⟨v, o', e', hd⟩ := J'.cell x b q
      rw [e] at e'; cases e'; exact h4 _ hd
    · exact h2 q
  have fpI : ∀ (s' s'' : Shared) i j, St i s'.heap → St j s''.heap → StepW X (fun b => b = It) s' s'' → (∀ b ∈ fp, FpOk X H b s'.heap) → ∀ b ∈ fp, FpOk X H b s''.heap := by
    intro s' s'' i j st st' t hf b hb
    by_cases hbI : b = It
    · subst hbI
      obtain ⟨o', vs', e', hd', _⟩ := objI s'' j st'
      obtain ⟨h1, h2, _⟩ := hf _ hb
      exact ⟨h1, h2, o', e', (fun es ep q => by rw [hd'] at q; cases q), fun v q => by rw [hd'] at q; cases q⟩
    · exact ((hf b hb).ext t.ext hbI).1
  let Jn : Nat → Shared → Prop := fun n s' => ∃ i, n = ds.length - i ∧ i ≤ ds.length ∧ PP i ∧ StepW X Wf s1 s' ∧ St i s'.heap ∧ Inv X k H A env N (J i) (Jm i) s' ∧ ∀ b ∈ fp, FpOk X H b s'.heap
  have back : ∀ {s'}, StepW X Wf s1 s' → StepW X (Wr env H N) s s' := fun t => (t1.no.trans t).monoAt fun b o e hb => by
    rcases hb with rfl | hb
    · rw [hI0] at e; cases e
    · exact hb
  refine codeAny_forLoop Jn ?_ (ds.length - 0) ⟨0, rfl, Nat.zero_le _, hP0, StepW.refl .., W.start, I1.sub h0 h0', W.fp⟩
  rintro n s' ⟨i, rfl, hi, hPi, t, st, Ji, hf⟩
  by_cases hlt : i < ds.length
  · refine W.walks.item i s' _ _ hlt st fun v h1 tk1 hv st1 hk1 => ?_
    have t2 := extI s' i h1 tk1 st hk1
    obtain ⟨d, hd, hval⟩ := W.val i v hlt hv
    have J2 := invI s' _ i _ _ st t2 Ji
    have f2 := fpI s' _ i (i + 1) st st1 t2 hf
    have tt2 : StepW X Wf s1 _ := t.trans (t2.mono fun b hb => .inl hb)
    have hSeq : SeqSub (vis H s1.heap) (vis H ({ s' with heap := h1, toks := tk1 } : Shared).heap) := by
      refine seqSub I1.good.base tt2.ext fun b hb => ?_
      rcases hb with rfl | hb
      · obtain ⟨o, vs, e, hdd, hc⟩ := objI s1 0 W.start
        exact .inr fun o' e' q => by rw [e] at e'; cases e'; exact hc.fix hdd q
      · exact I1.wok b hb
    refine wpAny_assign_Name (J2.bind hx (hval _ hSeq) fun s3 t3 J3 => ?_)
    have f3 : ∀ b ∈ fp, FpOk X H b s3.heap ∧ ∀ o, ({ s' with heap := h1, toks := tk1 } : Shared).heap.get? b = some o → s3.heap.get? b = some o := fun b hb => (f2 b hb).ext t3.ext (notW J2 (f2 b hb))
    have st3 : St (i + 1) s3.heap := W.walks.frame _ _ _ st1 fun b hb o e => (f3 b hb).2 o e
    refine hbody i d hd hPi A s3 _ _ J3 fun f s4 t4 hr => ?_
    rcases hr with ⟨hfl, hP4, J4⟩ | ⟨v, rfl, hr⟩
    · have f4 : ∀ b ∈ fp, FpOk X H b s4.heap ∧ ∀ o, s3.heap.get? b = some o → s4.heap.get? b = some o := fun b hb => ((f3 b hb).1).ext t4.ext (notW J3 (f3 b hb).1)
      have fin : ∃ m, m < ds.length - i ∧ Jn m s4 := ⟨ds.length - (i + 1), by omega, i + 1, rfl, hlt, hP4, (tt2.trans (t3.mono fun b hb => .inr hb)).trans (t4.mono fun b hb => .inr hb), W.walks.frame _ _ _ st3 fun b hb o e => (f4 b hb).2 o e, J4, fun b hb => (f4 b hb).1⟩
      rcases hfl with rfl | rfl <;> exact fin
    · exact hQ _ _ (back ((tt2.trans (t3.mono fun b hb => .inr hb)).trans (t4.mono fun b hb => .inr hb))) hr
  · have hi' : i = ds.length := Nat.le_antisymm hi (Nat.le_of_not_lt hlt)
    subst hi'
    refine W.walks.done s' _ _ st fun h1 tk1 hk1 => ?_
    have t2 := extI s' _ h1 tk1 st hk1
    have J2 := invI s' _ _ _ _ st t2 Ji
    refine wpAny_execs_nil ?_
    exact hrest hPi A _ Q E J2 fun f s3 t3 r => hQ f s3 ((back (t.trans (t2.mono fun b hb => .inl hb))).trans t3) r

theorem r_for {iter : PySem.Expr} {body : List Stmt} {x : Str} {px pos : Pos} {ds : List D} (J : Nat → Ro) (Jm : Nat → Mu) (hit : Its X k H env ρ iter ds)
    (h0 : ∀ z d, (J 0).lookup z = some d → ρ.lookup z = some d) (h0' : ∀ z d, (Jm 0).lookup z = some d → μ.lookup z = some d)
    (hbody : ∀ i d, ds[i]? = some d → Runs X k H env N ((x, d) :: J i) (Jm i) body (Turn X k H env N (J (i + 1)) (Jm (i + 1)) R))
    (hrest : Runs X k H env N (J ds.length) (Jm ds.length) rest R)
    (hx : canBind env x = true := by rfl) (hs : ∀ x, foldedSetIterable iter env x = pure x := by intro _; rfl) : Runs X k H env N ρ μ (.For (.Name x px) iter body [] pos :: rest) R :=
  r_forP J Jm (fun _ => True) trivial hit h0 h0' (fun i d hd _ => r_post (hbody i d hd) fun A f s h => h.imp (fun h => ⟨h.1, trivial, h.2⟩) id) (fun _ => hrest) hx hs

/-- a while by a state of one's own and a measure -/
theorem r_while {σ : Type} {test : PySem.Expr} {body : List Stmt} {pos : Pos} (J : σ → Ro) (Jm : σ → Mu) (Ok : σ → Prop) (ms : σ → Nat) (x₀ : σ) (hok : Ok x₀)
    (h0 : ∀ z d, (J x₀).lookup z = some d → ρ.lookup z = some d) (h0' : ∀ z d, (Jm x₀).lookup z = some d → μ.lookup z = some d)
    (step : ∀ x, Ok x → ∃ b, TstI X k H env N (J x) (Jm x) test b ∧
      (b = true → Runs X k H env N (J x) (Jm x) body fun A f s => ((f = .next ∨ f = .cont) ∧ ∃ y, Ok y ∧ ms y < ms x ∧ Inv X k H A env N (J y) (Jm y) s) ∨ (f = .brk ∧ ∃ ρ' μ', Inv X k H A env N ρ' μ' s ∧ Runs X k H env N ρ' μ' rest R) ∨ (∃ v, f = .ret v ∧ R A f s)) ∧
      (b = false → Runs X k H env N (J x) (Jm x) rest R)) :
    Runs X k H env N ρ μ (.While test body [] pos :: rest) R := by
  intro A s Q E I hQ
  refine wpAny_execs_cons (wpAny_While ?_)
  refine codeAny_whileLoop (fun n s' => ∃ x, n = ms x ∧ Ok x ∧ StepW X (Wr env H N) s s' ∧ Inv X k H A env N (J x) (Jm x) s') ?_ (ms x₀) ⟨x₀, rfl, hok, StepW.refl .., I.sub h0 h0'⟩
  rintro n s' ⟨x, rfl, hx, t, Ix⟩
  obtain ⟨b, ht, h1, h2⟩ := step x hx
  refine ht A s' _ _ Ix fun s2 t2 => ?_
  have I2 := Ix.step t2
  cases b with
  | true =>
    simp only [if_true]
    refine h1 rfl A s2 _ _ I2 fun f s3 t3 hr => ?_
    have tt := (t.trans t2.no).trans t3
    rcases hr with ⟨hf, y, oky, hm, Iy⟩ | ⟨rfl, ρ', μ', I3, hrest⟩ | ⟨v, rfl, hr⟩
    · rcases hf with rfl | rfl <;> exact ⟨ms y, hm, y, rfl, oky, tt, Iy⟩
    · exact hrest A s3 Q E I3 fun f s4 t4 r => hQ f s4 (tt.trans t4) r
    · exact hQ _ _ tt hr
  | false =>
    simp only [Bool.false_eq_true, if_false]
    refine wpAny_execs_nil ?_
    exact h2 rfl A s2 Q E I2 fun f s3 t3 r => hQ f s3 ((t.trans t2.no).trans t3) r
end
end Mine
end

section
set_option linter.unusedSectionVars false
open PySem PySem.W PyProof.Rows PySem.Calls
set_option Elab.async false
set_option linter.unusedVariables false
namespace Mine

/-- a def of the text's top, as the written part of the heap holds it -/
structure FnK (X : Cx) (fa : Addr) (fd : FuncData) (ps : List Str) (sc : Scope) (body : List Stmt) : Prop where
  obj : ∃ o, X.K.lookup fa = some o ∧ o.data = .func fd
  code : ∀ h : Heap, X.K.In h → h.CodeRec fd.code fd.qualname
  bind : ∀ vs : List Value, vs.length = ps.length → bindArgs fd ⟨vs, []⟩ = pure (ps.zip vs)
  body : fd.body = .stmts body
  scope : fd.scope = sc
  globals : fd.globals = mainGlobals
  builtins : fd.builtins = builtinsNs
  closure : fd.closure = []
/-- a def of the text's top, by its name -/
structure DefAt (X : Cx) (f : Str) (fa : Addr) (fd : FuncData) (ps : List Str) (sc : Scope) (body : List Stmt) : Prop extends FnK X fa fd ps sc body where
  glob : X.mg f = some (.ref fa)

/-- the frame of a def's call -/
noncomputable abbrev fenv (sc : Scope) (L : Addr) (q : Str) (fa : Addr) (cd : Value) : Env :=
  { scope := sc, locals := L, globals := mainGlobals, cells := cellsFrom (L + 1) sc.names [], qual := q, func := some fa, code := cd, frame := some L, builtins := builtinsNs }

noncomputable def CallOk (X : Cx) (k : Nat) (H : List Addr) (f : Value) (ds : List D) (d : D) : Prop :=
  ∀ (A : Around) (s : Shared) (Q : Value → Shared → Prop) (E : Value → Shared → Prop) (vs : List Value), Good X k H A s → IsAll (vis H s.heap) ds vs →
    (∀ v s', Is (vis H s'.heap) d v → Step X s s' → Q v s') → wpAny X.M A (PySem.call f vs) Q E s

noncomputable def Ret (H : List Addr) (d : D) : Post := fun _ f s => ∃ v, f = .ret v ∧ Is (vis H s.heap) d v

theorem bindL_miss {kindOf : Str → Option NameKind} : ∀ {b : List (Str × Value)} {m : Str → Option Value} {x : Str}, x ∉ b.map (·.1) → bindL kindOf b m x = m x
  | [], m, x, _ => rfl
  | (n, v) :: r, m, x, h => by
    rw [List.map_cons, List.mem_cons, not_or] at h
    unfold bindL
    rw [bindL_miss h.2]
    split
    · simp only [h.1, if_false]
    · rfl
theorem bindC_miss {kindOf : Str → Option NameKind} : ∀ {b : List (Str × Value)} {m : Str → Option Value} {x : Str}, x ∉ b.map (·.1) → bindC kindOf b m x = m x
  | [], m, x, _ => rfl
  | (n, v) :: r, m, x, h => by
    rw [List.map_cons, List.mem_cons, not_or] at h
    unfold bindC
    rw [bindC_miss h.2]
    split
    · rfl
    · simp only [h.1, if_false]
theorem bind_get {kindOf : Str → Option NameKind} : ∀ {b : List (Str × Value)} {m c : Str → Option Value} {x : Str} {v : Value}, (b.map (·.1)).Nodup → b.lookup x = some v →
    (kindOf x = some .local → bindL kindOf b m x = some v) ∧ (kindOf x = some .cell → bindC kindOf b c x = some v)
  | (n, w) :: r, m, c, x, v, hn, h => by
    rw [List.map_cons, List.nodup_cons] at hn
    rw [List.lookup_cons] at h
    cases hb : x == n with
    | true =>
      rw [hb] at h; cases h
      have hx := beq_iff_eq.mp hb
      subst hx
      refine ⟨fun hk => ?_, fun hk => ?_⟩
      · unfold bindL; rw [bindL_miss hn.1, if_pos hk]; simp
      · unfold bindC; rw [bindC_miss hn.1, if_neg (by rw [hk]; decide)]; simp
    | false =>
      rw [hb] at h
      have hr := fun m c => bind_get (kindOf := kindOf) (m := m) (c := c) hn.2 h
      refine ⟨fun hk => ?_, fun hk => ?_⟩
      · unfold bindL; exact (hr _ c).1 hk
      · unfold bindC; exact (hr m _).2 hk
theorem zip_lookup {F : Addr → Option Obj} : ∀ {ps : List Str} {ds : List D} {vs : List Value} {x : Str} {d : D}, IsAll F ds vs → (ps.zip ds).lookup x = some d → ∃ v, (ps.zip vs).lookup x = some v ∧ Is F d v
  | p :: ps, d0 :: ds, vs, x, d, i, h => by
    obtain ⟨v, vr, rfl, i1, i2⟩ := isAll_cons.mp i
    rw [List.zip_cons_cons, List.lookup_cons] at h
    rw [List.zip_cons_cons, List.lookup_cons]
    cases hb : x == p with
    | true => rw [hb] at h; cases h; exact ⟨v, rfl, i1⟩
    | false => rw [hb] at h; exact zip_lookup i2 h
  | [], ds, vs, x, d, i, h => by cases h
  | _ :: _, [], vs, x, d, i, h => by cases h

section
variable {X : Cx} {k : Nat} {H : List Addr} {env : Env} {ρ : Ro}

theorem call_def {fa : Addr} {fd : FuncData} {ps : List Str} {sc : Scope} {body : List Stmt} {A : Around} {s : Shared} {vs : List Value} {ds : List D} {R : Result → Shared → Prop} (DA : FnK X fa fd ps sc body)
    (G : Good X (k + 1) H A s) (i : IsAll (vis H s.heap) ds vs) (hl : ds.length = ps.length)
    (hbody : ∀ s₁, Step X s s₁ → Inv X k H (A.deeper (fenv sc s.heap.objs.size (fd.qualname ++ ".<locals>.") fa fd.code)) (fenv sc s.heap.objs.size (fd.qualname ++ ".<locals>.") fa fd.code) s.heap.objs.size (ps.zip ds) [] s₁ →
      wpAny X.M (A.deeper (fenv sc s.heap.objs.size (fd.qualname ++ ".<locals>.") fa fd.code)) (execs body (fenv sc s.heap.objs.size (fd.qualname ++ ".<locals>.") fa fd.code)) (fun f s' => R (.ok (.ret (match f with | .ret v => v | _ => .none))) s')
        (fun e s' => wpAny X.M (A.deeper (fenv sc s.heap.objs.size (fd.qualname ++ ".<locals>.") fa fd.code)) (leaving (fenv sc s.heap.objs.size (fd.qualname ++ ".<locals>.") fa fd.code) e) (fun _ s'' => R (.error e) s'') (fun e' s'' => R (.error e') s'') s') s₁)
    (hps : ps.Nodup := by decide) (hk : ps.all (fun x => sc.names.lookup x == some .local || sc.names.lookup x == some .cell) = true := by rfl)
    (hsk : sc.kind = .function := by rfl) (hco : sc.isCoroutine = false := by rfl) (hgen : sc.isGenerator = false := by rfl) :
    codeAny X.M A (.call (.ref fa) ⟨vs, []⟩) R s := by
  obtain ⟨o, ho, hd⟩ := DA.obj
  have ho' := G.base.K fa o ho
  have hvl : vs.length = ps.length := i.length.trans hl
  have hzl : (ps.zip vs).map (·.1) = ps := by rw [List.map_fst_zip]; omega
  have e1 : callEnvC fd s.heap.objs.size fa = fenv sc s.heap.objs.size (fd.qualname ++ ".<locals>.") fa fd.code := by
    unfold callEnvC
    rw [DA.scope, DA.globals, DA.builtins]; rfl
  refine codeAny_call_cells (by have := G.ok.depth; omega) ho' hd G.base.lim (DA.code _ G.base.K) DA.body (DA.bind vs hvl) DA.closure ?_ (fun s₁ x => ?_) (by rw [DA.scope]; exact hco) (by rw [DA.scope]; exact hgen) (by rw [DA.scope]; exact hsk)
  · intro p hp
    have hp1 : p.1 ∈ ps := by rw [← hzl]; exact List.mem_map_of_mem (f := (·.1)) hp
    have := List.all_eq_true.mp hk _ hp1
    rw [DA.scope]
    rcases Bool.or_eq_true _ _ ▸ this with h | h
    · exact .inl (by simpa using h)
    · have h' : sc.names.lookup p.1 = some .cell := by simpa using h
      obtain ⟨c, hc, _⟩ := cellsFrom_isCell sc.names (s.heap.push { cls := .type "frame", data := .dict #[] }) [] p.1 (mem_of_lookup h')
      rw [Heap.size_push] at hc
      exact .inr ⟨h', by rw [hc]; rfl⟩
  · rw [e1] at x ⊢
    obtain ⟨h1, tk, rfl⟩ := x.toInCall.same
    have t1 : Step X s { s with heap := h1, toks := tk } := .keeps x.toInCall.keep
    have hm := x.toInCall.ns
    refine hbody _ t1 ⟨⟨⟨hsk, rfl, rfl⟩, G.base.size, Nat.le_refl _, fun a b c ha hb => name_of_addr x.apart (mem_of_lookup ha) (mem_of_lookup hb), rfl, let ⟨l, h2, _⟩ := G.fr; ⟨l, by show A.frames.map _ = _; rw [h2]; rfl⟩⟩, ?_, ?_, ⟨_, hm⟩, fun y c h => ⟨_, x.cell y c h⟩, fun y c _ h => Nat.le_of_lt (x.above y c (mem_of_lookup h)), fun a ds h => by cases h⟩
    · have G1 := G.step t1
      refine ⟨⟨fun _ => G.ok.handled (Nat.succ_ne_zero _), ?_, ?_⟩, G1.base, G1.hid, ?_⟩
      · have := G.ok.depth; show A.depth + 1 + k < _; omega
      · have := G.ok.units; show A.units + 3 + 20 * k < _; omega
      · obtain ⟨l, h2, h3⟩ := G1.fr
        refine ⟨_ :: l, by show A.frames.map _ = _; rw [h2]; rfl, fun e he => ?_⟩
        rcases List.mem_cons.mp he with rfl | he
        · obtain ⟨o, es, ep, e, hd, _⟩ := hm
          exact ⟨by show sc.kind ≠ _; rw [hsk]; decide, _, o, rfl, G.base.size, e, es, ep, hd⟩
        · exact h3 e he
    · intro y d hy
      obtain ⟨v, hv, iv⟩ := zip_lookup i hy
      refine ⟨v, ?_, iv.step G t1⟩
      have hyp : y ∈ ps := by
        rw [← hzl]; exact List.mem_map_of_mem (f := (·.1)) (mem_of_lookup hv)
      have hky := List.all_eq_true.mp hk _ hyp
      have hget := bind_get (kindOf := (fenv sc s.heap.objs.size (fd.qualname ++ ".<locals>.") fa fd.code).kindOf) (m := fun _ => none) (c := fun _ => none) (by rw [hzl]; exact hps) hv
      rcases Bool.or_eq_true _ _ ▸ hky with h | h
      · have h' : (fenv sc s.heap.objs.size (fd.qualname ++ ".<locals>.") fa fd.code).kindOf y = some .local := beq_iff_eq.mp h
        exact .inl ⟨h', _, hm, hget.1 h'⟩
      · have h' : (fenv sc s.heap.objs.size (fd.qualname ++ ".<locals>.") fa fd.code).kindOf y = some .cell := beq_iff_eq.mp h
        have h'' : sc.names.lookup y = some .cell := h'
        obtain ⟨c, hc, _⟩ := cellsFrom_isCell sc.names (s.heap.push { cls := .type "frame", data := .dict #[] }) [] y (mem_of_lookup h'')
        rw [Heap.size_push] at hc
        refine .inr (.inl ⟨h', c, hc, ?_⟩)
        have := x.cell y c hc
        rw [hget.2 h'] at this
        exact this

/-- from what the body's run turned to what the call's reader sees -/
theorem call_back {s s₁ s' : Shared} {N : Nat} (G : Good X k H A s) (hN : N = s.heap.objs.size) (t1 : Step X s s₁) (t2 : StepW X (Wr env H' N) s₁ s') : Step X s s' :=
  (t1.no.trans t2).monoAt fun b o e hb => by
    have h2 : N ≤ b := hb.1
    exact Nat.lt_irrefl b (Nat.lt_of_lt_of_le (Heap.lt_size e) (hN ▸ h2))

theorem callOk_of {f : Str} {fa : Addr} {fd : FuncData} {ps : List Str} {sc : Scope} {body : List Stmt} {ds : List D} {d : D} (DA : DefAt X f fa fd ps sc body) (hl : ds.length = ps.length)
    (hbody : ∀ L q, X.n ≤ L → Runs X k H (fenv sc L q fa fd.code) L (ps.zip ds) [] body (Ret H d))
    (hps : ps.Nodup := by decide) (hk : ps.all (fun x => sc.names.lookup x == some .local || sc.names.lookup x == some .cell) = true := by rfl)
    (hsk : sc.kind = .function := by rfl) (hco : sc.isCoroutine = false := by rfl) (hgen : sc.isGenerator = false := by rfl) : CallOk X (k + 1) H (.ref fa) ds d := by
  intro A s Q E vs G i hQ
  refine wpAny_call (call_def DA.toFnK G i hl (fun s₁ t1 I => ?_) hps hk hsk hco hgen)
  refine hbody _ _ G.base.size _ s₁ _ _ I fun f s' t2 hr => ?_
  obtain ⟨v, rfl, iv⟩ := hr
  exact hQ v s' iv (call_back (A := A) G rfl t1 t2)

theorem ev_call {f : Str} {p pos : Pos} {fa : Addr} {fd : FuncData} {ps : List Str} {sc : Scope} {body : List Stmt} {e : PySem.Expr} {es : List PySem.Expr} {ds : List D} {d : D} (DA : DefAt X f fa fd ps sc body) (O : EnvOk env)
    (ha : EvsAll X k H env ρ (e :: es) ds) (hc : CallOk X k H (.ref fa) ds d) (hk : env.kindOf f = some .globalImplicit := by rfl) (hd : (f == ("__debug__" : Str)) = false := by decide)
    (hse : backTo pos (starEach (e :: es) env) = (false, eval e env) :: backTo pos (starEach es env) := by rfl) : Evs X k H env ρ (.Call (.Name f p) (e :: es) [] pos) d := by
  intro A s Q E G S hQ
  refine wpAny_Call_NameR (Calls.Name_function_global O.kind hk (Calls.loadGlobal_global (by rw [O.globals]; exact G.base.g) DA.glob ?_) hd)
  obtain ⟨o, ho, hdd⟩ := DA.obj
  refine Calls.callWith_function (o := o) (fd := fd) ?_
  rw [hse]
  refine Calls.evalArgs_plain ?_
  rw [← hse]
  refine ha A s pos _ E G S fun vs s1 i t => ?_
  exact ⟨⟨(G.step t).base.K fa o ho, hdd⟩, hc A s1 Q E vs (G.step t) i fun v s' iv t2 => hQ v s' iv (t.trans t2)⟩

/-- a datum that names no place -/
noncomputable def D.flat : D → Bool
  | .none | .bool _ | .int _ | .str _ | .bytes _ => true
  | _ => false
theorem Is.flat {F F' : Addr → Option Obj} {d : D} {v : Value} (h : d.flat = true) (i : Is F d v) : Is F' d v := by
  cases d <;> first | (simp only [Is] at i ⊢; exact i) | (simp [D.flat] at h)
end
end Mine
end

section
set_option linter.unusedSectionVars false
open PySem PySem.W PyProof.Rows PySem.Calls
set_option Elab.async false
set_option linter.unusedVariables false
namespace Mine
section
variable {X : Cx} {k : Nat} {H : List Addr} {env : Env} {ρ : Ro}

/-! ints -/
theorem bin_add {a b : Int} : Bin X k H .Add (.int a) (.int b) (.int (a + b)) := by
  intro A s Q E va vb G ia ib hQ
  obtain ⟨t, rfl⟩ := is_int.mp ia
  obtain ⟨u, rfl⟩ := is_int.mp ib
  exact PyProof.Rows.add_int (hQ _ _ (is_int.mpr ⟨_, rfl⟩) (StepW.toks ..))
theorem bin_sub {a b : Int} : Bin X k H .Sub (.int a) (.int b) (.int (a - b)) := by
  intro A s Q E va vb G ia ib hQ
  obtain ⟨t, rfl⟩ := is_int.mp ia
  obtain ⟨u, rfl⟩ := is_int.mp ib
  exact PyProof.Rows.sub_int (hQ _ _ (is_int.mpr ⟨_, rfl⟩) (StepW.toks ..))
theorem bin_mul {a b : Int} (h : IntMulOk a b) : Bin X k H .Mult (.int a) (.int b) (.int (a * b)) := by
  intro A s Q E va vb G ia ib hQ
  obtain ⟨t, rfl⟩ := is_int.mp ia
  obtain ⟨u, rfl⟩ := is_int.mp ib
  exact PyProof.Rows.mul_int (hQ _ _ (is_int.mpr ⟨_, rfl⟩) (StepW.toks ..)) h
theorem bin_fdiv {a b : Int} (h : b ≠ 0) (hp : Builtin.divisionGoesByPylong a b = false) : Bin X k H .FloorDiv (.int a) (.int b) (.int (a.fdiv b)) := by
  intro A s Q E va vb G ia ib hQ
  obtain ⟨t, rfl⟩ := is_int.mp ia
  obtain ⟨u, rfl⟩ := is_int.mp ib
  exact floordiv_int h (hQ _ _ (is_int.mpr ⟨_, rfl⟩) (StepW.toks ..)) (.inl hp)
theorem bin_mod {a b : Int} (h : b ≠ 0) : Bin X k H .Mod (.int a) (.int b) (.int (a.fmod b)) := by
  intro A s Q E va vb G ia ib hQ
  obtain ⟨t, rfl⟩ := is_int.mp ia
  obtain ⟨u, rfl⟩ := is_int.mp ib
  exact mod_int' h (hQ _ _ (is_int.mpr ⟨_, rfl⟩) (StepW.toks ..))
theorem bin_pow {a n : Int} (h0 : 0 ≤ n) (h1 : n ≤ 1000000) (ha : a.natAbs < 2 ^ 64) : Bin X k H .Pow (.int a) (.int n) (.int (a ^ n.toNat)) := by
  intro A s Q E va vb G ia ib hQ
  obtain ⟨t, rfl⟩ := is_int.mp ia
  obtain ⟨u, rfl⟩ := is_int.mp ib
  exact pow_int_small h0 h1 ha (hQ _ _ (is_int.mpr ⟨_, rfl⟩) (StepW.toks ..))
theorem una_neg {a : Int} : Una X k H .USub (.int a) (.int (-a)) := by
  intro A s Q E va G ia hQ
  obtain ⟨t, rfl⟩ := is_int.mp ia
  exact PyProof.Rows.neg_int (hQ _ _ (is_int.mpr ⟨_, rfl⟩) (StepW.toks ..))
theorem cmp_eq_int {a b : Int} : Cmp X k H .Eq (.int a) (.int b) (decide (a = b)) := by
  intro A s Q E va vb G ia ib hQ
  obtain ⟨t, rfl⟩ := is_int.mp ia
  obtain ⟨u, rfl⟩ := is_int.mp ib
  exact PyProof.Rows.eq_int (by rw [show (a == b) = decide (a = b) from rfl]; exact hQ _ (StepW.refl ..))
theorem cmp_ne_int {a b : Int} : Cmp X k H .NotEq (.int a) (.int b) (!decide (a = b)) := by
  intro A s Q E va vb G ia ib hQ
  obtain ⟨t, rfl⟩ := is_int.mp ia
  obtain ⟨u, rfl⟩ := is_int.mp ib
  exact PyProof.Rows.ne_int (by rw [show (a != b) = !decide (a = b) from rfl]; exact hQ _ (StepW.refl ..))
theorem cmp_lt_int {a b : Int} : Cmp X k H .Lt (.int a) (.int b) (decide (a < b)) := by
  intro A s Q E va vb G ia ib hQ
  obtain ⟨t, rfl⟩ := is_int.mp ia
  obtain ⟨u, rfl⟩ := is_int.mp ib
  exact PyProof.Rows.lt_int (hQ _ (StepW.refl ..))
theorem cmp_gt_int {a b : Int} : Cmp X k H .Gt (.int a) (.int b) (decide (b < a)) := by
  intro A s Q E va vb G ia ib hQ
  obtain ⟨t, rfl⟩ := is_int.mp ia
  obtain ⟨u, rfl⟩ := is_int.mp ib
  exact PyProof.Rows.gt_int (hQ _ (StepW.refl ..))
theorem cmp_ge_int {a b : Int} : Cmp X k H .GtE (.int a) (.int b) (decide (b ≤ a)) := by
  intro A s Q E va vb G ia ib hQ
  obtain ⟨t, rfl⟩ := is_int.mp ia
  obtain ⟨u, rfl⟩ := is_int.mp ib
  exact PyProof.Rows.ge_int (hQ _ (StepW.refl ..))

/-! texts -/
noncomputable abbrev S (l : List Nat) : Str := ⟨l.toArray⟩
theorem S_append (a b : List Nat) : S a ++ S b = S (a ++ b) := by
  show (⟨a.toArray ++ b.toArray⟩ : Str) = _
  simp
theorem S_length (a : List Nat) : (S a).length = a.length := by show a.toArray.size = _; simp
theorem S_beq (a b : List Nat) : (S a == S b) = decide (a = b) := by
  by_cases h : a = b
  · subst h; simp
  · rw [beq_eq_false_iff_ne.mpr (fun q => h (by have := congrArg (fun s : Str => s.cps.toList) q; simpa using this))]
    simp [h]
theorem bin_cat {a b : List Nat} (h : a.length + b.length ≤ sizeLine) : Bin X k H .Add (.str a) (.str b) (.str (a ++ b)) := by
  intro A s Q E va vb G ia ib hQ
  obtain ⟨t, rfl⟩ := is_str.mp ia
  obtain ⟨u, rfl⟩ := is_str.mp ib
  refine PyProof.Rows.add_str (fun t' tk => ?_) (by rw [S_length, S_length]; exact h)
  exact hQ _ _ (is_str.mpr ⟨t', by rw [S_append]⟩) (StepW.toks ..)
theorem cmp_eq_str {a b : List Nat} : Cmp X k H .Eq (.str a) (.str b) (decide (a = b)) := by
  intro A s Q E va vb G ia ib hQ
  obtain ⟨t, rfl⟩ := is_str.mp ia
  obtain ⟨u, rfl⟩ := is_str.mp ib
  exact PyProof.Rows.eq_str (by rw [S_beq]; exact hQ _ (StepW.refl ..))
theorem cmp_lt_str {a b : List Nat} : Cmp X k H .Lt (.str a) (.str b) (decide (a < b)) := by
  intro A s Q E va vb G ia ib hQ
  obtain ⟨t, rfl⟩ := is_str.mp ia
  obtain ⟨u, rfl⟩ := is_str.mp ib
  exact PyProof.Rows.lt_str (hQ _ (StepW.refl ..))
theorem cmp_gt_str {a b : List Nat} : Cmp X k H .Gt (.str a) (.str b) (decide (b < a)) := by
  intro A s Q E va vb G ia ib hQ
  obtain ⟨t, rfl⟩ := is_str.mp ia
  obtain ⟨u, rfl⟩ := is_str.mp ib
  exact P.gt_str (hQ _ (StepW.refl ..))
theorem cmp_le_str {a b : List Nat} : Cmp X k H .LtE (.str a) (.str b) (!decide (b < a)) := by
  intro A s Q E va vb G ia ib hQ
  obtain ⟨t, rfl⟩ := is_str.mp ia
  obtain ⟨u, rfl⟩ := is_str.mp ib
  exact P.le_str (hQ _ (StepW.refl ..))
/-- a text within a text -/
noncomputable abbrev within (x y : List Nat) : Bool := Txt.contains (S x) (S y)
theorem cmp_in_str {a b : List Nat} : Cmp X k H .In (.str b) (.str a) (within a b) := by
  intro A s Q E va vb G ia ib hQ
  obtain ⟨t, rfl⟩ := is_str.mp ia
  obtain ⟨u, rfl⟩ := is_str.mp ib
  exact SB.contains (hQ _ (StepW.refl ..))
theorem cmp_notin_str {a b : List Nat} : Cmp X k H .NotIn (.str b) (.str a) (!within a b) := by
  intro A s Q E va vb G ia ib hQ
  obtain ⟨t, rfl⟩ := is_str.mp ia
  obtain ⟨u, rfl⟩ := is_str.mp ib
  exact SB.notContains (hQ _ (StepW.refl ..))

/-! truth -/
theorem tru_bool {b : Bool} : Tru X k H (.bool b) b := by
  intro A s Q E va G i hQ
  rw [is_bool.mp i]; exact wpAny_truthy_bool (hQ _ (StepW.refl ..))
theorem tru_str {l : List Nat} (h : l.length < 2 ^ 63) : Tru X k H (.str l) (!l.isEmpty) := by
  intro A s Q E va G i hQ
  obtain ⟨t, rfl⟩ := is_str.mp i
  refine P.truthy_str (by rw [S_length]; omega) ?_
  rw [show (((S l).length : Int) != 0) = !l.isEmpty by rw [S_length]; cases l <;> simp; omega]
  exact hQ _ (StepW.toks ..)
theorem tru_list {l : List D} (h : l.length < 2 ^ 63) : Tru X k H (.list l) (!l.isEmpty) := by
  intro A s Q E va G i hQ
  obtain ⟨a, vs, rfl, la, ia⟩ := is_list.mp i
  have hl := ia.length
  refine wpAny_truthy_list la.heap (by simp; omega) ?_
  rw [show vs.toArray.isEmpty = l.isEmpty by cases vs <;> cases l <;> simp_all]
  exact hQ _ (StepW.toks ..)

/-! subscripts -/
theorem ev_sub {value slice : PySem.Expr} {pos : Pos} {a b d : D} (hv : Evs X k H env ρ value a) (hs : Evs X k H env ρ slice b)
    (ht : ∀ (A : Around) (s : Shared) (Q : Value → Shared → Prop) (E : Value → Shared → Prop) (va vb : Value), Good X k H A s → Is (vis H s.heap) a va → Is (vis H s.heap) b vb →
      (∀ v s', Is (vis H s'.heap) d v → Step X s s' → Q v s') → wpAny X.M A (subscriptTail value slice va vb) Q E s) : Evs X k H env ρ (.Subscript value slice pos) d := by
  intro A s Q E G S0 hQ
  refine Subscript_ (hv A s _ E G S0 fun v1 s1 i1 t1 => hs A s1 _ E (G.step t1) (S0.step G t1) fun v2 s2 i2 t2 => ?_)
  exact ht A s2 Q E v1 v2 ((G.step t1).step t2) (i1.step (G.step t1) t2) i2 fun v s' i t => hQ v s' i ((t1.trans t2).trans t)
/-- no slice stands in the brackets -/
noncomputable def plainSub : PySem.Expr → Bool
  | .Slice .. => false
  | _ => true
theorem sub_plain {slice : PySem.Expr} (h : plainSub slice = true) (o i : Value) : subscripted slice false o i = operate [o, i] (getItem o i) := by
  unfold subscripted
  cases slice <;> first | rfl | cases h
theorem idx_split {i : Int} {n j : Nat} (h : seqIndex? i n = some j) : (0 ≤ i ∧ i.toNat = j ∧ i < n) ∨ (i < 0 ∧ -(n : Int) ≤ i ∧ (i + n).toNat = j) := by
  unfold seqIndex? at h
  dsimp only at h
  split at h
  · split at h
    · rename_i hc
      cases h
      simp only [Bool.and_eq_true, decide_eq_true_eq] at hc
      exact .inr (by omega)
    · cases h
  · split at h
    · rename_i hc
      cases h
      simp only [Bool.and_eq_true, decide_eq_true_eq] at hc
      exact .inl (by omega)
    · cases h
theorem ev_item {value slice : PySem.Expr} {pos : Pos} {l : List D} {i : Int} {j : Nat} {d : D} (hv : Evs X k H env ρ value (.list l)) (hs : Evs X k H env ρ slice (.int i)) (hj : seqIndex? i l.length = some j) (hd : l[j]? = some d)
    (hl : l.length < 2 ^ 62 := by omega) (hp : plainSub slice = true := by rfl) : Evs X k H env ρ (.Subscript value slice pos) d := by
  refine ev_sub hv hs fun A s Q E va vb G ia ib hQ => ?_
  obtain ⟨a, vs, rfl, la, iv⟩ := is_list.mp ia
  obtain ⟨t, rfl⟩ := is_int.mp ib
  obtain ⟨v, hv, i1⟩ := iv.get hd
  have hn := iv.length
  have hsz : vs.toArray.size = l.length := by simpa using hn
  refine tail_any la.heap.typeIs slot_list_getitem.lookup ?_ (sub_plain hp _ _)
  rcases idx_split hj with ⟨h0, h1, h2⟩ | ⟨h0, h1, h2⟩
  · exact wpAny_getItem_list la.heap h0 (by omega) (by rw [h1]; simpa using hv) (hQ _ _ i1 (StepW.refl ..))
  · exact wpAny_getItem_list_neg la.heap h0 (by rw [hsz]; omega) (by omega) (by rw [hsz, h2]; simpa using hv) (hQ _ _ i1 (StepW.refl ..))
theorem ev_itemT {value slice : PySem.Expr} {pos : Pos} {l : List D} {i : Int} {j : Nat} {d : D} (hv : Evs X k H env ρ value (.tuple l)) (hs : Evs X k H env ρ slice (.int i)) (hj : seqIndex? i l.length = some j) (hd : l[j]? = some d)
    (hl : l.length < 2 ^ 62 := by decide) (hp : plainSub slice = true := by rfl) : Evs X k H env ρ (.Subscript value slice pos) d := by
  refine ev_sub hv hs fun A s Q E va vb G ia ib hQ => ?_
  obtain ⟨a, vs, rfl, ⟨n, la⟩, iv⟩ := is_tuple.mp ia
  obtain ⟨t, rfl⟩ := is_int.mp ib
  obtain ⟨v, hv, i1⟩ := iv.get hd
  have hn := iv.length
  have hsz : vs.toArray.size = l.length := by simpa using hn
  have la' := (vis_iff.mp la).2
  refine tail_any (T := "tuple") ⟨_, la', rfl⟩ F.slot_tuple_getitem.lookup ?_ (sub_plain hp _ _)
  rcases idx_split hj with ⟨h0, h1, h2⟩ | ⟨h0, h1, h2⟩
  · exact P.getItem_tuple la' (by omega) (by omega) (by rw [hsz]; exact hj) (by simpa using hv) (hQ _ _ i1 (StepW.refl ..))
  · exact P.getItem_tuple la' (by omega) (by omega) (by rw [hsz]; exact hj) (by simpa using hv) (hQ _ _ i1 (StepW.refl ..))
theorem ev_char {value slice : PySem.Expr} {pos : Pos} {l : List Nat} {i : Int} {j c : Nat} (hv : Evs X k H env ρ value (.str l)) (hs : Evs X k H env ρ slice (.int i)) (hj : seqIndex? i l.length = some j) (hd : l[j]? = some c)
    (hl : l.length < 2 ^ 62 := by omega) (hp : plainSub slice = true := by rfl) : Evs X k H env ρ (.Subscript value slice pos) (.str [c]) := by
  refine ev_sub hv hs fun A s Q E va vb G ia ib hQ => ?_
  obtain ⟨t, rfl⟩ := is_str.mp ia
  obtain ⟨u, rfl⟩ := is_int.mp ib
  refine tail_any (T := "str") rfl F.slot_str_getitem.lookup ?_ (sub_plain hp _ _)
  have hb : -2 ^ 63 ≤ i ∧ i < 2 ^ 63 := by rcases idx_split hj with ⟨h0, h1, h2⟩ | ⟨h0, h1, h2⟩ <;> omega
  refine P.getItem_str (c := c) (by simp; omega) ?_ (hQ _ _ (is_str.mpr ⟨_, rfl⟩) (StepW.toks ..))
  rw [S_length, hj]; simpa using hd
end
end Mine
end

section
set_option linter.unusedSectionVars false
open PySem PySem.W PyProof.Rows PySem.Calls
set_option Elab.async false
set_option linter.unusedVariables false
namespace Mine

/-- a run cut out by Python's bounds -/
noncomputable def cut {α : Type} (l : List α) (lo hi : Option Int) : List α := (l.drop (lo.elim 0 (clipAt l.length))).take (hi.elim l.length (clipAt l.length) - lo.elim 0 (clipAt l.length))
theorem cut_length_le {α : Type} (l : List α) (lo hi : Option Int) : (cut l lo hi).length ≤ l.length := by
  unfold cut; rw [List.length_take, List.length_drop]; omega

section
variable {X : Cx} {k : Nat} {H : List Addr} {env : Env} {ρ : Ro}

theorem IsAll.cut {F : Addr → Option Obj} {l : List D} {vs : List Value} (h : IsAll F l vs) (lo hi : Option Int) : IsAll F (Mine.cut l lo hi) (Mine.cut vs lo hi) := by
  unfold Mine.cut
  rw [h.length]
  exact (h.drop _).take _

/-- a slice's bound -/
inductive Part (X : Cx) (k : Nat) (H : List Addr) (env : Env) (ρ : Ro) : Option PySem.Expr → Option Int → Prop
  | none : Part X k H env ρ none none
  | some {e : PySem.Expr} {i : Int} : Evs X k H env ρ e (.int i) → Part X k H env ρ (some e) (some i)
theorem Part.run {e : Option PySem.Expr} {o : Option Int} (h : Part X k H env ρ e o) {A : Around} {s : Shared} {Q : Value → Shared → Prop} {E : Value → Shared → Prop} (G : Good X k H A s) (S0 : Sees H env s.heap ρ)
    (hQ : ∀ v s', IsPart v o → Step X s s' → Q v s') : wpAny X.M A (evalPart e env) Q E s := by
  cases h with
  | none => exact wpAny_pure (hQ _ _ .none (StepW.refl ..))
  | some he =>
    refine he A s _ E G S0 fun v s' i t => ?_
    obtain ⟨tk, rfl⟩ := is_int.mp i
    exact hQ _ _ (.int _ _) t

theorem ev_slice {value : PySem.Expr} {lower upper : Option PySem.Expr} {lo hi : Option Int} {p pos : Pos} {a d : D} (hv : Evs X k H env ρ value a) (hlo : Part X k H env ρ lower lo) (hhi : Part X k H env ρ upper hi)
    (hg : ∀ (A : Around) (s : Shared) (Q : Value → Shared → Prop) (E : Value → Shared → Prop) (va vl vu : Value) (sl : Addr), Good X k H A s → Is (vis H s.heap) a va → s.heap.get? sl = some { cls := .type "slice", data := .fields #[vl, vu, .none] } → IsPart vl lo → IsPart vu hi →
      (∀ v s', Is (vis H s'.heap) d v → Step X s s' → Q v s') → wpAny X.M A (subscriptTail value (.Slice lower upper none p) va (.ref sl)) Q E s) :
    Evs X k H env ρ (.Subscript value (.Slice lower upper none p) pos) d := by
  intro A s Q E G S0 hQ
  refine Subscript_ (hv A s _ E G S0 fun v1 s1 i1 t1 => ?_)
  have G1 := G.step t1
  have S1 := S0.step G t1
  refine wpAny_Slice (hlo.run G1 S1 fun vl s2 il t2 => hhi.run (G1.step t2) (S1.step G1 t2) fun vu s3 iu t3 => ?_)
  have G3 := (G1.step t2).step t3
  have t4 : Step X s3 { s3 with heap := s3.heap.push { cls := .type "slice", data := .fields #[vl, vu, .none] } } := new_seq
  show wpAny X.M A (evalPart none env) _ E s3
  refine wpAny_pure ?_
  refine hg A _ Q E v1 vl vu s3.heap.objs.size (G3.step t4) (((i1.step G1 t2).step (G1.step t2) t3).step G3 t4) (Heap.get?_push_size _ rfl) il iu fun v s' i t => hQ v s' i ((((t1.trans t2).trans t3).trans t4).trans t)

theorem ev_cutL {value : PySem.Expr} {lower upper : Option PySem.Expr} {lo hi : Option Int} {p pos : Pos} {l : List D} (hv : Evs X k H env ρ value (.list l)) (hlo : Part X k H env ρ lower lo) (hhi : Part X k H env ρ upper hi) (hz : l.length ≤ sizeLine) :
    Evs X k H env ρ (.Subscript value (.Slice lower upper none p) pos) (.list (cut l lo hi)) := by
  refine ev_slice hv hlo hhi fun A s Q E va vl vu sl G ia hsl pl pu hQ => ?_
  obtain ⟨a, vs, rfl, la, iv⟩ := is_list.mp ia
  have hn := iv.length
  refine tail_any la.heap.typeIs slot_list_getitem.lookup ?_ rfl
  refine wpAny_getItem_list_slice la.heap ⟨_, hsl, rfl, rfl⟩ pl pu .none (by simp) ?_ (by simpa [hn] using hz)
  have e : slicePick vs.toArray lo hi none = (cut vs lo hi).toArray := by rw [slicePick_plain]; unfold cut; simp
  rw [e]
  exact hQ _ _ (new_list G (iv.cut lo hi)) new_seq

theorem str_indices (lo hi : Option Int) (n : Nat) : Builtin.Str.strSliceIndices lo hi 1 n = sliceRange ((lo.elim 0 (clipAt n) : Nat) : Int) ((hi.elim n (clipAt n) : Nat) : Int) 1 := by
  unfold Builtin.Str.strSliceIndices
  dsimp only
  congr 1
  · cases lo with
    | none => rfl
    | some i => simp only [Option.elim, clipAt_cast]; rfl
  · cases hi with
    | none => rfl
    | some i => simp only [Option.elim, clipAt_cast]; rfl
theorem ev_cutS {value : PySem.Expr} {lower upper : Option PySem.Expr} {lo hi : Option Int} {p pos : Pos} {l : List Nat} (hv : Evs X k H env ρ value (.str l)) (hlo : Part X k H env ρ lower lo) (hhi : Part X k H env ρ upper hi) (hz : l.length ≤ sizeLine) :
    Evs X k H env ρ (.Subscript value (.Slice lower upper none p) pos) (.str (cut l lo hi)) := by
  refine ev_slice hv hlo hhi fun A s Q E va vl vu sl G ia hsl pl pu hQ => ?_
  obtain ⟨t, rfl⟩ := is_str.mp ia
  refine tail_any (T := "str") rfl F.slot_str_getitem.lookup ?_ rfl
  obtain ⟨ol, hol, el⟩ : ∃ ol : Option (Int × Tok), vl = partValue ol ∧ ol.map (·.1) = lo := by
    cases pl with
    | none => exact ⟨none, rfl, rfl⟩
    | int i t => exact ⟨some (i, t), rfl, rfl⟩
  obtain ⟨ou, hou, eu⟩ : ∃ ou : Option (Int × Tok), vu = partValue ou ∧ ou.map (·.1) = hi := by
    cases pu with
    | none => exact ⟨none, rfl, rfl⟩
    | int i t => exact ⟨some (i, t), rfl, rfl⟩
  subst hol hou
  have hpick : slicePicked (S l) ol ou none = (List.range (hi.elim l.length (clipAt l.length) - lo.elim 0 (clipAt l.length))).map (lo.elim 0 (clipAt l.length) + ·) := by
    unfold slicePicked
    rw [el, eu, S_length]
    show Builtin.Str.strSliceIndices lo hi 1 l.length = _
    rw [str_indices, sliceRange_one]
  have hcut : (((slicePicked (S l) ol ou none).filterMap ((S l).cps[·]?)).toArray : Array Nat) = (cut l lo hi).toArray := by
    rw [hpick, pick_run]; unfold cut; simp
  refine wpAny_getItem_str_slice (l := ol) (u := ou) (st := none) ⟨_, hsl, rfl, rfl⟩ rfl ?_
  unfold sliceMade
  split
  · rename_i hc
    simp only [Bool.and_eq_true, beq_iff_eq] at hc
    have hlen := hc.2
    rw [hpick, List.length_map, List.length_range, S_length] at hlen
    have : cut l lo hi = l := by
      unfold cut
      have e0 : (⟨l.toArray⟩ : Str).length = l.length := S_length l
      have h0 : lo.elim 0 (clipAt l.length) = 0 := by
        have h2 : lo.elim 0 (clipAt l.length) ≤ l.length := by
          cases lo with
          | none => exact Nat.zero_le _
          | some i => simp only [Option.elim]; have := clipAt_cast l.length i; omega
        have h1 : hi.elim l.length (clipAt l.length) ≤ l.length := by
          cases hi with
          | none => exact Nat.le_refl _
          | some i => simp only [Option.elim]; have := clipAt_cast l.length i; omega
        omega
      rw [h0, List.drop_zero]
      exact List.take_of_length_le (by omega)
    exact hQ _ _ (is_str.mpr ⟨t, by rw [this]⟩) (StepW.refl ..)
  · refine ⟨?_, ?_⟩
    · rw [hcut]
      exact Nat.le_trans (Nat.le_of_eq (S_length _)) (Nat.le_trans (cut_length_le l lo hi) hz)
    · rw [hcut]
      exact hQ _ _ (is_str.mpr ⟨_, rfl⟩) (StepW.toks ..)

theorem ev_cutB {value : PySem.Expr} {lower upper : Option PySem.Expr} {lo hi : Option Int} {p pos : Pos} {l : List UInt8} (hv : Evs X k H env ρ value (.bytes l)) (hlo : Part X k H env ρ lower lo) (hhi : Part X k H env ρ upper hi) (hz : l.length ≤ sizeLine) :
    Evs X k H env ρ (.Subscript value (.Slice lower upper none p) pos) (.bytes (cut l lo hi)) := by
  refine ev_slice hv hlo hhi fun A s Q E va vl vu sl G ia hsl pl pu hQ => ?_
  obtain ⟨t, rfl⟩ := is_bytes.mp ia
  refine tail_any (T := "bytes") rfl FB.slot_bytes_getitem.lookup ?_ rfl
  have e : KBy.picked l.toArray lo hi = (cut l lo hi).toArray := by rw [KBc.picked_eq]; unfold cut; simp
  refine getItem_meets (typeIs_bytes _ _ _) (by decide) FB.slot_bytes_getitem FB.entry_bytes_getitem (FB.args_bytes_getitem_2 _ _) (KBc.meets_slice2 l.toArray t sl pl pu)
    ⟨⟨_, hsl, rfl, rfl⟩, by rw [e]; simpa using Nat.le_trans (cut_length_le l lo hi) hz, fun t' k => ?_⟩
  rw [e]
  exact hQ _ _ (is_bytes.mpr ⟨_, rfl⟩) (StepW.toks ..)
theorem ev_byte {value slice : PySem.Expr} {pos : Pos} {l : List UInt8} {i : Nat} {b : UInt8} (hv : Evs X k H env ρ value (.bytes l)) (hs : Evs X k H env ρ slice (.int i)) (hd : l[i]? = some b)
    (hl : l.length ≤ 1099511627776 := by omega) (hp : plainSub slice = true := by rfl) : Evs X k H env ρ (.Subscript value slice pos) (.int b.toNat) := by
  refine ev_sub hv hs fun A s Q E va vb G ia ib hQ => ?_
  obtain ⟨t, rfl⟩ := is_bytes.mp ia
  obtain ⟨u, rfl⟩ := is_int.mp ib
  obtain ⟨hi, hd'⟩ := List.getElem?_eq_some_iff.mp hd
  refine tail_any (T := "bytes") rfl FB.slot_bytes_getitem.lookup ?_ (sub_plain hp _ _)
  refine getItem_bytes hl (by omega) (by omega) ?_
  have e : l.getD (Int.toNat (i : Int)) 0 = b := by simp [List.getD, hd]
  rw [e]
  exact hQ _ _ (is_int.mpr ⟨_, rfl⟩) (StepW.toks ..)

/-! lists -/
theorem bin_catL {a b : List D} (h : a.length + b.length ≤ sizeLine) : Bin X k H .Add (.list a) (.list b) (.list (a ++ b)) := by
  intro A s Q E va vb G ia ib hQ
  obtain ⟨p, vs, rfl, ⟨n, la⟩, iv⟩ := is_list.mp ia
  obtain ⟨q, us, rfl, ⟨m, lb⟩, iu⟩ := is_list.mp ib
  have h1 := iv.length
  have h2 := iu.length
  refine P.add_list (vis_iff.mp la).2 (vis_iff.mp lb).2 ?_ (by simp; omega)
  rw [show vs.toArray ++ us.toArray = (vs ++ us).toArray by simp]
  exact hQ _ _ (new_list G (iv.append iu)) new_seq
theorem flatten_replicate {F : Addr → Option Obj} {a : List D} {vs : List Value} (i : IsAll F a vs) : ∀ n, IsAll F (List.replicate n a).flatten (List.replicate n vs).flatten
  | 0 => isAll_nil.mpr rfl
  | n + 1 => by rw [List.replicate_succ, List.replicate_succ, List.flatten_cons, List.flatten_cons]; exact i.append (flatten_replicate i n)
theorem bin_mulL {a : List D} {x : Int} (h : a.length * x.toNat ≤ 2 ^ 24) (h0 : 0 ≤ x) (hx : x < 2 ^ 62) : Bin X k H .Mult (.list a) (.int x) (.list (List.replicate x.toNat a).flatten) := by
  intro A s Q E va vb G ia ib hQ
  obtain ⟨l, vs, rfl, ⟨n, la⟩, iv⟩ := is_list.mp ia
  obtain ⟨u, rfl⟩ := is_int.mp ib
  have hl := iv.length
  have ho := (vis_iff.mp la).2
  have hsz' : vs.toArray.size * x.toNat ≤ 2 ^ 24 := by simpa [hl] using h
  generalize hd : (none : Option Addr) = d at ho
  generalize hs : (#[] : Array (Option Value)) = sl at ho
  refine wpAny_binaryOp_repeat_ref (T := "list") (U := "int") (by decide) ⟨_, ho, rfl⟩ (fun s' => typeIs_int s' x u) noFill_list_mul F.fills_int_mul F.slot_int_rmul repeat_list F.slot_int_index.lookup
    (call_meets F.slot_int_rmul (typeIs_int s x u) F.entry_int_rmul (F.args_int_rmul_2 _ _) (lm_int_rmul_list_any x u l vs.toArray n d sl)
      ⟨ho, rfl, ⟨_, ho, rfl⟩, call_meets F.slot_list_mul ⟨_, ho, rfl⟩ F.entry_list_mul (F.args_list_mul_2 _ _)
        (lm_list_mul_any l vs.toArray n d sl x u (by simp [Builtin.List.listFitsIndex]; omega) (by omega) (by simp [Builtin.List.listTooLong, sizeLine]; omega))
        ⟨ho, ?_⟩⟩)
  rw [listMul_foldl_if]
  exact hQ _ _ (new_list G (flatten_replicate iv _)) new_seq
end
end Mine
end

section
set_option linter.unusedSectionVars false
open PySem PySem.W PyProof.Rows PySem.Calls
set_option Elab.async false
set_option linter.unusedVariables false
namespace Mine

theorem exists_back {α : Type} {g h : α → D} (hg : ∀ x y, g x = g y → x = y) : ∃ f : D → D, ∀ x, f (g x) = h x := by
  classical
  refine ⟨fun d => if e : ∃ x, g x = d then h e.choose else d, fun x => ?_⟩
  have e : ∃ y, g y = g x := ⟨x, rfl⟩
  simp only [dif_pos e]
  rw [hg _ _ e.choose_spec]
theorem exists_backB {α : Type} {g : α → D} {p : α → Bool} (hg : ∀ x y, g x = g y → x = y) : ∃ f : D → Bool, ∀ x, f (g x) = p x := by
  classical
  refine ⟨fun d => if e : ∃ x, g x = d then p e.choose else false, fun x => ?_⟩
  have e : ∃ y, g y = g x := ⟨x, rfl⟩
  simp only [dif_pos e]
  rw [hg _ _ e.choose_spec]
theorem filter_map_back {α : Type} {g h : α → D} {p : α → Bool} {f : D → D} {q : D → Bool} (hf : ∀ x, f (g x) = h x) (hq : ∀ x, q (g x) = p x) : ∀ l : List α, ((l.map g).filter q).map f = (l.filter p).map h
  | [] => rfl
  | x :: r => by
    rw [List.map_cons, List.filter_cons, List.filter_cons, hq]
    cases p x <;> simp [hf, filter_map_back hf hq r]

theorem flat_back {α β : Type} {g : α → D} {g2 : β → D} {h : α → β → D} {m : List β} {f : D → D → D} (hf : ∀ u v, f (g u) (g2 v) = h u v) : ∀ l : List α, (l.flatMap fun u => m.map (h u)) = ((l.map g).flatMap fun d => (m.map g2).map (f d))
  | [] => rfl
  | u :: r => by
    rw [List.flatMap_cons, List.map_cons, List.flatMap_cons, ← flat_back hf r]
    congr 1
    rw [List.map_map]
    exact List.map_congr_left fun v _ => (hf u v).symm
theorem flat_length {α β : Type} {h : α → β → D} {m : List β} : ∀ l : List α, (l.flatMap fun u => m.map (h u)).length = l.length * m.length
  | [] => by simp
  | u :: r => by rw [List.flatMap_cons, List.length_append, flat_length r, List.length_map, List.length_cons, Nat.succ_mul, Nat.add_comm]
section
variable {X : Cx} {k : Nat} {H : List Addr} {env : Env} {ρ : Ro}
theorem cx_gen {α : Type} {elt iter : PySem.Expr} {ifs : List PySem.Expr} {x : Str} {px : Pos} {scope : Scope} {pos : Pos} {l : List α} {g h : α → D} {p : α → Bool} (O : EnvOk env) (hg : ∀ x y, g x = g y → x = y) (hit : Its X k H env ρ iter (l.map g))
    (htest : ∀ (C : Addr) (cs : List (Str × Addr)) (a : Addr), EnvOk (compEnv scope C cs env) → ∀ y ∈ l, TstIfs X k (a :: H) (compEnv scope C cs env) ((x, g y) :: fre scope ρ) ifs (p y))
    (helt : ∀ (C : Addr) (cs : List (Str × Addr)) (a : Addr), EnvOk (compEnv scope C cs env) → ∀ y ∈ l, p y = true → Evs X k (a :: H) (compEnv scope C cs env) ((x, g y) :: fre scope ρ) elt (h y))
    (hz : l.length ≤ sizeLine)
    (hsc : compOk scope env [x] = true := by rfl) (hfr : haveAll scope ρ = true := by rfl) (hs : ∀ x, foldedSetIterable iter env x = pure x := by intro _; rfl) :
    CompX X k H env ρ elt [⟨.Name x px, iter, ifs, 0⟩] scope pos ((l.filter p).map h) := by
  obtain ⟨f, hf⟩ := exists_back (h := h) hg
  obtain ⟨q, hq⟩ := exists_backB (p := p) hg
  rw [← filter_map_back hf hq l]
  refine cx_comp O hit (fun C cs a O' d hd => ?_) (fun C cs a O' d hd hp => ?_) (by simpa using hz) hsc hfr hs
  · obtain ⟨y, hy, rfl⟩ := List.mem_map.mp hd
    rw [hq]; exact htest C cs a O' y hy
  · obtain ⟨y, hy, rfl⟩ := List.mem_map.mp hd
    rw [hf]; exact helt C cs a O' y hy (by rw [← hq]; exact hp)
theorem cx_map {α : Type} {elt iter : PySem.Expr} {x : Str} {px : Pos} {scope : Scope} {pos : Pos} {l : List α} {g h : α → D} (O : EnvOk env) (hg : ∀ x y, g x = g y → x = y) (hit : Its X k H env ρ iter (l.map g))
    (helt : ∀ (C : Addr) (cs : List (Str × Addr)) (a : Addr), EnvOk (compEnv scope C cs env) → ∀ y ∈ l, Evs X k (a :: H) (compEnv scope C cs env) ((x, g y) :: fre scope ρ) elt (h y))
    (hz : l.length ≤ sizeLine)
    (hsc : compOk scope env [x] = true := by rfl) (hfr : haveAll scope ρ = true := by rfl) (hs : ∀ x, foldedSetIterable iter env x = pure x := by intro _; rfl) :
    CompX X k H env ρ elt [⟨.Name x px, iter, [], 0⟩] scope pos (l.map h) := by
  have := cx_gen (elt := elt) (iter := iter) (ifs := []) (x := x) (px := px) (scope := scope) (pos := pos) (l := l) (g := g) (h := h) (p := fun _ => true) O hg hit (fun _ _ _ _ _ _ => ifs_nil) (fun C cs a O' y hy _ => helt C cs a O' y hy) hz hsc hfr hs
  rwa [List.filter_eq_self.mpr (fun _ _ => rfl)] at this
theorem cx_map2 {α β : Type} {elt i0 i1 : PySem.Expr} {x y : Str} {px py : Pos} {scope : Scope} {pos : Pos} {l : List α} {m : List β} {g : α → D} {g2 : β → D} {h : α → β → D} (O : EnvOk env) (hg : ∀ x y, g x = g y → x = y) (hg2 : ∀ x y, g2 x = g2 y → x = y)
    (hit : Its X k H env ρ i0 (l.map g))
    (hit2 : ∀ (C : Addr) (cs : List (Str × Addr)) (a : Addr), EnvOk (compEnv scope C cs env) → ∀ u ∈ l, Its X k (a :: H) (compEnv scope C cs env) ((x, g u) :: fre scope ρ) i1 (m.map g2))
    (helt : ∀ (C : Addr) (cs : List (Str × Addr)) (a : Addr), EnvOk (compEnv scope C cs env) → ∀ u ∈ l, ∀ v ∈ m, Evs X k (a :: H) (compEnv scope C cs env) ((y, g2 v) :: (x, g u) :: fre scope ρ) elt (h u v))
    (hz : l.length * m.length ≤ sizeLine)
    (hy : scope.names.lookup y = some .local := by rfl) (hx' : scope.names.lookup x = some .local := by rfl) (hxy : y ≠ x := by decide)
    (hsc : compOk scope env [x] = true := by rfl) (hfr : haveAll scope ρ = true := by rfl) (hs : ∀ x, foldedSetIterable i0 env x = pure x := by intro _; rfl) (hs1 : ∀ C cs x, foldedSetIterable i1 (compEnv scope C cs env) x = pure x := by intro _ _ _; rfl) :
    CompX X k H env ρ elt [⟨.Name x px, i0, [], 0⟩, ⟨.Name y py, i1, [], 0⟩] scope pos (l.flatMap fun u => m.map (h u)) := by
  classical
  obtain ⟨f, hf⟩ : ∃ f : D → D → D, ∀ u v, f (g u) (g2 v) = h u v := ⟨fun d e => if q : ∃ x : α × β, g x.1 = d ∧ g2 x.2 = e then h q.choose.1 q.choose.2 else d, fun u v => by
    have q : ∃ x : α × β, g x.1 = g u ∧ g2 x.2 = g2 v := ⟨(u, v), rfl, rfl⟩
    simp only [dif_pos q]
    obtain ⟨q1, q2⟩ := q.choose_spec
    rw [hg _ _ q1, hg2 _ _ q2]⟩
  have e := flat_back (m := m) hf l
  rw [e]
  refine cx_comp2 O hit (es := fun _ => m.map g2) (fun C cs a O' d hd => ?_) (fun C cs a O' d hd e he => ?_) ?_ hy hx' hxy hsc hfr hs hs1
  · obtain ⟨u, hu, rfl⟩ := List.mem_map.mp hd
    exact hit2 C cs a O' u hu
  · obtain ⟨u, hu, rfl⟩ := List.mem_map.mp hd
    obtain ⟨v, hv, rfl⟩ := List.mem_map.mp he
    rw [hf]; exact helt C cs a O' u hu v hv
  · rw [← e, flat_length]; exact hz
end
end Mine
namespace Mine
theorem sub_nil {ρ : Ro} : ∀ x d, ([] : Ro).lookup x = some d → ρ.lookup x = some d := fun _ _ h => by cases h
theorem sub_cons {ρ ρ' : Ro} {a : Str} {v : D} (h : ρ.lookup a = some v) (r : ∀ x d, ρ'.lookup x = some d → ρ.lookup x = some d) : ∀ x d, ((a, v) :: ρ' : Ro).lookup x = some d → ρ.lookup x = some d := fun x d e => by
  rw [List.lookup_cons] at e
  cases hb : x == a with
  | true => rw [hb] at e; cases e; rw [beq_iff_eq.mp hb]; exact h
  | false => rw [hb] at e; exact r x d e
theorem mu_nil {μ : Mu} : ∀ x d, ([] : Mu).lookup x = some d → μ.lookup x = some d := fun _ _ h => by cases h
theorem str_inj : ∀ x y : List Nat, D.str x = D.str y → x = y := fun _ _ h => by cases h; rfl
theorem int_inj : ∀ x y : Nat, D.int (x : Int) = D.int (y : Int) → x = y := fun x y h => by
  have := D.int.inj h
  omega
theorem chr_inj : ∀ x y : Nat, D.str [x] = D.str [y] → x = y := fun _ _ h => by cases h; rfl
theorem id_inj : ∀ x y : D, id x = id y → x = y := fun _ _ h => h
section
variable {X : Cx} {k : Nat} {H : List Addr} {env : Env} {N : Nat} {ρ : Ro} {μ : Mu} {R : Post}
theorem r_turn {ρ' : Ro} {μ' : Mu} (h : ∀ x d, ρ'.lookup x = some d → ρ.lookup x = some d) (h' : ∀ x d, μ'.lookup x = some d → μ.lookup x = some d) : Runs X k H env N ρ μ [] (Turn X k H env N ρ' μ' R) :=
  r_nil fun A s I => .inl ⟨.inl rfl, I.sub h h'⟩
theorem r_retV {e : PySem.Expr} {d : D} {pos : Pos} {rest : List Stmt} (he : EvsI X k H env N ρ μ e d) : Runs X k H env N ρ μ (.Return (some e) pos :: rest) (Ret H d) :=
  r_ret he fun A s v I i => ⟨v, rfl, i⟩
end
end Mine
end

section
set_option linter.unusedSectionVars false
open PySem PySem.W PyProof.Rows PySem.Calls
set_option Elab.async false
set_option linter.unusedVariables false
namespace Mine
section
variable {X : Cx} {k : Nat} {H : List Addr} {env : Env} {ρ : Ro}

/-- a built-in function, or a type, called -/
noncomputable def BCall (X : Cx) (k : Nat) (H : List Addr) (f : Value) (ds : List D) (d : D) : Prop := CallOk X k H f ds d
theorem ev_bcall {nm : Str} {p pos : Pos} {id : String} {e : PySem.Expr} {es : List PySem.Expr} {ds : List D} {d : D} (O : EnvOk env) (ha : EvsAll X k H env ρ (e :: es) ds) (hc : CallOk X k H (.builtin id) ds d)
    (hb : bootBuiltins nm = some (.builtin id) := by rfl) (hf : nm ∈ frees := by decide) (hk : env.kindOf nm = some .globalImplicit := by rfl) (hn : nm ≠ "__name__" := by decide) (hd : (nm == ("__debug__" : Str)) = false := by decide)
    (hse : backTo pos (starEach (e :: es) env) = (false, eval e env) :: backTo pos (starEach es env) := by rfl) (hpl : (backTo pos (starEach (e :: es) env)).any (·.1) = false := by rfl) : Evs X k H env ρ (.Call (.Name nm p) (e :: es) [] pos) d := by
  intro A s Q E G S0 hQ
  refine wpAny_Call_NameR (bi_name O G hk hf hn hb hd ?_)
  refine Calls.callWith_builtin hpl ?_
  rw [hse]
  refine Calls.evalArgs_plain ?_
  rw [← hse]
  exact ha A s pos _ E G S0 fun vs s1 i t => hc A s1 Q E vs (G.step t) i fun v s' iv t2 => hQ v s' iv (t.trans t2)
theorem ev_tcall {nm : Str} {p pos : Pos} {T : String} {e : PySem.Expr} {es : List PySem.Expr} {ds : List D} {d : D} (O : EnvOk env) (ha : EvsAll X k H env ρ (e :: es) ds) (hc : CallOk X k H (.type T) ds d)
    (hb : bootBuiltins nm = some (.type T) := by rfl) (hf : nm ∈ frees := by decide) (hk : env.kindOf nm = some .globalImplicit := by rfl) (hn : nm ≠ "__name__" := by decide) (hd : (nm == ("__debug__" : Str)) = false := by decide)
    (hse : backTo pos (starEach (e :: es) env) = (false, eval e env) :: backTo pos (starEach es env) := by rfl) (hpl : (backTo pos (starEach (e :: es) env)).any (·.1) = false := by rfl) : Evs X k H env ρ (.Call (.Name nm p) (e :: es) [] pos) d := by
  intro A s Q E G S0 hQ
  refine wpAny_Call_NameR (bi_name O G hk hf hn hb hd ?_)
  refine PySem.callWith_type hpl ?_
  rw [hse]
  refine Calls.evalArgs_plain ?_
  rw [← hse]
  exact ha A s pos _ E G S0 fun vs s1 i t => hc A s1 Q E vs (G.step t) i fun v s' iv t2 => hQ v s' iv (t.trans t2)

/-- a method of a built-in type -/
structure MethOk (T : String) (name : Str) (id : String) : Prop where
  pa : PlainAttrs T
  slot : Slot T name id
  ty : typeOf (.builtin id) = pure (.type "method_descriptor")
noncomputable def D.ty : D → Option String
  | .str _ => some "str"
  | .bytes _ => some "bytes"
  | .list _ => some "list"
  | _ => Option.none
theorem typeIs_of {F : Addr → Option Obj} {s : Shared} {H : List Addr} {d : D} {v : Value} {T : String} (i : Is (vis H s.heap) d v) (h : d.ty = some T) : s.TypeIs v T ∧ ∀ a, v = .ref a → ∃ ob, s.heap.get? a = some ob ∧ ob.dict = none := by
  cases d with
  | str l => cases h; obtain ⟨t, rfl⟩ := is_str.mp i; exact ⟨rfl, fun _ e => by cases e⟩
  | bytes l => cases h; obtain ⟨t, rfl⟩ := is_bytes.mp i; exact ⟨rfl, fun _ e => by cases e⟩
  | list l =>
    cases h
    obtain ⟨a, vs, rfl, ⟨n, la⟩, _⟩ := is_list.mp i
    exact ⟨⟨_, (vis_iff.mp la).2, rfl⟩, fun b e => by cases e; exact ⟨_, (vis_iff.mp la).2, rfl⟩⟩
  | _ => cases h
theorem ev_meth {o e : PySem.Expr} {es : List PySem.Expr} {name : Str} {apos pos : Pos} {T id : String} {a d : D} {ds : List D} (M : MethOk T name id) (ho : Evs X k H env ρ o a) (hT : a.ty = some T) (ha : EvsAll X k H env ρ (e :: es) ds)
    (hc : CallOk X k H (.builtin id) (a :: ds) d)
    (hbase : attributeBase o name env (eval o env) = eval o env := by rfl) (hline : (apos.endLine == pos.line) = true := by rfl)
    (hse : backTo pos (starEach (e :: es) env) = (false, eval e env) :: backTo pos (starEach es env) := by rfl) (hpl : (backTo pos (starEach (e :: es) env)).any (·.1) = false := by rfl)
    (hfew : ((backTo pos (starEach (e :: es) env)).all (fun x => !x.1) && (backToKw pos (keywordEach [] env)).all (fun x => x.1.isSome)
      && decide ((e :: es).length + ([] : List Keyword).length + (if ([] : List Keyword).isEmpty then 0 else 1) < 30)) = true := by rfl) :
    Evs X k H env ρ (.Call (.Attribute o name apos) (e :: es) [] pos) d := by
  intro A s Q E G S0 hQ
  refine wpAny_Call_method_lateS hbase hfew hline (ho A s _ E G S0 fun v1 s1 i1 t1 => ?_)
  have G1 := G.step t1
  have ty := typeIs_of (F := vis H s1.heap) i1 hT
  refine ⟨T, id, M.pa, M.slot, M.ty, ty.1, ty.2, ?_⟩
  refine Calls.callWith_builtin hpl ?_
  rw [hse]
  refine Calls.evalArgs_plain ?_
  rw [← hse]
  refine ha A s1 pos _ E G1 (S0.step G t1) fun vs s2 i2 t2 => ?_
  exact hc A s2 Q E (v1 :: vs) (G1.step t2) (isAll_cons.mpr ⟨v1, vs, rfl, i1.step G1 t2, i2⟩) fun v s' iv t3 => hQ v s' iv ((t1.trans t2).trans t3)

theorem isAll_one {F : Addr → Option Obj} {a : D} {vs : List Value} : IsAll F [a] vs ↔ ∃ v, vs = [v] ∧ Is F a v := by
  rw [isAll_cons]
  constructor
  · rintro ⟨v, vr, rfl, h1, h2⟩; rw [isAll_nil.mp h2]; exact ⟨v, rfl, h1⟩
  · rintro ⟨v, rfl, h1⟩; exact ⟨v, [], rfl, h1, isAll_nil.mpr rfl⟩
theorem isAll_two {F : Addr → Option Obj} {a b : D} {vs : List Value} : IsAll F [a, b] vs ↔ ∃ v u, vs = [v, u] ∧ Is F a v ∧ Is F b u := by
  rw [isAll_cons]
  constructor
  · rintro ⟨v, vr, rfl, h1, h2⟩; obtain ⟨u, rfl, h3⟩ := isAll_one.mp h2; exact ⟨v, u, rfl, h1, h3⟩
  · rintro ⟨v, u, rfl, h1, h2⟩; exact ⟨v, [u], rfl, h1, isAll_one.mpr ⟨u, rfl, h2⟩⟩
theorem isAll_three {F : Addr → Option Obj} {a b c : D} {vs : List Value} : IsAll F [a, b, c] vs ↔ ∃ v u w, vs = [v, u, w] ∧ Is F a v ∧ Is F b u ∧ Is F c w := by
  rw [isAll_cons]
  constructor
  · rintro ⟨v, vr, rfl, h1, h2⟩; obtain ⟨u, w, rfl, h4, h3⟩ := isAll_two.mp h2; exact ⟨v, u, w, rfl, h1, h4, h3⟩
  · rintro ⟨v, u, w, rfl, h1, h2, h3⟩; exact ⟨v, [u, w], rfl, h1, isAll_two.mpr ⟨u, w, rfl, h2, h3⟩⟩

theorem c_len_str {l : List Nat} (h : l.length < 2 ^ 62 := by omega) : CallOk X k H (.builtin "len") [.str l] (.int l.length) := by
  intro A s Q E vs G i hQ
  obtain ⟨v, rfl, i1⟩ := isAll_one.mp i
  obtain ⟨t, rfl⟩ := is_str.mp i1
  have e := S_length l
  exact P.len_str (by rw [e]; omega) (by rw [e]; exact hQ _ _ (is_int.mpr ⟨_, rfl⟩) (StepW.toks ..))
theorem c_len_list {l : List D} (h : l.length < 2 ^ 62 := by omega) : CallOk X k H (.builtin "len") [.list l] (.int l.length) := by
  intro A s Q E vs G i hQ
  obtain ⟨v, rfl, i1⟩ := isAll_one.mp i
  obtain ⟨a, us, rfl, la, iu⟩ := is_list.mp i1
  have e : us.toArray.size = l.length := by simp [iu.length]
  exact Calls.call_len_list la.heap (by rw [e]; omega) (by rw [e]; exact hQ _ _ (is_int.mpr ⟨_, rfl⟩) (StepW.toks ..))
theorem c_len_bytes {l : List UInt8} (h : l.length ≤ 1099511627776 := by omega) : CallOk X k H (.builtin "len") [.bytes l] (.int l.length) := by
  intro A s Q E vs G i hQ
  obtain ⟨v, rfl, i1⟩ := isAll_one.mp i
  obtain ⟨t, rfl⟩ := is_bytes.mp i1
  refine len_bytes (by simpa using h) ?_
  rw [show l.toArray.size = l.length by simp]
  exact hQ _ _ (is_int.mpr ⟨_, rfl⟩) (StepW.toks ..)
theorem c_ord {c : Nat} : CallOk X k H (.builtin "ord") [.str [c]] (.int c) := by
  intro A s Q E vs G i hQ
  obtain ⟨v, rfl, i1⟩ := isAll_one.mp i
  obtain ⟨t, rfl⟩ := is_str.mp i1
  exact ord_of_one rfl (hQ _ _ (is_int.mpr ⟨_, rfl⟩) (StepW.toks ..))
theorem c_chr {c : Nat} (h : c ≤ 1114111 := by omega) : CallOk X k H (.builtin "chr") [.int c] (.str [c]) := by
  intro A s Q E vs G i hQ
  obtain ⟨v, rfl, i1⟩ := isAll_one.mp i
  obtain ⟨t, rfl⟩ := is_int.mp i1
  exact chr_of_range (by omega) (by omega) (hQ _ _ (is_str.mpr ⟨_, rfl⟩) (StepW.toks ..))

/-! methods of texts -/
theorem m_find : MethOk "str" "find" "str.find" := ⟨F.plainAttrs_str, F.slot_str_find, by rfl⟩
theorem c_find3 {x y : List Nat} {i : Int} : CallOk X k H (.builtin "str.find") [.str x, .str y, .int i] (.int (Txt.find3 (S x) (S y) i)) := by
  intro A s Q E vs G i hQ
  obtain ⟨v, u, w, rfl, i1, i2, i3⟩ := isAll_three.mp i
  obtain ⟨t, rfl⟩ := is_str.mp i1
  obtain ⟨t2, rfl⟩ := is_str.mp i2
  obtain ⟨t3, rfl⟩ := is_int.mp i3
  exact SC.find3 (hQ _ _ (is_int.mpr ⟨_, rfl⟩) (StepW.toks ..))
end
end Mine
end

section
set_option linter.unusedSectionVars false
open PySem PySem.W PyProof.Rows PySem.Calls
set_option Elab.async false
set_option linter.unusedVariables false
namespace Mine
section
variable {X : Cx} {k : Nat} {H : List Addr} {env : Env} {ρ : Ro}
/-- a list of texts -/
noncomputable def texts (l : List (List Nat)) : D := .list (l.map .str)
noncomputable def intsD (l : List Int) : D := .list (l.map .int)

theorem strsAre {F : Addr → Option Obj} : ∀ {l : List (List Nat)} {vs : List Value}, IsAll F (l.map .str) vs → StrsAre vs (l.map S)
  | [], vs, h => by rw [isAll_nil.mp h]; exact .nil
  | x :: r, vs, h => by
    obtain ⟨v, vr, rfl, h1, h2⟩ := isAll_cons.mp h
    obtain ⟨t, rfl⟩ := is_str.mp h1
    exact .cons _ _ (strsAre h2)
theorem isAll_of_strs {F : Addr → Option Obj} : ∀ {l : List (List Nat)} {vs : List Value}, StrsAre vs (l.map S) → IsAll F (l.map .str) vs
  | [], _, h => by cases h; exact isAll_nil.mpr rfl
  | x :: r, _, h => by
    cases h with
    | cons y t h => exact isAll_cons.mpr ⟨_, _, rfl, is_str.mpr ⟨t, rfl⟩, isAll_of_strs h⟩
theorem intsAre {F : Addr → Option Obj} : ∀ {l : List Int} {vs : List Value}, IsAll F (l.map .int) vs → IntsAre vs l
  | [], vs, h => by rw [isAll_nil.mp h]; exact .nil
  | x :: r, vs, h => by
    obtain ⟨v, vr, rfl, h1, h2⟩ := isAll_cons.mp h
    obtain ⟨t, rfl⟩ := is_int.mp h1
    exact .cons _ _ (intsAre h2)
theorem strVals {F : Addr → Option Obj} : ∀ {l : List (List Nat)} {vs : List Value}, IsAll F (l.map .str) vs → ∃ ps : List (Str × Tok), vs = strValues ps ∧ ps.map (·.1) = l.map S
  | [], vs, h => ⟨[], isAll_nil.mp h, rfl⟩
  | x :: r, vs, h => by
    obtain ⟨v, vr, rfl, h1, h2⟩ := isAll_cons.mp h
    obtain ⟨t, rfl⟩ := is_str.mp h1
    obtain ⟨ps, rfl, e⟩ := strVals h2
    exact ⟨(S x, t) :: ps, rfl, by simp [e]⟩

/-! in -/
theorem any_beq_str (l : List (List Nat)) (x : List Nat) : ((l.map S).any (· == S x)) = decide (x ∈ l) := by
  induction l with
  | nil => simp
  | cons y r ih =>
    rw [List.map_cons, List.any_cons, ih, S_beq]
    by_cases h : y = x
    · simp [h]
    · have h' : ¬ x = y := fun q => h q.symm
      by_cases h2 : x ∈ r <;> simp [h, h', h2]
theorem cmp_in_texts {l : List (List Nat)} {x : List Nat} : Cmp X k H .In (.str x) (texts l) (decide (x ∈ l)) := by
  intro A s Q E va vb G ia ib hQ
  obtain ⟨t, rfl⟩ := is_str.mp ia
  obtain ⟨a, vs, rfl, la, iv⟩ := is_list.mp ib
  exact in_list_strs la.heap (strsAre iv) (by rw [any_beq_str]; exact hQ _ (StepW.refl ..))
theorem cmp_notin_texts {l : List (List Nat)} {x : List Nat} : Cmp X k H .NotIn (.str x) (texts l) (!decide (x ∈ l)) := by
  intro A s Q E va vb G ia ib hQ
  obtain ⟨t, rfl⟩ := is_str.mp ia
  obtain ⟨a, vs, rfl, la, iv⟩ := is_list.mp ib
  exact notin_list_strs la.heap (strsAre iv) (by rw [any_beq_str]; exact hQ _ (StepW.refl ..))
theorem cmp_in_tuple {l : List (List Nat)} {x : List Nat} : Cmp X k H .In (.str x) (.tuple (l.map .str)) (decide (x ∈ l)) := by
  intro A s Q E va vb G ia ib hQ
  obtain ⟨t, rfl⟩ := is_str.mp ia
  obtain ⟨a, vs, rfl, la, iv⟩ := is_tuple.mp ib
  exact in_tuple_strs la.heap (strsAre iv) (by rw [any_beq_str]; exact hQ _ (StepW.refl ..))

/-! join -/
noncomputable def glue (x : List Nat) : List (List Nat) → List Nat
  | [] => []
  | p :: r => r.foldl (fun acc q => acc ++ x ++ q) p
theorem glue_go (x : List Nat) : ∀ (r : List (List Nat)) (p : List Nat), (r.map S).foldl (fun acc q => acc ++ (S x).cps ++ q.cps) p.toArray = (r.foldl (fun acc q => acc ++ x ++ q) p).toArray
  | [], p => rfl
  | q :: r, p => by
    rw [List.map_cons, List.foldl_cons, List.foldl_cons, ← glue_go x r]
    simp
theorem glue_eq (x : List Nat) (l : List (List Nat)) : Txt.join (S x) (l.map S) = S (glue x l) := by
  cases l with
  | nil => rfl
  | cons p r =>
    show (⟨(((p :: r).map S).drop 1).foldl (fun acc q => acc ++ (S x).cps ++ q.cps) (((p :: r).map S).headD Str.empty).cps⟩ : Str) = _
    rw [List.map_cons, List.drop_one, List.tail_cons, List.headD_cons, glue_go]; rfl
theorem m_join : MethOk "str" "join" "str.join" := ⟨F.plainAttrs_str, F.slot_str_join, by rfl⟩
theorem c_join {x : List Nat} {l : List (List Nat)} (h : (l.map List.length).sum + l.length ≤ 1048576) (hx : x.length ≤ 16) : CallOk X k H (.builtin "str.join") [.str x, texts l] (.str (glue x l)) := by
  intro A s Q E vs G i hQ
  obtain ⟨v, u, rfl, i1, i2⟩ := isAll_two.mp i
  obtain ⟨t, rfl⟩ := is_str.mp i1
  obtain ⟨a, us, rfl, la, iu⟩ := is_list.mp i2
  obtain ⟨ps, rfl, e⟩ := strVals iu
  refine SC.join la.heap e (joinOk_of_weight ?_ (by rw [S_length]; exact hx)) fun t' k => ?_
  · have : (l.map S).map (·.length) = l.map List.length := by rw [List.map_map]; exact List.map_congr_left fun y _ => S_length y
    rw [this, List.length_map]; exact h
  · rw [glue_eq]
    exact hQ _ _ (is_str.mpr ⟨_, rfl⟩) (StepW.toks ..)

/-! sums, least ones -/
theorem Good.in1 {A : Around} {s : Shared} (G : Good X (k + 1) H A s) : Good X k H A.in1 s :=
  ⟨⟨fun _ => G.ok.handled (Nat.succ_ne_zero _), by have := G.ok.depth; show A.depth + k < _; omega, by have := G.ok.units; show A.units + 1 + 20 * k < _; omega⟩, G.base, G.hid, G.fr⟩
theorem iter_ints {A : Around} {s : Shared} {l : List Int} {v : Value} {Q : Value → Shared → Prop} {E : Value → Shared → Prop} (G : Good X (k + 1) H A s) (i : Is (vis H s.heap) (intsD l) v)
    (hQ : ∀ (a : Addr) (us : List Value) (I : Addr), s.heap.IsList a us.toArray → us.toArray.size = l.length → (∀ (j : Nat) (v : Value), us[j]? = some v → ∃ t, v = Value.int (l.getD j 0) t) → Walks X.prog X.w A I [I, a] [I] us.toArray.size (fun i v => us.toArray[i]? = some v) (fun i h => h.IsListIter I a i ∧ h.IsList a us.toArray) → I = s.heap.objs.size →
      Q (.ref I) { s with heap := s.heap.push { cls := .type "list_iterator", data := .fields #[.ref a, .int 0 0] } }) : wpAny X.M A (pyIter v) Q E s := by
  obtain ⟨a, us, rfl, la, iu⟩ := is_list.mp i
  have hne : a ≠ s.heap.objs.size := fun q => by
    obtain ⟨o, e, _⟩ := la.heap
    rw [q, get_size_none] at e; cases e
  refine wpAny_pyIter_list la.heap (hQ a us _ la.heap (by simp [iu.length]) (fun j v hj => ?_) (Walks.list (G.ok.handled (Nat.succ_ne_zero _)) _ a hne us.toArray) rfl)
  obtain ⟨d, hd, iv⟩ := iu.get' hj
  rw [List.getElem?_map] at hd
  cases e : l[j]? with
  | none => rw [e] at hd; cases hd
  | some n =>
    rw [e] at hd; cases hd
    obtain ⟨t, rfl⟩ := is_int.mp iv
    exact ⟨t, by simp [List.getD, e]⟩
theorem c_sum {l : List Int} : CallOk X (k + 2) H (.builtin "sum") [intsD l] (.int l.sum) := by
  intro A s Q E vs G i hQ
  obtain ⟨v, rfl, i1⟩ := isAll_one.mp i
  refine call_sum_walkG (iter_ints G.in1 i1 (fun a us I la hsz hv W hI => ?_))
  subst hI
  refine ⟨_, [s.heap.objs.size, a], [s.heap.objs.size], us.toArray.size, _, _, fun j => l.getD j 0, rfl, W, ⟨⟨_, Heap.get?_push_size _ rfl, rfl, rfl⟩, la.push _⟩, ?_, fun j v hj => hv j v (by simpa using hj), fun h' tk t' hk => ?_⟩
  · intro b hb
    show b < (s.heap.push _).objs.size
    rw [Heap.size_push]
    rcases List.mem_cons.mp hb with rfl | hb
    · exact Nat.lt_succ_self _
    · rw [List.mem_singleton.mp hb]
      obtain ⟨o, e, _⟩ := la
      exact Nat.lt_succ_of_lt (Heap.lt_size e)
  · rw [hsz, preSum_getD, List.take_length]
    refine hQ _ _ (is_int.mpr ⟨_, rfl⟩) (.keeps fun b o e => hk b o ?_ (Heap.get?_push_of_some _ e))
    intro q
    rw [List.mem_singleton.mp q, get_size_none] at e; cases e
theorem c_min2 {a b : Int} : CallOk X (k + 1) H (.builtin "min") [.int a, .int b] (.int (min a b)) := by
  intro A s Q E vs G i hQ
  obtain ⟨v, u, rfl, i1, i2⟩ := isAll_two.mp i
  obtain ⟨t, rfl⟩ := is_int.mp i1
  obtain ⟨t2, rfl⟩ := is_int.mp i2
  refine min_two_ints (G.ok.handled (Nat.succ_ne_zero _)) fun h' tk hk => hQ _ _ (is_int.mpr ?_) (.keeps hk)
  by_cases c : b < a
  · rw [if_pos c]; exact ⟨t2, by rw [Int.min_eq_right (by omega)]⟩
  · rw [if_neg c]; exact ⟨t, by rw [Int.min_eq_left (by omega)]⟩

/-! sorted -/
theorem c_sorted {l : List (List Nat)} {l' : List (List Nat)} (hlen : l.length < 64) (hu : ∀ m : List (List Nat), m.Perm l → sortedS (m.map S) = true → m = l') : CallOk X k H (.builtin "sorted") [texts l] (texts l') := by
  intro A s Q E vs G i hQ
  obtain ⟨v, rfl, i1⟩ := isAll_one.mp i
  obtain ⟨a, us, rfl, la, iu⟩ := is_list.mp i1
  refine sorted_strs la.heap (strsAre iu) (by rw [iu.length]; simpa using hlen) fun out ss' h1 h2 h3 => ?_
  obtain ⟨m, hm⟩ : ∃ m : List (List Nat), ss' = m.map S := ⟨ss'.map fun s => s.cps.toList, by rw [List.map_map]; exact ((List.map_congr_left fun s _ => rfl).trans (List.map_id _)).symm⟩
  subst hm
  have hp : m.Perm l := by
    have := h2.map (fun s : Str => s.cps.toList)
    simpa [List.map_map, Function.comp_def] using this
  have hml := hu m hp h3
  subst hml
  obtain ⟨e, he⟩ := sortedAll_at s.heap us out
  have t : Step X s { s with heap := sortedAll s.heap us out } := .ofH (Ext.of fun _ _ => sortedAll_old)
  refine hQ _ _ (is_list.mpr ⟨_, out.toList, rfl, ⟨e, vis_iff.mpr ⟨G.fresh (Nat.le_succ _), by simpa using he⟩⟩, isAll_of_strs h1⟩) t

/-! bytes of ints -/
theorem c_bytes {l : List Nat} (h : ∀ n ∈ l, n < 256) (hz : l.length ≤ sizeLine) : CallOk X (k + 1) H (.type "bytes") [.list (l.map fun n : Nat => D.int (n : Int))] (.bytes (l.map Nat.toUInt8)) := by
  intro A s Q E vs G i hQ
  obtain ⟨v, rfl, i1⟩ := isAll_one.mp i
  obtain ⟨a, us, rfl, la, iu⟩ := is_list.mp i1
  have hi : IntsAre us (l.map fun n : Nat => (n : Int)) := intsAre (F := vis H s.heap) (by rw [List.map_map]; exact iu)
  refine call_bytes_ints la.heap hi (fun n hn => ?_) (by rw [iu.length]; simpa using hz) (G.ok.handled (Nat.succ_ne_zero _)) fun h' t k hk => ?_
  · obtain ⟨m, hm, rfl⟩ := List.mem_map.mp hn
    have := h m hm; omega
  · refine hQ _ _ (is_bytes.mpr ⟨t, ?_⟩) (.keeps hk)
    unfold byteArr
    rw [List.map_map]
    rfl
theorem bin_catB {a b : List UInt8} (h : a.length + b.length ≤ 16777216) : Bin X k H .Add (.bytes a) (.bytes b) (.bytes (a ++ b)) := by
  intro A s Q E va vb G ia ib hQ
  obtain ⟨t, rfl⟩ := is_bytes.mp ia
  obtain ⟨u, rfl⟩ := is_bytes.mp ib
  refine KBy.add_bytes (by simpa using h) fun t' k => ?_
  exact hQ _ _ (is_bytes.mpr ⟨t', by simp⟩) (StepW.toks ..)
/-! the digits of an int -/
theorem c_str_int {n : Int} (h : n.natAbs.log2 < 1920) : CallOk X k H (.type "str") [.int n] (.str (T (Str.ofString (toString n)))) := by
  intro A s Q E vs G i hQ
  obtain ⟨v, rfl, i1⟩ := isAll_one.mp i
  obtain ⟨t, rfl⟩ := is_int.mp i1
  exact P.str_of_int h (hQ _ _ (is_str.mpr ⟨_, rfl⟩) (StepW.toks ..))
end
end Mine
end

section
set_option linter.unusedSectionVars false
open PySem PySem.W PyProof.Rows PySem.Calls
set_option Elab.async false
set_option linter.unusedVariables false
namespace Mine
/-! data compared -/
mutual
noncomputable def D.py : D → PyData
  | .none => .none
  | .bool b => .bool b
  | .int i => .int i
  | .str x => .str (S x)
  | .list l => .list (D.pyAll l)
  | .tuple l => .tuple (D.pyAll l)
  | .bytes _ => .none
  | .addr _ => .none
  | .bound .. => .none
noncomputable def D.pyAll : List D → List PyData
  | [] => []
  | d :: r => d.py :: D.pyAll r
end
mutual
/-- data that Python compares deeply -/
noncomputable def D.ok : D → Bool
  | .none => true
  | .bool _ => true
  | .int _ => true
  | .str x => x.all (· < 0x110000)
  | .list l => D.okAll l
  | .tuple l => D.okAll l
  | .bytes _ => false
  | .addr _ => false
  | .bound .. => false
noncomputable def D.okAll : List D → Bool
  | [] => true
  | d :: r => d.ok && D.okAll r
end
mutual
theorem is_reads {h : Heap} {F : Addr → Option Obj} (hF : ∀ a o, F a = some o → h.get? a = some o) : ∀ {d : D} {v : Value}, d.ok = true → Is F d v → ∃ as, Reads h v d.py as
  | .none, v, _, i => ⟨[], by rw [is_none.mp i, D.py]; exact .none⟩
  | .bool b, v, _, i => ⟨[], by rw [is_bool.mp i, D.py]; exact .bool _⟩
  | .int n, v, _, i => ⟨[], by obtain ⟨t, rfl⟩ := is_int.mp i; rw [D.py]; exact .int _ _⟩
  | .str x, v, _, i => ⟨[], by obtain ⟨t, rfl⟩ := is_str.mp i; rw [D.py]; exact .str _ _⟩
  | .list l, v, ok, i => by
    obtain ⟨a, vs, rfl, ⟨n, e⟩, iv⟩ := is_list.mp i
    obtain ⟨as, r⟩ := is_readsAll hF (by rw [D.ok] at ok; exact ok) iv
    exact ⟨a :: as, by rw [D.py]; exact .list (hF _ _ e) rfl rfl (by simpa using r)⟩
  | .tuple l, v, ok, i => by
    obtain ⟨a, vs, rfl, ⟨n, e⟩, iv⟩ := is_tuple.mp i
    obtain ⟨as, r⟩ := is_readsAll hF (by rw [D.ok] at ok; exact ok) iv
    exact ⟨as, by rw [D.py]; exact .tuple (hF _ _ e) rfl rfl (by simpa using r)⟩
  | .bytes _, v, ok, _ => by simp [D.ok] at ok
  | .addr _, v, ok, _ => by simp [D.ok] at ok
  | .bound .., v, ok, _ => by simp [D.ok] at ok
theorem is_readsAll {h : Heap} {F : Addr → Option Obj} (hF : ∀ a o, F a = some o → h.get? a = some o) : ∀ {l : List D} {vs : List Value}, D.okAll l = true → IsAll F l vs → ∃ as, ReadsAll h vs (D.pyAll l) as
  | [], vs, _, i => ⟨[], by rw [isAll_nil.mp i, D.pyAll]; exact .nil⟩
  | d :: r, vs, ok, i => by
    rw [D.okAll, Bool.and_eq_true] at ok
    obtain ⟨v, vr, rfl, i1, i2⟩ := isAll_cons.mp i
    obtain ⟨as, h1⟩ := is_reads hF ok.1 i1
    obtain ⟨bs, h2⟩ := is_readsAll hF ok.2 i2
    exact ⟨as ++ bs, by rw [D.pyAll]; exact .cons h1 h2⟩
end
mutual
theorem canLay_py : ∀ {d : D}, d.ok = true → d.py.canLay0 = true
  | .none, _ => by rw [D.py, PyData.canLay0]
  | .bool b, _ => by rw [D.py, PyData.canLay0]
  | .int n, _ => by rw [D.py, PyData.canLay0]
  | .str x, ok => by rw [D.py, PyData.canLay0, PyData.strOk]; rw [D.ok] at ok; simpa using ok
  | .list l, ok => by rw [D.py, PyData.canLay0]; exact canLayAll_py (by rw [D.ok] at ok; exact ok)
  | .tuple l, ok => by rw [D.py, PyData.canLay0]; exact canLayAll_py (by rw [D.ok] at ok; exact ok)
  | .bytes _, ok => by simp [D.ok] at ok
  | .addr _, ok => by simp [D.ok] at ok
  | .bound .., ok => by simp [D.ok] at ok
theorem canLayAll_py : ∀ {l : List D}, D.okAll l = true → PyData.canLayAll0 (D.pyAll l) = true
  | [], _ => by rw [D.pyAll, PyData.canLayAll0]
  | d :: r, ok => by
    rw [D.okAll, Bool.and_eq_true] at ok
    rw [D.pyAll, PyData.canLayAll0, canLay_py ok.1, canLayAll_py ok.2]; rfl
end
mutual
theorem eqv_refl : ∀ d : PyData, d.canLay0 = true → PyData.eqv d d = true
  | .none, _ => by rw [PyData.eqv]
  | .bool b, _ => by rw [PyData.eqv]; simp
  | .int n, _ => by rw [PyData.eqv]; simp
  | .str x, _ => by rw [PyData.eqv]; simp
  | .list l, ok => by rw [PyData.eqv]; exact eqvAll_refl l (by rw [PyData.canLay0] at ok; exact ok)
  | .tuple l, ok => by rw [PyData.eqv]; exact eqvAll_refl l (by rw [PyData.canLay0] at ok; exact ok)
  | .dict _, ok => by simp [PyData.canLay0] at ok
theorem eqvAll_refl : ∀ l : List PyData, PyData.canLayAll0 l = true → PyData.eqvAll l l = true
  | [], _ => by rw [PyData.eqvAll]
  | d :: r, ok => by
    rw [PyData.canLayAll0, Bool.and_eq_true] at ok
    rw [PyData.eqvAll, eqv_refl d ok.1, eqvAll_refl r ok.2]; rfl
end
theorem eqv_texts : ∀ (a b : List (List Nat)), PyData.eqvAll (D.pyAll (a.map .str)) (D.pyAll (b.map .str)) = decide (a = b)
  | [], [] => by simp [D.pyAll, PyData.eqvAll]
  | [], _ :: _ => by simp [D.pyAll, PyData.eqvAll]
  | _ :: _, [] => by simp [D.pyAll, PyData.eqvAll]
  | x :: a, y :: b => by
    rw [List.map_cons, List.map_cons, D.pyAll, D.pyAll, PyData.eqvAll, eqv_texts a b, D.py, D.py, PyData.eqv, S_beq]
    by_cases h : x = y <;> by_cases h2 : a = b <;> simp [h, h2]
section
variable {X : Cx} {k : Nat} {H : List Addr} {env : Env} {ρ : Ro}
theorem cmp_eq_data {a b : D} (ha : a.ok = true) (hb : b.ok = true) (da : a.py.depth ≤ 64) (db : b.py.depth ≤ 64) : Cmp X (k + 8) H .Eq a b (PyData.eqv a.py b.py) := by
  intro A s Q E va vb G ia ib hQ
  obtain ⟨as, ra⟩ := is_reads (h := s.heap) (fun a o e => (vis_iff.mp e).2) ha ia
  obtain ⟨bs, rb⟩ := is_reads (h := s.heap) (fun a o e => (vis_iff.mp e).2) hb ib
  exact eq_dataH ra rb (by unfold SeqAt.shaped; rw [canLay_py ha]; simpa using da) (by unfold SeqAt.shaped; rw [canLay_py hb]; simpa using db) (by have := G.ok.units; omega) (hQ _ (StepW.refl ..))
theorem cmp_ne_data {a b : D} (ha : a.ok = true) (hb : b.ok = true) (da : a.py.depth ≤ 64) (db : b.py.depth ≤ 64) : Cmp X (k + 8) H .NotEq a b (!PyData.eqv a.py b.py) := by
  intro A s Q E va vb G ia ib hQ
  obtain ⟨as, ra⟩ := is_reads (h := s.heap) (fun a o e => (vis_iff.mp e).2) ha ia
  obtain ⟨bs, rb⟩ := is_reads (h := s.heap) (fun a o e => (vis_iff.mp e).2) hb ib
  exact ne_dataH ra rb (by unfold SeqAt.shaped; rw [canLay_py ha]; simpa using da) (by unfold SeqAt.shaped; rw [canLay_py hb]; simpa using db) (by have := G.ok.units; omega) (hQ _ (StepW.refl ..))
theorem cmp_ne_same {a : D} (ha : a.ok = true) (da : a.py.depth ≤ 64) : Cmp X (k + 8) H .NotEq a a false := by
  have := cmp_ne_data (X := X) (k := k) (H := H) ha ha da da
  rwa [eqv_refl _ (canLay_py ha)] at this
theorem cmp_eq_same {a : D} (ha : a.ok = true) (da : a.py.depth ≤ 64) : Cmp X (k + 8) H .Eq a a true := by
  have := cmp_eq_data (X := X) (k := k) (H := H) ha ha da da
  rwa [eqv_refl _ (canLay_py ha)] at this
theorem texts_depth : ∀ l : List (List Nat), PyData.depthAll (D.pyAll (l.map .str)) = 0
  | [] => by rw [List.map_nil, D.pyAll, PyData.depthAll]
  | x :: r => by rw [List.map_cons, D.pyAll, PyData.depthAll, texts_depth r, D.py, PyData.depth]; rfl
theorem texts_ok : ∀ {l : List (List Nat)}, (∀ x ∈ l, ∀ c ∈ x, c < 0x110000) → D.okAll (l.map .str) = true
  | [], _ => by rw [List.map_nil, D.okAll]
  | x :: r, h => by
    rw [List.map_cons, D.okAll, D.ok, texts_ok fun y hy => h y (List.mem_cons_of_mem _ hy)]
    simpa using h x (List.mem_cons_self ..)
theorem cmp_ne_texts {a b : List (List Nat)} (ha : ∀ x ∈ a, ∀ c ∈ x, c < 0x110000) (hb : ∀ x ∈ b, ∀ c ∈ x, c < 0x110000) : Cmp X (k + 8) H .NotEq (texts a) (texts b) (!decide (a = b)) := by
  have := cmp_ne_data (X := X) (k := k) (H := H) (a := texts a) (b := texts b) (by rw [texts, D.ok]; exact texts_ok ha) (by rw [texts, D.ok]; exact texts_ok hb)
    (by rw [texts, D.py, PyData.depth, texts_depth]; decide) (by rw [texts, D.py, PyData.depth, texts_depth]; decide)
  rwa [texts, texts, D.py, D.py, PyData.eqv, eqv_texts] at this
theorem cmp_eq_texts {a b : List (List Nat)} (ha : ∀ x ∈ a, ∀ c ∈ x, c < 0x110000) (hb : ∀ x ∈ b, ∀ c ∈ x, c < 0x110000) : Cmp X (k + 8) H .Eq (texts a) (texts b) (decide (a = b)) := by
  have := cmp_eq_data (X := X) (k := k) (H := H) (a := texts a) (b := texts b) (by rw [texts, D.ok]; exact texts_ok ha) (by rw [texts, D.ok]; exact texts_ok hb)
    (by rw [texts, D.py, PyData.depth, texts_depth]; decide) (by rw [texts, D.py, PyData.depth, texts_depth]; decide)
  rwa [texts, texts, D.py, D.py, PyData.eqv, eqv_texts] at this

/-! the least of a list -/
theorem c_min {l : List Int} {m : Int} (hm : m ∈ l) (hl : ∀ a ∈ l, m ≤ a) : CallOk X (k + 2) H (.builtin "min") [intsD l] (.int m) := by
  intro A s Q E vs G i hQ
  obtain ⟨v, rfl, i1⟩ := isAll_one.mp i
  have hpos : 0 < l.length := List.length_pos_of_mem hm
  refine call_min_walk (iter_ints G.in1 i1 (fun a us I la hsz hv W hI => ?_))
  subst hI
  refine ⟨_, [s.heap.objs.size, a], [s.heap.objs.size], us.toArray.size, _, _, fun i j => decide (l.getD i 0 < l.getD j 0), rfl, W, ⟨⟨_, Heap.get?_push_size _ rfl, rfl, rfl⟩, la.push _⟩, ?_, by rw [hsz]; exact hpos, CmpOf.ints_lt (fun j => l.getD j 0) (fun j v hj => hv j v (by simpa using hj)), fun v h' tk hv' hk => ?_⟩
  · intro b hb
    show b < (s.heap.push _).objs.size
    rw [Heap.size_push]
    rcases List.mem_cons.mp hb with rfl | hb
    · exact Nat.lt_succ_self _
    · rw [List.mem_singleton.mp hb]
      obtain ⟨o, e, _⟩ := la
      exact Nat.lt_succ_of_lt (Heap.lt_size e)
  · have hv2 := hv'
    rw [List.getElem?_toArray] at hv2
    obtain ⟨t, rfl⟩ := hv _ v hv2
    rw [hsz]
    obtain ⟨h1, h2⟩ := argBest_lt (fun j => l.getD j 0) (l.length - 1)
    have hlt : argBest (fun i j => decide (l.getD i 0 < l.getD j 0)) (l.length - 1) < l.length := by omega
    have e : l.getD (argBest (fun i j => decide (l.getD i 0 < l.getD j 0)) (l.length - 1)) 0 = m := by
      apply Int.le_antisymm
      · obtain ⟨j, hj, rfl⟩ := List.mem_iff_getElem.mp hm
        have := h2 j (by omega)
        simpa [List.getD, hj] using this
      · refine hl _ ?_
        rw [List.getD_eq_getElem?_getD, List.getElem?_eq_getElem hlt]
        exact List.getElem_mem hlt
    refine hQ _ _ (is_int.mpr ⟨t, by rw [e]⟩) (.keeps fun b o e => hk b o ?_ (Heap.get?_push_of_some _ e))
    intro q
    rw [List.mem_singleton.mp q, get_size_none] at e; cases e

/-! index -/
theorem m_index : MethOk "list" "index" "list.index" := ⟨F.plainAttrs_list, F.slot_list_index, by rfl⟩
theorem c_index {l : List (List Nat)} {x : List Nat} (hx : x ∈ l) (hl : l.length < 2 ^ 62 := by omega) : CallOk X k H (.builtin "list.index") [texts l, .str x] (.int (l.idxOf x)) := by
  intro A s Q E vs G i hQ
  obtain ⟨v, u, rfl, i1, i2⟩ := isAll_two.mp i
  obtain ⟨a, us, rfl, ⟨n, la⟩, iu⟩ := is_list.mp i1
  obtain ⟨t, rfl⟩ := is_str.mp i2
  have hs := strsAre iu
  have hlen : us.length = l.length := by simpa using iu.length
  have hj : l.idxOf x < l.length := List.idxOf_lt_length_iff.mpr hx
  have val : ∀ m (hm : m < us.length), isStrOf (S x) us[m] = decide (l[m]'(hlen ▸ hm) = x) := by
    intro m hm
    obtain ⟨d, hd, iv⟩ := iu.get' (i := m) (v := us[m]) (List.getElem?_eq_getElem hm)
    rw [List.getElem?_map, List.getElem?_eq_getElem (hlen ▸ hm)] at hd
    cases hd
    obtain ⟨t', e⟩ := is_str.mp iv
    rw [e]
    show (S _ == S x) = _
    rw [S_beq]
  refine call_meets F.slot_list_index (T := "list") ⟨_, (vis_iff.mp la).2, rfl⟩ F.entry_list_index (F.args_list_index_2 _ _)
    (MeetsSeq.list_index a us.toArray n (.str (S x) t) (isStrOf (S x)) (fun y hy => eq_isStrOf (S x) t hs y (by simpa using hy)) (l.idxOf x) (by simpa [hlen] using hj) (by omega) ?_ ?_) ⟨(vis_iff.mp la).2, ?_⟩
  · have := val (l.idxOf x) (by omega)
    simp only [List.getElem_toArray, this]
    simp
  · intro m hm hlt
    simp only [List.getElem_toArray]
    rw [val m (by simpa using hm)]
    simp only [decide_eq_false_iff_not]
    have := List.not_of_lt_findIdx (p := (· == x)) (xs := l) (i := m) (by simpa [List.idxOf] using hlt)
    simpa using this
  · exact hQ _ _ (is_int.mpr ⟨_, rfl⟩) (StepW.toks ..)
end
end Mine
end

section
set_option linter.unusedSectionVars false
open PySem PySem.W PyProof.Rows PySem.Calls
set_option Elab.async false
set_option linter.unusedVariables false
namespace Mine
section
variable {X : Cx} {k : Nat} {H : List Addr} {env : Env} {N : Nat} {ρ : Ro} {μ : Mu} {rest : List Stmt} {R : Post} {a : Addr}

theorem vis_open (h : Heap) : SeqSub (vis (a :: H) h) (vis H h) := fun b o e _ => by
  obtain ⟨h1, h2⟩ := vis_iff.mp e
  exact vis_iff.mpr ⟨fun q => h1 (List.mem_cons_of_mem _ q), h2⟩
theorem Good.open {A : Around} {s : Shared} (G : Good X k (a :: H) A s) : Good X k H A s := ⟨G.ok, G.base, fun b hb => G.hid b (List.mem_cons_of_mem _ hb), G.fr⟩
theorem Sees.open {s : Shared} (S0 : Sees (a :: H) env s.heap ρ) : Sees H env s.heap ρ := fun x d hx => let ⟨v, l, i⟩ := S0 x d hx; ⟨v, l, i.mono (vis_open _)⟩
/-- what an owned list holds, as a datum -/
theorem Inv.list {A : Around} {s : Shared} {ds : List D} {y : Str} (I : Inv X k (a :: H) A env N ρ μ s) (ha : a ∉ H) (hy : ρ.lookup y = some (.addr a)) (hm : μ.lookup a = some ds) : Sees H env s.heap ((y, .list ds) :: ρ) := by
  intro x d hx
  by_cases hxy : x = y
  · subst hxy
    rw [lookup_cons_self] at hx; cases hx
    obtain ⟨v, l, i⟩ := I.sees x _ hy
    rw [is_addr.mp i] at l
    obtain ⟨_, _, ys, ⟨n, e⟩, iy⟩ := I.lists a ds hm
    exact ⟨_, l, is_list.mpr ⟨a, ys.toList, rfl, ⟨n, vis_iff.mpr ⟨ha, e⟩⟩, iy.mono (vis_open _)⟩⟩
  · rw [lookup_cons_ne hxy] at hx
    exact I.sees.open x d hx
theorem evs_open {e : PySem.Expr} {d : D} {ds : List D} {y : Str} (ha : a ∉ H) (hy : ρ.lookup y = some (.addr a)) (hm : μ.lookup a = some ds) (he : Evs X k H env ((y, .list ds) :: ρ) e d) (hf : d.flat = true := by rfl) : EvsI X k (a :: H) env N ρ μ e d :=
  fun A s Q E I hQ => he A s Q E I.good.open (I.list ha hy hm) fun v s' i t => hQ v s' (i.flat hf) t
theorem tst_open {e : PySem.Expr} {b : Bool} {ds : List D} {y : Str} (ha : a ∉ H) (hy : ρ.lookup y = some (.addr a)) (hm : μ.lookup a = some ds) (he : Tst X k H env ((y, .list ds) :: ρ) e b) : TstI X k (a :: H) env N ρ μ e b :=
  fun A s Q E I hQ => he A s Q E I.good.open (I.list ha hy hm) hQ

/-- a new list of the frame's own -/
theorem r_own {y : Str} {p p2 pos : Pos} (h : ∀ a, a ∉ H → Runs X k (a :: H) env N ((y, .addr a) :: ρ) ((a, []) :: μ) rest R) (hy : canBind env y = true := by rfl) : Runs X k H env N ρ μ (.Assign [.Name y p] (.List [] p2) pos :: rest) R := by
  intro A s Q E I hQ
  refine wpAny_execs_cons (wpAny_Assign_Name (wpAny_List (wpAny_items_nil ⟨by decide, ?_⟩)) rfl)
  have hfr : s.heap.objs.size ∉ H := I.good.fresh (Nat.le_refl _)
  have keep : ∀ b o, s.heap.get? b = some o → (s.heap.push { cls := .type "list", data := .seq ([] : List Value).toArray }).get? b = some o := fun b o e => Heap.get?_push_of_some _ e
  have ea : (s.heap.push { cls := .type "list", data := .seq ([] : List Value).toArray }).get? s.heap.objs.size = some { cls := .type "list", data := .seq ([] : List Value).toArray } := Heap.get?_push_size _ rfl
  have t : Step X s { s with heap := s.heap.push { cls := .type "list", data := .seq ([] : List Value).toArray } } := new_seq
  have sq : SeqSub (vis H s.heap) (vis (s.heap.objs.size :: H) (s.heap.push { cls := .type "list", data := .seq ([] : List Value).toArray })) := fun b o e _ => by
    obtain ⟨h1, h2⟩ := vis_iff.mp e
    refine vis_iff.mpr ⟨fun q => ?_, keep b o h2⟩
    rcases List.mem_cons.mp q with rfl | q
    · rw [get_size_none] at h2; cases h2
    · exact h1 q
  have I1 := I.step t
  have I2 : Inv X k (s.heap.objs.size :: H) A env N ρ ((s.heap.objs.size, []) :: μ) { s with heap := s.heap.push { cls := .type "list", data := .seq ([] : List Value).toArray } } := by
    refine ⟨I.fr, ⟨I1.good.ok, I1.good.base, fun b hb => ?_, I1.good.fr⟩, fun x d hx => ?_, I1.loc, I1.cell, I1.own, fun b ds hb => ?_⟩
    · rcases List.mem_cons.mp hb with rfl | hb
      · exact ⟨_, ea, by intro _ q; cases q⟩
      · exact I1.good.hid b hb
    · obtain ⟨v, l, i⟩ := I.sees x d hx
      exact ⟨v, l.ext I.good.base t.ext, i.mono sq⟩
    · rw [List.lookup_cons] at hb
      cases q : b == s.heap.objs.size with
      | true =>
        rw [q] at hb; cases hb
        rw [beq_iff_eq.mp q]
        refine ⟨List.mem_cons_self .., ?_, #[], ⟨_, ea⟩, isAll_nil.mpr rfl⟩
        obtain ⟨m, o, _, _, e, _⟩ := I.loc
        exact Nat.le_trans I.fr.loc (Nat.le_of_lt (Heap.lt_size e))
      | false =>
        rw [q] at hb
        obtain ⟨h1, h2, ys, ⟨n, h3⟩, h4⟩ := I.lists b ds hb
        exact ⟨List.mem_cons_of_mem _ h1, h2, ys, ⟨n, keep _ _ h3⟩, h4.mono sq⟩
  refine I2.bind (d := .addr s.heap.objs.size) hy (is_addr.mpr rfl) fun s2 t2 I3 => ?_
  refine h _ hfr A s2 Q E I3 fun f s3 t3 r => hQ f s3 ?_ r
  refine ((t.no (W := Wr env (s.heap.objs.size :: H) N)).trans (t2.trans t3)).monoAt fun b o e hb => ?_
  obtain ⟨h1, h2⟩ := hb
  refine ⟨h1, h2.imp id (Or.imp id fun h2 => ?_)⟩
  rcases List.mem_cons.mp h2 with rfl | h2
  · rw [get_size_none] at e; cases e
  · exact h2
theorem r_open {μ' : Mu} {ρ' : Ro} (h : Runs X k H env N ρ' μ' rest R) (hI : ∀ A s, Inv X k (a :: H) A env N ρ μ s → Inv X k H A env N ρ' μ' s) : Runs X k (a :: H) env N ρ μ rest R :=
  fun A s Q E I hQ => h A s Q E (hI A s I) fun f s' t r => hQ f s' (t.mono fun b hb => ⟨hb.1, hb.2.imp id (Or.imp id (List.mem_cons_of_mem _))⟩) r
/-- the list is done: a datum from here on -/
theorem r_disown {y : Str} {ds : List D} (ha : a ∉ H) (hy : ρ.lookup y = some (.addr a)) (hm : μ.lookup a = some ds) (h : Runs X k H env N ((y, .list ds) :: ρ) [] rest R) : Runs X k (a :: H) env N ρ μ rest R :=
  r_open h fun A s I => ⟨I.fr, I.good.open, I.list ha hy hm, I.loc, I.cell, I.own, fun b ds' hb => by cases hb⟩
theorem r_disown1 {b : Addr} {y : Str} {ds es : List D} (ha : a ∉ H) (hab : b ≠ a) (hy : ρ.lookup y = some (.addr a)) (hm : μ.lookup a = some ds) (hm2 : μ.lookup b = some es) (h : Runs X k H env N ((y, .list ds) :: ρ) [(b, es)] rest R) : Runs X k (a :: H) env N ρ μ rest R :=
  r_open h fun A s I => ⟨I.fr, I.good.open, I.list ha hy hm, I.loc, I.cell, I.own, fun c ds' hc => by
    rw [List.lookup_cons] at hc
    cases q : c == b with
    | false => rw [q] at hc; cases hc
    | true =>
      rw [q] at hc; cases hc
      rw [beq_iff_eq.mp q]
      obtain ⟨h1, h2, ys, h3, h4⟩ := I.lists b es hm2
      refine ⟨(List.mem_cons.mp h1).resolve_left hab, h2, ys, h3, h4.mono (vis_open _)⟩⟩

/-- something is laid into an owned list -/
theorem Inv.put {A : Around} {s : Shared} {ds es : List D} {ys zs : Array Value} {h' : Heap} {tk : Nat} (I : Inv X k H A env N ρ μ s) (hm : μ.lookup a = some ds) (hy : s.heap.PlainList a ys) (hl' : h'.PlainList a (ys ++ zs)) (hs' : Heap.SameBut a s.heap h') (iy : IsAll (vis H s.heap) (ds ++ es) (ys ++ zs).toList) :
    StepW X (Wr env H N) s { s with heap := h', toks := tk } ∧ Inv X k H A env N ρ ((a, ds ++ es) :: μ) { s with heap := h', toks := tk } := by
  obtain ⟨haH, haN, _⟩ := I.lists a ds hm
  obtain ⟨n, e⟩ := hy
  have hl2 := hl'
  obtain ⟨n', e'⟩ := hl'
  have hWa : Wr env H N a := ⟨haN, .inr (.inr haH)⟩
  have t : StepW X (Wr env H N) s { s with heap := h', toks := tk } := .of (Ext.at e e' (by intro _ q; cases q) (by intro _ q; cases q) (by intro _ _ q; cases q) (Nat.le_trans I.fr.low haN) hWa fun b o hb e => by rw [hs'.2 b hb]; exact e)
  have notA : ∀ {b o}, s.heap.get? b = some o → (∀ xs n, o.data ≠ .seq xs n) → b ≠ a := fun {b o} q hd r => by rw [r, e] at q; cases q; exact hd _ _ rfl
  have hW : WOk H (Wr env H N) s.heap := I.wok
  refine ⟨t, I.fr, I.good.step t, fun x d hx => ?_, ?_, fun x c hx => ?_, I.own, fun b ds' hb => ?_⟩
  · obtain ⟨u, l, iu⟩ := I.sees x d hx
    refine ⟨u, ?_, iu.stepW I.good t hW⟩
    have hc : ∀ c w, s.heap.IsCell c w → c ≠ a := fun c w ⟨o, eo, hd⟩ => notA eo fun xs n q => by rw [hd] at q; cases q
    rcases l with ⟨h1, m1, h2, h3⟩ | ⟨h1, c, h2, h3⟩ | ⟨h1, hh, c, h2, h3⟩
    · have hm' := h2
      obtain ⟨o, es, ep, eo, hd, _⟩ := hm'
      exact .inl ⟨h1, m1, h2.sameBut hs' (notA eo fun xs n q => by rw [hd] at q; cases q), h3⟩
    · exact .inr (.inl ⟨h1, c, h2, h3.sameBut hs' (hc _ _ h3)⟩)
    · exact .inr (.inr ⟨h1, hh, c, h2, h3.sameBut hs' (hc _ _ h3)⟩)
  · obtain ⟨m, hm⟩ := I.loc
    have hm' := hm
    obtain ⟨o, es, ep, eo, hd, _⟩ := hm'
    exact ⟨m, hm.sameBut hs' (notA eo fun xs n q => by rw [hd] at q; cases q)⟩
  · obtain ⟨v, hv⟩ := I.cell x c hx
    have hv' := hv
    obtain ⟨o, eo, hd⟩ := hv'
    exact ⟨v, hv.sameBut hs' (notA eo fun xs n q => by rw [hd] at q; cases q)⟩
  · rw [List.lookup_cons] at hb
    cases q : b == a with
    | true =>
      rw [q] at hb; cases hb
      rw [beq_iff_eq.mp q]
      exact ⟨haH, haN, _, hl2, iy.stepW I.good t hW⟩
    | false =>
      rw [q] at hb
      obtain ⟨h1, h2, ys', ⟨n2, h3⟩, h4⟩ := I.lists b ds' hb
      have : b ≠ a := fun e => by rw [e] at q; simp at q
      exact ⟨h1, h2, ys', ⟨n2, by show h'.get? b = _; rw [hs'.2 b this]; exact h3⟩, h4.stepW I.good t hW⟩
theorem m_append : MethOk "list" "append" "list.append" := ⟨F.plainAttrs_list, F.slot_list_append, by rfl⟩
theorem r_append {y : Str} {e : PySem.Expr} {d : D} {ds : List D} {p apos cpos pos : Pos} (hρ : ρ.lookup y = some (.addr a)) (hm : μ.lookup a = some ds) (he : EvsI X k H env N ρ μ e d) (h : Runs X k H env N ρ ((a, ds ++ [d]) :: μ) rest R)
    (hl : ds.length ≤ sizeLine) (hd : (y == ("__debug__" : Str)) = false := by decide)
    (hbase : attributeBase (.Name y p) "append" env (eval (.Name y p) env) = eval (.Name y p) env := by rfl) (hline : (apos.endLine == cpos.line) = true := by rfl)
    (hse : starEach [e] env = [(false, eval e env)] := by rfl) (hi : interactive env = false := by rfl) : Runs X k H env N ρ μ (.Expr (.Call (.Attribute (.Name y p) "append" apos) [e] [] cpos) pos :: rest) R := by
  refine r_expr (fun A s Q E I hQ => ?_) h hi
  obtain ⟨v, l, i⟩ := I.sees y _ hρ
  rw [is_addr.mp i] at l
  refine Call_method1 hbase hse hline ?_
  refine (ev_name (X := X) (k := k) (H := H) I.fr.eok hρ hd) A s _ E I.good I.sees fun v1 s1 i1 t1 => ?_
  rw [is_addr.mp i1]
  have I1 := I.step t1
  obtain ⟨_, _, ys0, ⟨n0, e0⟩, _⟩ := I1.lists a ds hm
  refine ⟨"list", "list.append", m_append.pa, m_append.slot, m_append.ty, ⟨_, e0, rfl⟩, (fun b q => by cases q; exact ⟨_, e0, rfl⟩), ?_⟩
  refine Calls.callWith_builtin rfl (Calls.evalArgs_plain (Calls.spliced_cons (he A s1 _ E I1 fun v2 s2 i2 t2 => Calls.spliced_nil ?_)))
  have I2 := I1.step t2
  obtain ⟨_, _, ys, hy, iy⟩ := I2.lists a ds hm
  refine wpAny_list_append_plain (hsz := by have := iy.length; simp at this; omega) hy fun h' hl' hs' => ?_
  have hp : h'.PlainList a (ys ++ #[v2]) := by simpa using hl'
  obtain ⟨t3, I3⟩ := I2.put (es := [d]) (tk := s2.toks) hm hy hp hs' (by simpa using iy.append (isAll_cons.mpr ⟨v2, [], rfl, i2, isAll_nil.mpr rfl⟩))
  exact hQ _ ((t1.trans t2).no.trans t3) I3
end
end Mine
end

section
open PySem PySem.W PyProof.Rows PySem.Calls
set_option Elab.async false
set_option linter.unusedVariables false
namespace Mine

/-! an exception on its way -/
/-- lists and tuples made since h0 stand -/
noncomputable def SeqKeep (h0 h h' : Heap) : Prop := ∀ b o, h0.get? b = none → h.get? b = some o → (∃ xs n, o.data = .seq xs n) → ∃ sl, h'.get? b = some { o with slots := sl }
theorem SeqKeep.of {h0 h h' : Heap} (k : h.UpToSlots h') : SeqKeep h0 h h' := fun b o _ e ⟨xs, n, q⟩ => k b o e fun vs q' => by rw [q] at q'; cases q'
structure XArg where
  holds : Heap → Heap → Value → Prop
  seqs : ∀ h0 h h' v, SeqKeep h0 h h' → holds h0 h v → holds h0 h' v
theorem XArg.slots (P : XArg) {h0 : Heap} (h h' : Heap) (v : Value) (k : h.UpToSlots h') (x : P.holds h0 h v) : P.holds h0 h' v := P.seqs h0 h h' v (.of k) x
noncomputable def anyArg : XArg := ⟨fun _ _ _ => True, fun _ _ _ _ _ h => h⟩
noncomputable def strArg (w : List Nat) : XArg := ⟨fun h0 h v => ∃ t tk, v = .ref t ∧ h0.get? t = none ∧ h.TupAt t [.str ⟨w.toArray⟩ tk], fun h0 h h' v k ⟨t, tk, e, e0, o, n, h1, h2, h3⟩ => by
  obtain ⟨sl, h4⟩ := k t o e0 h1 ⟨_, _, h3⟩
  exact ⟨t, tk, e, e0, _, n, h4, h2, h3⟩⟩

/-- a was made when the heap stood as in s, and the frames of l have still to be left -/
structure Up (X : Cx) (l : List Env) (a : Addr) (cls : String) (P : XArg) (s s' : Shared) : Prop where
  same : ∃ h tk, s' = { s with heap := h, toks := tk }
  new : s.heap.get? a = none
  slots : s.heap.UpToSlots s'.heap
  pop : ∃ fs : List Addr, (∀ L ∈ fs, X.n ≤ L ∧ ∃ o es ep, s.heap.get? L = some o ∧ o.data = .dict es ep) ∧
    (hideAll s.heap fs).StaysIn s'.heap ∧ s'.heap.FunFrames (hideAll s.heap fs) l ∧
    ∃ a0, P.holds s.heap s'.heap a0 ∧ ((∃ oe vs, s'.heap.get? a = some oe ∧ oe.cls = .type cls ∧ oe.data = .fields vs ∧ vs[1]? = some .none ∧ vs[0]? = some a0) ∨ s'.heap.TracedW (hideAll s.heap fs) a (.type cls) a0)

theorem hide_new {h : Heap} {fs : List Addr} {a : Addr} (e : h.get? a = none) : (hideAll h fs).get? a = none := by
  cases q : (hideAll h fs).get? a with
  | none => rfl
  | some o => have := of_hideAll _ q; rw [e] at this; cases this

section
variable {X : Cx} {l : List Env} {a : Addr} {cls : String} {P : XArg} {s s' : Shared}
theorem Base.frames {h h' : Heap} (B : Base X h) (k : ∀ b o, h.get? b = some o → (b < X.n ∨ ∀ es ep, o.data ≠ .dict es ep) → h'.get? b = some o) : Base X h' := by
  have lo : ∀ b o, b < X.n → h.get? b = some o → h'.get? b = some o := fun b o hb e => k b o e (.inl hb)
  refine ⟨B.free, fun b o e => lo _ _ (B.low b o e).1 (B.K b o e), ns_at B.g fun o e => lo _ _ B.low3.1 e, ns_at B.b fun o e => lo _ _ B.low3.2.1 e, B.bb, ?_, ?_, ?_, B.low, B.low3, B.lowT, ?_⟩
  · obtain ⟨mc, x, y⟩ := B.lim
    exact ⟨mc, ns_at x fun o e => lo _ _ B.low3.2.2.1 e, y⟩
  · obtain ⟨mc, x, y⟩ := B.dig
    exact ⟨mc, ns_at x fun o e => lo _ _ B.low3.2.2.1 e, y⟩
  · intro T hT
    obtain ⟨h1, h2⟩ := B.tabs T hT
    have lT := B.lowT T hT
    refine ⟨codeHd_at h1 fun o e => lo _ _ lT.2.1 e, ?_⟩
    rcases h2 with h2 | ⟨c', h2, c, o, vs, t, e1, e2, e3, e4⟩
    · exact .inl (lo _ _ lT.1 h2)
    · exact .inr ⟨c', lo _ _ lT.1 h2, c, o, vs, t, e1, k _ _ e2 (.inr fun es ep q => by rw [q] at e3; cases e3), e3, e4⟩
  · obtain ⟨o, e⟩ := B.big
    have h0 : 0 < X.n := Nat.lt_of_le_of_lt (Nat.zero_le _) B.low3.1
    exact ⟨o, lo _ _ (by omega) e⟩
theorem Up.ext (U : Up X l a cls P s s') : Ext X No s.heap s'.heap := by
  obtain ⟨fs, hfs, hst, _, _⟩ := U.pop
  have ex : ∀ b o, s.heap.get? b = some o → (b < X.n ∨ ∀ es ep, o.data ≠ .dict es ep) → s'.heap.get? b = some o := fun b o e hb => hst b o (hideAll_get _ e fun hm => by
    obtain ⟨hn, o', es, ep, e', hd⟩ := hfs b hm
    rcases hb with hb | hb
    · exact Nat.not_lt.mpr hn hb
    · rw [e] at e'; cases e'; exact hb es ep hd)
  refine ⟨fun b o _ _ e => ⟨?_, fun hd => ex b o e (.inr hd)⟩, fun b o e hd => ?_, fun B => B.frames ex⟩
  · by_cases hm : b ∈ fs
    · obtain ⟨hn, o', es, ep, e', hd⟩ := hfs b hm
      rw [e] at e'; cases e'
      exact U.slots b o e fun vs q => by rw [hd] at q; cases q
    · exact ⟨o.slots, hst b o (hideAll_get _ e hm)⟩
  · obtain ⟨sl, e'⟩ := U.slots b o e hd
    exact ⟨_, e', hd, fun es ep q => ⟨es, ep, q⟩⟩
theorem Up.step (U : Up X l a cls P s s') : Step X s s' := by
  obtain ⟨h, tk, rfl⟩ := U.same
  exact .of U.ext

/-- the frames that stand, as they are left -/
theorem frames_of {A : Around} {h : Heap} (F : FrL X A h) : ∃ l, A.frames = some l ∧ h.FunFrames (hideAll h (l.filterMap (·.frame))) l ∧ ∀ L ∈ l.filterMap (·.frame), X.n ≤ L ∧ ∃ o es ep, h.get? L = some o ∧ o.data = .dict es ep := by
  obtain ⟨l, hl, hall⟩ := F
  refine ⟨l, hl, ?_, ?_⟩
  · have : ∀ (fs : List Addr) (l' : List Env), (∀ e ∈ l', e.scope.kind ≠ .module ∧ ∃ L o, e.frame = some L ∧ X.n ≤ L ∧ h.get? L = some o ∧ ∃ es ep, o.data = .dict es ep) → (∀ e ∈ l', ∀ L, e.frame = some L → L ∈ fs) → h.FunFrames (hideAll h fs) l' := by
      intro fs l'
      induction l' with
      | nil => intro _ _; trivial
      | cons e r ih =>
        intro h1 h2
        obtain ⟨hk, L, o, hf, hn, ho, es, ep, hd⟩ := h1 e (.head _)
        exact ⟨hk, ⟨L, o, hf, hideAll_none _ (h2 e (.head _) L hf), ho, fun vs q => by rw [hd] at q; cases q⟩, ih (fun e he => h1 e (.tail _ he)) fun e he => h2 e (.tail _ he)⟩
    exact this _ l hall fun e he L hf => List.mem_filterMap.mpr ⟨e, he, hf⟩
  · intro L hL
    obtain ⟨e, he, hf⟩ := List.mem_filterMap.mp hL
    obtain ⟨_, L', o, hf', hn, ho, es, ep, hd⟩ := hall e he
    rw [hf] at hf'; cases hf'
    exact ⟨hn, o, es, ep, ho, hd⟩
/-- one just made -/
theorem Up.of_made {A : Around} {h' : Heap} {tk : Nat} {oe : Obj} {vs : Array Value} {a0 : Value} (F : FrL X A s.heap) (hA : A.frames = some l) (hk : ∀ b o, s.heap.get? b = some o → h'.get? b = some o) (hn : s.heap.get? a = none)
    (he : h'.get? a = some oe) (hc : oe.cls = .type cls) (hd : oe.data = .fields vs) (h1 : vs[1]? = some .none) (h0 : vs[0]? = some a0) (hP : P.holds s.heap h' a0) : Up X l a cls P s { s with heap := h', toks := tk } := by
  obtain ⟨l', hl', hff, hfs⟩ := frames_of F
  rw [hA] at hl'; cases hl'
  exact ⟨⟨_, _, rfl⟩, hn, .of_keeps hk, _, hfs, fun b o e => hk b o (of_hideAll _ e), hff.of_keeps fun b o e _ => ⟨o, hk b o e, rfl⟩, a0, hP, .inl ⟨oe, vs, he, hc, hd, h1, h0⟩⟩
theorem Up.of_new {A : Around} {h' : Heap} {tk : Nat} (F : FrL X A s.heap) (hA : A.frames = some l) (x : Heap.NewExc s.heap h' a cls) : Up X l a cls anyArg s { s with heap := h', toks := tk } := by
  obtain ⟨ob, t, h1, h2, h3⟩ := x.there
  exact Up.of_made F hA x.keeps x.new h1 h2 h3 rfl rfl trivial
theorem Up.of_str {A : Around} {h' : Heap} {tk : Nat} {w : List Nat} {t : Tok} (F : FrL X A s.heap) (hA : A.frames = some l) (x : Heap.MadeExc s.heap h' a cls [.str ⟨w.toArray⟩ t]) : Up X l a cls (strArg w) s { s with heap := h', toks := tk } := by
  obtain ⟨t', h1, h2, h3⟩ := x.there
  exact Up.of_made F hA x.keeps x.new h1 rfl rfl rfl rfl ⟨t', t, rfl, h2, _, _, h3, rfl, rfl⟩

section
variable {M : Model} {A : Around} {E : Value → Shared → Prop} {env : Env} {outer : List Env} {L : Addr} {Q : Unit → Shared → Prop}
/-- the call's frame left -/
theorem Up.leaves (hfr : A.frames = some (env :: outer)) (hf : env.frame = some L) (U : Up X (env :: outer) a cls P s s') (hQ : ∀ s'', Up X outer a cls P s s'' → Q () s'') : wpAny M A (leaving env (.ref a)) Q E s' := by
  obtain ⟨⟨h0, tk, rfl⟩, hn, hsl, fs, hfs, hst, hff, a0, hP, hh⟩ := U
  have fin : ∀ h', Heap.LeftW (hideAll s.heap fs) (env :: outer) a (.type cls) a0 h0 h' → Q () { s with heap := h', toks := tk } := fun h' ⟨k1, ⟨_, _, k2⟩, k3, k4⟩ =>
    hQ _ ⟨⟨_, _, rfl⟩, hn, hsl.trans k4, fs, hfs, k1, k2, a0, P.slots _ _ _ k4 hP, .inr k3⟩
  rcases hh with ⟨oe, vs, he, hc, hd, h1, h0'⟩ | hT
  · exact wpAny_leaving_firstW hfr hff hf he hst (hide_new hn) hd h1 h0' (by rw [hc]; exact fin)
  · exact wpAny_leaving_nextW hfr hff hf hT hst (hide_new hn) fin
/-- caught: the frame noted, and the way ended -/
theorem Up.lands (hfr : A.frames = some (env :: outer)) (hf : env.frame = some L) (U : Up X (env :: outer) a cls P s s')
    (hQ : ∀ s'', Up X (env :: outer) a cls P s s'' → Q () s'') :
    wpAny M A (noteFrame (.ref a) env) (fun _ s₂ => wpAny M A (setFlight (.ref a) none) Q E s₂) E s' := by
  obtain ⟨⟨h0, tk, rfl⟩, hn, hsl, fs, hfs, hst, hff, a0, hP, hh⟩ := U
  have fin : ∀ h', Heap.NotedW (hideAll s.heap fs) (env :: outer) a (.type cls) a0 (rawInt L) h0 h' → wpAny M A (setFlight (.ref a) none) Q E { s with heap := h', toks := tk } := fun h' ⟨k1, k2, k3, k4⟩ => by
    refine wpAny_setFlight_noneW (s := { s with heap := h', toks := tk }) k1 k2 k3 fun h'' q1 q2 q3 q4 => ?_
    have k5 : h0.UpToSlots h'' := Heap.UpToSlots.trans k4 fun b o hb hnf => ⟨o.slots, q4 b o hb hnf⟩
    exact hQ _ ⟨⟨_, _, rfl⟩, hn, hsl.trans k5, fs, hfs, q1, q2, a0, P.slots _ _ _ k5 hP, .inr q3⟩
  rcases hh with ⟨oe, vs, he, hc, hd, h1, h0'⟩ | hT
  · unfold noteFrame
    simp only [hf]
    refine wpAny_bind (wpAny_field (s := { s with heap := h0, toks := tk }) he hd h1 ?_)
    rw [if_neg (by decide)]
    exact wpAny_entryW (s := { s with heap := h0, toks := tk }) hfr hff hf he hst (hide_new hn) hd (Array.getElem?_eq_some_iff.mp h1).1 h0' (by rw [hc]; exact fin)
  · exact wpAny_noteFrame_onW (s := { s with heap := h0, toks := tk }) hfr hff hf hT hst (hide_new hn) fin
/-- the way ended once more -/
theorem Up.flight {l : List Env} (U : Up X l a cls P s s') (hQ : ∀ s'', Up X l a cls P s s'' → Q () s'') : wpAny M A (setFlight (.ref a) none) Q E s' := by
  obtain ⟨⟨h0, tk, rfl⟩, hn, hsl, fs, hfs, hst, hff, a0, hP, hh⟩ := U
  rcases hh with ⟨oe, vs, he, hc, hd, h1, h0'⟩ | hT
  · unfold setFlight
    refine wpAny_bind (wpAny_field (s := { s with heap := h0, toks := tk }) he hd h1 ?_)
    rw [if_neg (by decide)]
    exact wpAny_pure (hQ _ ⟨⟨_, _, rfl⟩, hn, hsl, fs, hfs, hst, hff, a0, hP, .inl ⟨oe, vs, he, hc, hd, h1, h0'⟩⟩)
  · refine wpAny_setFlight_noneW (s := { s with heap := h0, toks := tk }) hst hff hT.at fun h'' q1 q2 q3 q4 => ?_
    have k5 : h0.UpToSlots h'' := fun b o hb hnf => ⟨o.slots, q4 b o hb hnf⟩
    exact hQ _ ⟨⟨_, _, rfl⟩, hn, hsl.trans k5, fs, hfs, q1, q2, a0, P.slots _ _ _ k5 hP, .inr q3⟩
end
theorem Up.there (U : Up X l a cls P s s') : ∃ ob, s'.heap.get? a = some ob ∧ ob.cls = .type cls := by
  obtain ⟨_, _, _, fs, _, _, _, a0, _, hh⟩ := U
  rcases hh with ⟨oe, vs, he, hc, _⟩ | hT
  · exact ⟨oe, he, hc⟩
  · exact hT.at.there
theorem Up.first (U : Up X l a cls P s s') : ∃ oe vs a0, s'.heap.get? a = some oe ∧ oe.cls = .type cls ∧ oe.data = .fields vs ∧ vs[0]? = some a0 ∧ P.holds s.heap s'.heap a0 := by
  obtain ⟨_, _, _, fs, _, _, _, a0, hP, hh⟩ := U
  rcases hh with ⟨oe, vs, he, hc, hd, _, h0⟩ | ⟨oe, vs, T, oT, ts, he, ⟨hc, h0⟩, hd, _⟩
  · exact ⟨oe, vs, a0, he, hc, hd, h0, hP⟩
  · exact ⟨oe, vs, a0, he, hc, hd, h0, hP⟩
/-- a step more ahead of it -/
theorem Up.low (U : Up X l a cls P s s') {l' : List Env} (h : l' = l) : Up X l' a cls P s s' := h ▸ U
end

/-! what may raise -/
noncomputable def Raises (X : Cx) (k : Nat) (H : List Addr) (env : Env) (ρ : Ro) (e : PySem.Expr) (cls : String) (P : XArg) : Prop :=
  ∀ (A : Around) (s : Shared) (Q : Value → Shared → Prop) (E : Value → Shared → Prop), Good X k H A s → Sees H env s.heap ρ →
    (∀ a s1 s' l, A.frames = some l → Step X s s1 → Up X l a cls P s1 s' → E (.ref a) s') → wpAny X.M A (eval e env) Q E s
noncomputable def RaisesT (X : Cx) (k : Nat) (H : List Addr) (env : Env) (ρ : Ro) (e : PySem.Expr) (cls : String) (P : XArg) : Prop :=
  ∀ (A : Around) (s : Shared) (Q : Bool → Shared → Prop) (E : Value → Shared → Prop), Good X k H A s → Sees H env s.heap ρ →
    (∀ a s1 s' l, A.frames = some l → Step X s s1 → Up X l a cls P s1 s' → E (.ref a) s') → wpAny X.M A (isTrue e env (eval e env)) Q E s
noncomputable def CallRaises (X : Cx) (k : Nat) (H : List Addr) (f : Value) (ds : List D) (cls : String) (P : XArg) : Prop :=
  ∀ (A : Around) (s : Shared) (Q : Value → Shared → Prop) (E : Value → Shared → Prop) (vs : List Value), Good X k H A s → IsAll (vis H s.heap) ds vs →
    (∀ a s1 s' l, A.frames = some l → Step X s s1 → Up X l a cls P s1 s' → E (.ref a) s') → wpAny X.M A (call f vs) Q E s
/-- statements that end so, or raise; T: what holds when it is raised -/
noncomputable def RunsT (X : Cx) (k : Nat) (H : List Addr) (env : Env) (N : Nat) (ρ : Ro) (μ : Mu) (ss : List Stmt) (R : Post) (cls : String) (P : XArg) (T : Around → Shared → Prop) : Prop :=
  ∀ (A : Around) (s : Shared) (Q : Flow → Shared → Prop) (E : Value → Shared → Prop), Inv X k H A env N ρ μ s →
    (∀ f s', StepW X (Wr env H N) s s' → R A f s' → Q f s') →
    (∀ a s1 s' l, A.frames = some l → StepW X (Wr env H N) s s1 → T A s1 → Up X l a cls P s1 s' → E (.ref a) s') → wpAny X.M A (execs ss env) Q E s

section
variable {X : Cx} {k : Nat} {H : List Addr} {env : Env} {N : Nat} {ρ : Ro} {μ : Mu} {ss : List Stmt} {R : Post} {cls : String} {P : XArg} {T : Around → Shared → Prop}
theorem Runs.t (h : Runs X k H env N ρ μ ss R) : RunsT X k H env N ρ μ ss R cls P T := fun A s Q E I hQ _ => h A s Q E I hQ
/-- a def's call whose body raises -/
theorem callRaises_of {f : Str} {fa : Addr} {fd : FuncData} {ps : List Str} {sc : Scope} {body : List Stmt} {ds : List D} (DA : DefAt X f fa fd ps sc body) (hl : ds.length = ps.length)
    (hbody : ∀ L q, X.n ≤ L → RunsT X k H (fenv sc L q fa fd.code) L (ps.zip ds) [] body (fun _ _ _ => False) cls P (fun _ _ => True))
    (hps : ps.Nodup := by decide) (hk : ps.all (fun x => sc.names.lookup x == some .local || sc.names.lookup x == some .cell) = true := by rfl)
    (hsk : sc.kind = .function := by rfl) (hco : sc.isCoroutine = false := by rfl) (hgen : sc.isGenerator = false := by rfl) : CallRaises X (k + 1) H (.ref fa) ds cls P := by
  intro A s Q E vs G i hE
  refine wpAny_call (call_def DA.toFnK G i hl (fun s₁ t1 I => ?_) hps hk hsk hco hgen)
  obtain ⟨l, hA, _⟩ := G.fr
  have hfr := Around.frames_deeper (env := fenv sc s.heap.objs.size (fd.qualname ++ ".<locals>.") fa fd.code) hA
  refine hbody _ _ G.base.size _ s₁ _ _ I (fun f s' t2 hr => hr.elim) fun a s1 s' l' hl' t2 _ U => ?_
  rw [hfr] at hl'; cases hl'
  exact U.leaves hfr rfl fun s'' U' => hE a s1 s'' l hA (call_back (A := A) G rfl t1 t2) U'
end
end Mine
end

section
open PySem PySem.W PyProof.Rows PySem.Calls
set_option Elab.async false
set_option linter.unusedVariables false
namespace Mine
section
variable {X : Cx} {k : Nat} {H : List Addr} {env : Env} {N : Nat} {ρ : Ro} {μ : Mu} {rest : List Stmt} {R : Post} {cls : String} {P : XArg} {T : Around → Shared → Prop}

/-! statements that raise -/
theorem rt_seq {ss : List Stmt} {ρ' : Ro} {μ' : Mu} (h : Runs X k H env N ρ μ ss (fun A f s => f = .next ∧ Inv X k H A env N ρ' μ' s)) (h2 : RunsT X k H env N ρ' μ' rest R cls P T) : RunsT X k H env N ρ μ (ss ++ rest) R cls P T := by
  intro A s Q E I hQ hE
  rw [execs_append_eq]
  refine wpAny_bind (h A s _ E I fun f s1 t r => ?_)
  obtain ⟨rfl, I1⟩ := r
  exact h2 A s1 Q E I1 (fun f s2 t2 r => hQ f s2 (t.trans t2) r) fun a s2 s3 l hl t2 hT U => hE a s2 s3 l hl (t.trans t2) hT U
theorem rt_post {R' : Post} {T' : Around → Shared → Prop} {ss : List Stmt} (h : RunsT X k H env N ρ μ ss R cls P T) (q : ∀ A f s, R A f s → R' A f s) (q' : ∀ A s, T A s → T' A s) : RunsT X k H env N ρ μ ss R' cls P T' :=
  fun A s Q E I hQ hE => h A s Q E I (fun f s' t r => hQ f s' t (q A f s' r)) fun a s1 s' l hl t hT U => hE a s1 s' l hl t (q' A s1 hT) U
theorem rt_sub {ρ' : Ro} {μ' : Mu} {ss : List Stmt} (h : RunsT X k H env N ρ' μ' ss R cls P T) (q : ∀ x d, ρ'.lookup x = some d → ρ.lookup x = some d) (q' : ∀ x d, μ'.lookup x = some d → μ.lookup x = some d) : RunsT X k H env N ρ μ ss R cls P T :=
  fun A s Q E I hQ hE => h A s Q E (I.sub q q') hQ hE
theorem rt_assign {e : PySem.Expr} {d : D} {y : Str} {p pos : Pos} (he : EvsI X k H env N ρ μ e d) (h : RunsT X k H env N ((y, d) :: ρ) μ rest R cls P T)
    (hy : canBind env y = true := by rfl) (hs : swapsWith e (some (.Name y p)) pos.line env = pure false := by rfl) : RunsT X k H env N ρ μ (.Assign [.Name y p] e pos :: rest) R cls P T := by
  intro A s Q E I hQ hE
  refine wpAny_execs_cons (wpAny_Assign_Name (he A s _ E I fun v s1 i t => ?_) hs)
  refine (I.step t).bind hy i fun s2 t2 I2 => ?_
  have t' := t.no.trans t2
  exact h A s2 Q E I2 (fun f s3 t3 r => hQ f s3 (t'.trans t3) r) fun a s3 s4 l hl t3 hT U => hE a s3 s4 l hl (t'.trans t3) hT U
theorem rt_assert {test : PySem.Expr} {msg : Option PySem.Expr} {pos : Pos} (ht : TstI X k H env N ρ μ test true) (h : RunsT X k H env N ρ μ rest R cls P T) : RunsT X k H env N ρ μ (.Assert test msg pos :: rest) R cls P T := by
  intro A s Q E I hQ hE
  refine wpAny_execs_cons (wpAny_Assert_holds (ht A s _ E I fun s1 t => ⟨rfl, ?_⟩))
  exact h A s1 Q E (I.step t) (fun f s2 t2 r => hQ f s2 (t.no.trans t2) r) fun a s3 s4 l hl t3 hT U => hE a s3 s4 l hl (t.no.trans t3) hT U
theorem rt_if {test : PySem.Expr} {body orelse : List Stmt} {pos : Pos} {b : Bool} (ht : TstI X k H env N ρ μ test b) (h1 : b = true → RunsT X k H env N ρ μ (body ++ rest) R cls P T) (h2 : b = false → RunsT X k H env N ρ μ (orelse ++ rest) R cls P T) :
    RunsT X k H env N ρ μ (.If test body orelse pos :: rest) R cls P T := by
  intro A s Q E I hQ hE
  have e : execs (.If test body orelse pos :: rest) env = (standAt pos >>= fun _ => isTrue test env (eval test env) >>= fun c => if c = true then execs (body ++ rest) env else execs (orelse ++ rest) env) := by
    rw [execs_cons, exec_If, bind_assoc]
    refine congrArg (standAt pos >>= ·) (funext fun _ => ?_)
    rw [bind_assoc]
    refine congrArg (isTrue test env (eval test env) >>= ·) (funext fun c => ?_)
    cases c <;> simp only [if_true, Bool.false_eq_true, if_false] <;> rw [execs_append_eq] <;> refine congrArg (_ >>= ·) (funext fun f => ?_) <;> cases f <;> rfl
  rw [e]
  refine wpAny_bind (wpAny_standAt (wpAny_bind (ht A s _ E I fun s1 t => ?_)))
  cases b with
  | true => exact h1 rfl A s1 Q E (I.step t) (fun f s2 t2 r => hQ f s2 (t.no.trans t2) r) fun a s3 s4 l hl t3 hT U => hE a s3 s4 l hl (t.no.trans t3) hT U
  | false => exact h2 rfl A s1 Q E (I.step t) (fun f s2 t2 r => hQ f s2 (t.no.trans t2) r) fun a s3 s4 l hl t3 hT U => hE a s3 s4 l hl (t.no.trans t3) hT U
/-- a value returned, when its making raises -/
theorem rt_ret {e : PySem.Expr} {pos : Pos} (he : Raises X k H env ρ e cls P) (hT : ∀ A s, Inv X k H A env N ρ μ s → T A s) : RunsT X k H env N ρ μ (.Return (some e) pos :: rest) R cls P T :=
  fun A s Q E I hQ hE => wpAny_execs_cons (wpAny_Return_some (he A s _ E I.good I.sees fun a s1 s' l hl t U => hE a s1 s' l hl t.no (hT A s1 (I.step t)) U))
theorem rt_assignR {e : PySem.Expr} {y : Str} {p pos : Pos} (he : Raises X k H env ρ e cls P) (hT : ∀ A s, Inv X k H A env N ρ μ s → T A s)
    (hs : swapsWith e (some (.Name y p)) pos.line env = pure false := by rfl) : RunsT X k H env N ρ μ (.Assign [.Name y p] e pos :: rest) R cls P T :=
  fun A s Q E I hQ hE => wpAny_execs_cons (wpAny_Assign_Name (he A s _ E I.good I.sees fun a s1 s' l hl t U => hE a s1 s' l hl t.no (hT A s1 (I.step t)) U) hs)
theorem rt_exprR {e : PySem.Expr} {pos : Pos} (he : Raises X k H env ρ e cls P) (hT : ∀ A s, Inv X k H A env N ρ μ s → T A s)
    (hi : interactive env = false := by rfl) (hs : swapsWith e none pos.line env = pure false := by rfl) : RunsT X k H env N ρ μ (.Expr e pos :: rest) R cls P T :=
  fun A s Q E I hQ hE => wpAny_execs_cons (wpAny_Expr (he A s _ E I.good I.sees fun a s1 s' l hl t U => hE a s1 s' l hl t.no (hT A s1 (I.step t)) U) hi hs)
theorem rt_raise {w : List Nat} {arg : PySem.Expr} {np cpos pos : Pos} (he : EvsI X (k + 1) H env N ρ μ arg (.str w)) (hT : ∀ A s, Inv X (k + 1) H A env N ρ μ s → T A s)
    (hk : env.kindOf "ValueError" = some .globalImplicit := by rfl) (hpl : (backTo cpos (starEach [arg] env)).any (·.1) = false := by rfl) (hse : starEach [arg] env = [(false, eval arg env)] := by rfl) :
    RunsT X (k + 1) H env N ρ μ (.Raise (some (.Call (.Name "ValueError" np) [arg] [] cpos)) none pos :: rest) R "ValueError" (strArg w) T := by
  intro A s Q E I hQ hE
  refine wpAny_execs_cons (wpAny_Raise_call PySem.F.excCall_ValueError PySem.F.excRaise_ValueError (I.good.ok.handled (Nat.succ_ne_zero _)) hpl ?_)
  refine bi_name I.fr.eok I.good hk (by decide) (by decide) rfl (by decide) ⟨rfl, ?_⟩
  rw [hse]
  refine Calls.evalArgs_plain (Calls.spliced_cons (he A s _ E I fun v s1 i t => Calls.spliced_nil ?_))
  obtain ⟨tk, rfl⟩ := is_str.mp i
  refine ⟨rfl, (by show 1 ≤ sizeLine; decide), fun h' e hm => ?_⟩
  have G1 := I.good.step t
  obtain ⟨l, hl, _⟩ := G1.fr
  exact hE e s1 _ l hl t.no (hT A s1 (I.step t)) (Up.of_str G1.fr hl hm)
/-- a call that raises -/
theorem raises_call {f : Str} {p pos : Pos} {fa : Addr} {fd : FuncData} {ps : List Str} {sc : Scope} {body : List Stmt} {e : PySem.Expr} {es : List PySem.Expr} {ds : List D} (DA : DefAt X f fa fd ps sc body) (O : EnvOk env)
    (ha : EvsAll X k H env ρ (e :: es) ds) (hc : CallRaises X k H (.ref fa) ds cls P) (hk : env.kindOf f = some .globalImplicit := by rfl) (hd : (f == ("__debug__" : Str)) = false := by decide)
    (hse : backTo pos (starEach (e :: es) env) = (false, eval e env) :: backTo pos (starEach es env) := by rfl) : Raises X k H env ρ (.Call (.Name f p) (e :: es) [] pos) cls P := by
  intro A s Q E G S hE
  refine wpAny_Call_NameR (Calls.Name_function_global O.kind hk (Calls.loadGlobal_global (by rw [O.globals]; exact G.base.g) DA.glob ?_) hd)
  obtain ⟨o, ho, hdd⟩ := DA.obj
  refine Calls.callWith_function (o := o) (fd := fd) ?_
  rw [hse]
  refine Calls.evalArgs_plain ?_
  rw [← hse]
  refine ha A s pos _ E G S fun vs s1 i t => ?_
  exact ⟨⟨(G.step t).base.K fa o ho, hdd⟩, hc A s1 Q E vs (G.step t) i fun a s2 s' l hl t2 U => hE a s2 s' l hl (t.trans t2) U⟩
/-- a call's, tuple's or list's parts of which the last raises -/
noncomputable def RaisesAll (X : Cx) (k : Nat) (H : List Addr) (env : Env) (ρ : Ro) (es : List PySem.Expr) (cls : String) (P : XArg) : Prop :=
  ∀ (A : Around) (s : Shared) (pos : Pos) (Q : List Value → Shared → Prop) (E : Value → Shared → Prop), Good X k H A s → Sees H env s.heap ρ →
    (∀ a s1 s' l, A.frames = some l → Step X s s1 → Up X l a cls P s1 s' → E (.ref a) s') → wpAny X.M A (spliced (backTo pos (starEach es env))) Q E s
theorem rall_here {e : PySem.Expr} {r : List PySem.Expr} (he : Raises X k H env ρ e cls P) (hs : starEach (e :: r) env = (false, eval e env) :: starEach r env := by rfl) : RaisesAll X k H env ρ (e :: r) cls P :=
  fun A s pos Q E G S hE => wpAny_items_cons (he A s _ E G S hE) hs
theorem rall_cons {e : PySem.Expr} {r : List PySem.Expr} {d : D} (he : Evs X k H env ρ e d) (hr : RaisesAll X k H env ρ r cls P) (hs : starEach (e :: r) env = (false, eval e env) :: starEach r env := by rfl) : RaisesAll X k H env ρ (e :: r) cls P :=
  fun A s pos Q E G S hE => wpAny_items_cons (he A s _ E G S fun v1 s1 i1 t1 => hr A s1 pos _ E (G.step t1) (S.step G t1) fun a s2 s' l hl t2 U => hE a s2 s' l hl (t1.trans t2) U) hs
theorem raises_tuple {es : List PySem.Expr} {j : Nat} {pos : Pos} (h : RaisesAll X k H env ρ es cls P) : Raises X k H env ρ (.Tuple es j pos) cls P :=
  fun A s Q E G S hE => wpAny_Tuple (h A s pos _ E G S hE)

/-! catching -/
structure ExcOk (x : Str) (cls : String) : Prop where
  free : x ∈ frees
  ne : x ≠ "__name__"
  boot : bootBuiltins x = some (.type cls)
  exc : isSubtype (.type cls) (.type "BaseException") = pure true
  nt : isSubtype (.type ((Manifest.find? cls).elim "type" fun x => x.metatype)) (.type "tuple") = pure false
  self : isSubtype (.type cls) (.type cls) = pure true
  dbg : (x == ("__debug__" : Str)) = false
theorem excOk_ValueError : ExcOk "ValueError" "ValueError" := ⟨by decide, by decide, PyProof.Rows.Boot.«ValueError», PySem.F.isExc_ValueError, PySem.F.notTuple_ValueError, PySem.F.self_ValueError, by decide⟩
theorem excOk_IndexError : ExcOk "IndexError" "IndexError" := ⟨by decide, by decide, PyProof.Rows.Boot.«IndexError», PySem.F.isExc_IndexError, PySem.F.notTuple_IndexError, PySem.F.self_IndexError, by decide⟩

theorem Good.mark {A : Around} {s : Shared} (v : Value) (G : Good X k H A s) : Good X 0 H (A.mark (some v)) s := ⟨⟨fun q => absurd rfl q, by have := G.ok.depth; show A.depth + 0 < _; omega, by have := G.ok.units; show A.units + 20 * 0 < _; omega⟩, G.base, G.hid, G.fr⟩
theorem Inv.mark {A : Around} {s : Shared} (v : Value) (I : Inv X k H A env N ρ μ s) : Inv X 0 H (A.mark (some v)) env N ρ μ s := ⟨⟨I.fr.eok, I.fr.low, I.fr.loc, I.fr.apart, I.fr.top⟩, I.good.mark v, I.sees, I.loc, I.cell, I.own, I.lists⟩
theorem Inv.unmark {A : Around} {s : Shared} {v : Value} (I : Inv X 0 H (A.mark (some v)) env N ρ μ s) (ok : AOk k A) : Inv X k H A env N ρ μ s := ⟨⟨I.fr.eok, I.fr.low, I.fr.loc, I.fr.apart, I.fr.top⟩, ⟨ok, I.good.base, I.good.hid, I.good.fr⟩, I.sees, I.loc, I.cell, I.own, I.lists⟩

/-- the exception in the handler's hand -/
noncomputable def Caught (P : XArg) (cls : String) (a : Addr) (h : Heap) : Prop := ∃ h0 oe vs a0, h.get? a = some oe ∧ oe.cls = .type cls ∧ oe.data = .fields vs ∧ vs[0]? = some a0 ∧ P.holds h0 h a0

theorem Up.notWr {A : Around} {s1 s' : Shared} {l : List Env} {a : Addr} {b : Addr} (I : Inv X k H A env N ρ μ s1) (hb : s1.heap.get? b = none) : ¬ Wr env H N b ∧ b ∉ X.TB := by
  refine ⟨fun ⟨_, h⟩ => ?_, fun q => ?_⟩
  · rcases h with rfl | ⟨x, h⟩ | h
    · obtain ⟨m, o, _, _, e, _⟩ := I.loc
      rw [hb] at e; cases e
    · obtain ⟨v, o, e, _⟩ := I.cell x b h
      rw [hb] at e; cases e
    · obtain ⟨o, e, _⟩ := I.good.hid b h
      rw [hb] at e; cases e
  · obtain ⟨vs, e⟩ := I.good.base.tabFields q
    rw [hb] at e; cases e

theorem catch_as {A : Around} {s1 s' : Shared} {x n : Str} {a : Addr} {l : List Env} {b₀ : Stmt} {suite : List Stmt} {np pos : Pos} {hs : List ExceptHandler} {Q : Flow → Shared → Prop} {E : Value → Shared → Prop} (O : ExcOk x cls)
    (I : Inv X k H A env N ρ μ s1) (hl : A.frames = some l) (U : Up X l a cls P s1 s')
    (h : ∀ s2 E', StepW X (Wr env H N) s1 s2 → Inv X 0 H (A.mark (some (.ref a))) env N ((n, .addr a) :: ρ) μ s2 → Caught P cls a s2.heap →
      wpAny X.M (A.mark (some (.ref a))) (execs (b₀ :: suite) env) (fun f s₄ => wpAny X.M A (do bindName env n .none; unbindBehindTheSuite env n pos) (fun _ s₅ => Q f s₅) E s₄) E' s2)
    (hx : env.kindOf x = some .globalImplicit := by rfl) (hn : canBind env n = true := by rfl) :
    wpAny X.M A (noteFrame (.ref a) env) (fun _ s₂ => wpAny X.M A (setFlight (.ref a) none) (fun _ s₃ => wpAny X.M A (handleBy (.ref a) env (.ExceptHandler (some (.Name x np)) (some n) (b₀ :: suite) pos :: hs)) Q E s₃) E s₂) E s' := by
  obtain ⟨hf, outer, hfr⟩ := I.fr.top
  rw [hfr] at hl; cases hl
  refine U.lands hfr hf fun s2 U2 => ?_
  refine wpAny_handleBy_builtin_as (X := cls) (T := cls) (b := true) O.exc O.nt O.self ?_
  have I2 := (I.step U2.step).mark (.ref a)
  refine bi_name I.fr.eok I2.good hx O.free O.ne O.boot O.dbg ⟨rfl, U2.there, ?_⟩
  refine U2.flight fun s3 U3 => ?_
  have I3 := (I.step U3.step).mark (.ref a)
  refine I3.bind (d := .addr a) hn (is_addr.mpr rfl) fun s4 t4 I4 => ?_
  refine h s4 _ (U3.step.no.trans t4) I4 ?_
  obtain ⟨oe, vs, a0, h1, h2, h3, h4, h5⟩ := U3.first
  have kp : ∀ b o, s1.heap.get? b = none → s3.heap.get? b = some o → (∃ sl, s4.heap.get? b = some { o with slots := sl }) ∧ ((∀ es ep, o.data ≠ .dict es ep) → s4.heap.get? b = some o) := fun b o hb e => by
    obtain ⟨nw, nt⟩ := Up.notWr (s' := s3) (l := env :: outer) (a := a) I hb
    exact t4.ext.keep b o nw nt e
  exact ⟨s1.heap, oe, vs, a0, (kp a oe U.new h1).2 fun es ep q => (by rw [h3] at q; cases q), h2, h3, h4, P.seqs _ _ _ _ (fun b o hb e _ => (kp b o hb e).1) h5⟩

theorem Inv.unbind {A : Around} {s : Shared} {n : Str} {pos : Pos} {Q : Unit → Shared → Prop} {E : Value → Shared → Prop} (I : Inv X k H A env N ρ μ s) (hy : env.kindOf n = some .local) (hρ : ρ.lookup n = none)
    (hQ : ∀ s', StepW X (Wr env H N) s s' → (∀ d v, Is (vis H s.heap) d v → Is (vis H s'.heap) d v) → Inv X k H A env N ρ μ s' → Q () s') : wpAny X.M A (do bindName env n .none; unbindBehindTheSuite env n pos) Q E s := by
  obtain ⟨m, hm⟩ := I.loc
  have hm' := hm
  obtain ⟨oL, es, ep, eL, hdL, _⟩ := hm'
  have notCell : ∀ c v, s.heap.IsCell c v → c ≠ env.locals := fun c v ⟨o, e, hd⟩ q => by rw [q, eL] at e; cases e; rw [hdL] at hd; cases hd
  refine wpAny_nameGoes_keeps hy hm (by rw [I.fr.eok.kind]; rfl) fun h' u hn' hs' => ?_
  have hn'' := hn'
  obtain ⟨oL', es', ep', eL', hdL', _⟩ := hn''
  have W1 : Wr env H N env.locals := ⟨I.fr.loc, .inl rfl⟩
  have t0 : StepW X (fun b => b = env.locals) s { s with heap := h', toks := s.toks + 1 } := .of (Ext.at eL eL' (fun vs q => by rw [hdL] at q; cases q) (fun vs q => by rw [hdL'] at q; cases q) (fun _ _ _ => ⟨_, _, hdL'⟩) (Nat.le_trans I.fr.low I.fr.loc) rfl fun b o hb e => by rw [hs'.2 b hb]; exact e)
  have hW : WOk H (fun b => b = env.locals) s.heap := fun a ha => .inr fun o e q => by rw [ha, eL] at e; cases e; rw [hdL] at q; cases q
  have ki : ∀ d v, Is (vis H s.heap) d v → Is (vis H h') d v := fun d v i => i.stepW I.good t0 hW
  refine hQ _ (t0.mono fun b hb => hb ▸ W1) ki ⟨I.fr, I.good.step t0, fun z d hz => ?_, ⟨_, hn'⟩, fun y c hc => ?_, I.own, fun a ds ha => ?_⟩
  · have hzn : z ≠ n := fun q => by rw [q, hρ] at hz; cases hz
    obtain ⟨v, l, iv⟩ := I.sees z d hz
    refine ⟨v, ?_, ki d v iv⟩
    rcases l with ⟨h1, m1, h2, h3⟩ | ⟨h1, c, h2, h3⟩ | ⟨h1, hh, c, h2, h3⟩
    · have e1 : m1 z = m z := by
        obtain ⟨o1, es1, ep1, e1, d1, _, f1⟩ := h2
        obtain ⟨o2, es2, ep2, e2, d2, _, f2⟩ := hm
        rw [e1] at e2; cases e2
        rw [d1] at d2; cases d2
        rw [← f1, f2]
      exact .inl ⟨h1, _, hn', by simp only [hzn, if_false]; rw [← e1]; exact h3⟩
    · exact .inr (.inl ⟨h1, c, h2, h3.sameBut hs' (notCell _ _ h3)⟩)
    · exact .inr (.inr ⟨h1, hh, c, h2, h3.sameBut hs' (notCell _ _ h3)⟩)
  · obtain ⟨v, hv⟩ := I.cell y c hc
    exact ⟨v, hv.sameBut hs' (notCell _ _ hv)⟩
  · obtain ⟨h1, h2, ys, ⟨n', e⟩, h4⟩ := I.lists a ds ha
    have hne : a ≠ env.locals := fun q => by rw [q, eL] at e; cases e; cases hdL
    exact ⟨h1, h2, ys, ⟨n', by show h'.get? a = _; rw [hs'.2 a hne]; exact e⟩, h4.stepW I.good t0 hW⟩

theorem r_try_ok {body : List Stmt} {h0 : ExceptHandler} {hs : List ExceptHandler} {pos : Pos} {ρ1 : Ro} {μ1 : Mu} (hb : Runs X k H env N ρ μ body (fun A f s => (f = .next ∧ Inv X k H A env N ρ1 μ1 s) ∨ (f ≠ .next ∧ R A f s))) (h : Runs X k H env N ρ1 μ1 rest R) :
    Runs X k H env N ρ μ (.Try body (h0 :: hs) [] [] pos :: rest) R := by
  intro A s Q E I hQ
  refine wpAny_execs_cons (wpAny_Try_except (hb A s _ _ I fun f s1 t r => ?_))
  rcases r with ⟨rfl, I1⟩ | ⟨hf, r⟩
  · exact wpAny_execs_nil (h A s1 Q E I1 fun f s2 t2 r => hQ f s2 (t.trans t2) r)
  · cases f with
    | next => exact absurd rfl hf
    | _ => exact hQ _ s1 t r
theorem r_try_as_ret {x n : Str} {body suite : List Stmt} {b₀ : Stmt} {np hpos pos : Pos} {ρ2 : Ro} {μ2 : Mu} {d : D} (O : ExcOk x cls) (hb : RunsT X k H env N ρ μ body (fun _ _ _ => False) cls P (fun A s => Inv X k H A env N ρ2 μ2 s))
    (hh : ∀ (A : Around) (a : Addr) (s : Shared) (Q : Flow → Shared → Prop) (E : Value → Shared → Prop), Inv X 0 H (A.mark (some (.ref a))) env N ((n, .addr a) :: ρ2) μ2 s → Caught P cls a s.heap →
      (∀ v s', Is (vis H s'.heap) d v → Step X s s' → Q (.ret v) s') → wpAny X.M (A.mark (some (.ref a))) (execs (b₀ :: suite) env) Q E s)
    (hx : env.kindOf x = some .globalImplicit := by rfl) (hn : env.kindOf n = some .local := by rfl) :
    Runs X k H env N ρ μ (.Try body [.ExceptHandler (some (.Name x np)) (some n) (b₀ :: suite) hpos] [] [] pos :: rest) (Ret H d) := by
  intro A s Q E I hQ
  refine wpAny_execs_cons (wpAny_Try_except (hb A s _ _ I (fun f s1 t r => r.elim) fun a s1 s' l hl t I1 U => ?_))
  refine catch_as O I1 hl U (fun s2 E' t2 I2 C => ?_) hx (by unfold canBind; rw [hn]; rfl)
  refine hh A a s2 _ _ I2 C fun v s3 iv t3 => ?_
  have I3 : Inv X k H A env N [] [] s3 := ((I2.step t3).unmark I1.good.ok).sub sub_nil (fun x d h => by cases h)
  refine I3.unbind hn rfl fun s4 t4 ki I4 => ?_
  exact hQ (.ret v) s4 (((t.trans t2).trans t3.no).trans t4) ⟨v, rfl, ki d v iv⟩
theorem r_try_as_next {x n : Str} {body suite : List Stmt} {b₀ : Stmt} {np hpos pos : Pos} {ρ2 ρ3 : Ro} {μ2 μ3 : Mu} (O : ExcOk x cls) (hb : RunsT X k H env N ρ μ body (fun _ _ _ => False) cls P (fun A s => Inv X k H A env N ρ2 μ2 s))
    (hh : ∀ (A : Around) (a : Addr) (s : Shared) (Q : Flow → Shared → Prop) (E : Value → Shared → Prop), Inv X 0 H (A.mark (some (.ref a))) env N ((n, .addr a) :: ρ2) μ2 s → Caught P cls a s.heap →
      (∀ s', StepW X (Wr env H N) s s' → Inv X 0 H (A.mark (some (.ref a))) env N ρ3 μ3 s' → Q .next s') → wpAny X.M (A.mark (some (.ref a))) (execs (b₀ :: suite) env) Q E s)
    (h : Runs X k H env N ρ3 μ3 rest R) (hρ : ρ3.lookup n = none := by rfl)
    (hx : env.kindOf x = some .globalImplicit := by rfl) (hn : env.kindOf n = some .local := by rfl) :
    Runs X k H env N ρ μ (.Try body [.ExceptHandler (some (.Name x np)) (some n) (b₀ :: suite) hpos] [] [] pos :: rest) R := by
  intro A s Q E I hQ
  refine wpAny_execs_cons (wpAny_Try_except (hb A s _ _ I (fun f s1 t r => r.elim) fun a s1 s' l hl t I1 U => ?_))
  refine catch_as O I1 hl U (fun s2 E' t2 I2 C => ?_) hx (by unfold canBind; rw [hn]; rfl)
  refine hh A a s2 _ _ I2 C fun s3 t3 I3 => ?_
  refine (I3.unmark I1.good.ok).unbind hn hρ fun s4 t4 ki I4 => ?_
  have t' := ((t.trans t2).trans t3).trans t4
  exact h A s4 Q E I4 fun f s5 t5 r => hQ f s5 (t'.trans t5) r
end
end Mine
end

section
open PySem PySem.W PyProof.Rows PySem.Calls
set_option Elab.async false
set_option linter.unusedVariables false
namespace Mine
noncomputable abbrev pw : Program := PySem.Challenge.pw_rx0125_02
noncomputable def bodyAt (n : Nat) : List Stmt := match pw.main.body.drop n with | .FunctionDef _ _ b .. :: _ => b | _ => []
noncomputable def scopeAt (n : Nat) : Scope := match pw.main.body.drop n with | .FunctionDef _ _ _ _ _ _ sc .. :: _ => sc | _ => default
noncomputable abbrev nWithin : Nat := 23
noncomputable abbrev nTakes : Nat := 22
noncomputable abbrev nSigns : Nat := 21
noncomputable abbrev nSign : Nat := 20
noncomputable abbrev nPattern : Nat := 19
noncomputable abbrev nDepths : Nat := 24

/-- the texts that are left when some signs of one are left out -/
noncomputable def sieve : List Nat → List (List Nat) := fun l => l.foldl (fun ts c => ts ++ ts.map (· ++ [c])) [[]]
theorem sieve_take {l : List Nat} {i c : Nat} (h : l[i]? = some c) : sieve (l.take (i + 1)) = sieve (l.take i) ++ (sieve (l.take i)).map (· ++ [c]) := by
  unfold sieve; rw [List.take_add_one, h]; simp [List.foldl_append]
theorem sieve_append (l : List Nat) (c : Nat) : sieve (l ++ [c]) = sieve l ++ (sieve l).map (· ++ [c]) := by unfold sieve; simp [List.foldl_append]
theorem list_rec {P : List Nat → Prop} (h0 : P []) (h1 : ∀ l c, P l → P (l ++ [c])) (l : List Nat) : P l := by
  have : ∀ m : List Nat, P m.reverse := by
    intro m
    induction m with
    | nil => exact h0
    | cons c r ih => rw [List.reverse_cons]; exact h1 _ c ih
  rw [← List.reverse_reverse l]; exact this _
theorem sieve_length : ∀ l : List Nat, (sieve l).length = 2 ^ l.length := list_rec rfl fun l c ih => by
  rw [sieve_append, List.length_append, List.length_map, ih, List.length_append, List.length_singleton, Nat.pow_succ]; omega
theorem sieve_short : ∀ l : List Nat, ∀ t ∈ sieve l, t.length ≤ l.length := list_rec (fun t ht => by simp [sieve] at ht; simp [ht]) fun l c ih t ht => by
  rw [sieve_append] at ht
  rcases List.mem_append.mp ht with h | h
  · have := ih t h; simp; omega
  · obtain ⟨u, hu, rfl⟩ := List.mem_map.mp h
    have := ih u hu; simp; omega
theorem chars_get {l : List Nat} {i : Nat} {d : D} (hd : (chars l)[i]? = some d) : ∃ c, l[i]? = some c ∧ d = .str [c] := by
  simp only [chars, List.getElem?_map] at hd
  cases e : l[i]? with
  | none => rw [e] at hd; cases hd
  | some c => rw [e] at hd; cases hd; exact ⟨c, rfl, rfl⟩
theorem chars_length (l : List Nat) : (chars l).length = l.length := by simp [chars]
theorem map_get {α : Type} {g : α → D} {l : List α} {i : Nat} {d : D} (hd : (l.map g)[i]? = some d) : ∃ x, l[i]? = some x ∧ d = g x := by
  rw [List.getElem?_map] at hd
  cases e : l[i]? with
  | none => rw [e] at hd; cases hd
  | some c => rw [e] at hd; cases hd; exact ⟨c, rfl, rfl⟩

variable {X : Cx} {k : Nat} {H : List Addr}
set_option maxRecDepth 10000
theorem within_runs {L : Addr} {q : Str} {fa : Addr} {cd : Value} {l : List Nat} (hl : l.length ≤ 8) : Runs X (k + 1) H (fenv (scopeAt nWithin) L q fa cd) L [("name", .str l)] [] (bodyAt nWithin) (Ret H (texts (sieve l))) := by
  have O : EnvOk (fenv (scopeAt nWithin) L q fa cd) := ⟨rfl, rfl, rfl⟩
  have hz : ∀ i, (sieve (l.take i)).length ≤ 256 := fun i => by
    rw [sieve_length, List.length_take]
    exact Nat.pow_le_pow_right (n := 2) (j := 8) (by decide) (by omega)
  refine r_assign (Evs.i (ev_list (evs_cons ev_str evs_nil))) ?_
  refine r_for (fun i => [("texts", texts (sieve (l.take i)))]) (fun _ => []) (its_str (l := l) (ev_name O (by rfl))) (sub_cons rfl sub_nil) mu_nil ?_ ?_
  · intro i d hd
    obtain ⟨c, hc, rfl⟩ := chars_get hd
    have hzi := hz i
    refine r_assign (d := texts (sieve (l.take (i + 1)))) (Evs.i ?_) (r_turn (sub_cons rfl sub_nil) mu_nil)
    have e : texts (sieve (l.take (i + 1))) = .list ((sieve (l.take i)).map .str ++ (sieve (l.take i)).map fun t => .str (t ++ [c])) := by
      rw [sieve_take hc, texts, List.map_append, List.map_map]; rfl
    rw [e]
    refine ev_bin (ev_name O rfl) (ev_cx (cx_map (l := sieve (l.take i)) (g := .str) (h := fun t => .str (t ++ [c])) O str_inj (its_list (ev_name O rfl)) (fun C cs a O' t ht => ?_) ?_)) (bin_catL ?_)
    · refine ev_bin (ev_name O' rfl) (ev_name O' rfl) (bin_cat ?_)
      have h1 := sieve_short _ t ht
      rw [List.length_take] at h1
      simp [sizeLine_eq]; omega
    · rw [sizeLine_eq]; omega
    · simp [sizeLine_eq]; omega
  · rw [chars_length, List.take_length]
    exact r_retV (Evs.i (ev_name O (by rfl)))

/-- where the search for signs, one behind the other, stands -/
noncomputable def plc (name : List Nat) (signs : List (List Nat)) : Int := signs.foldl (fun p s => Txt.find3 (S name) (S s) p + 1) 0
noncomputable def takes (signs : List (List Nat)) (name : List Nat) : Bool := decide (∀ i, i < signs.length → plc name (signs.take (i + 1)) ≠ 0)
theorem plc_take {name : List Nat} {signs : List (List Nat)} {i : Nat} {s : List Nat} (h : signs[i]? = some s) : plc name (signs.take (i + 1)) = Txt.find3 (S name) (S s) (plc name (signs.take i)) + 1 := by
  unfold plc; rw [List.take_add_one, h]; simp [List.foldl_append]
theorem takes_runs {L : Addr} {q : Str} {fa : Addr} {cd : Value} {signs : List (List Nat)} {name : List Nat} : Runs X (k + 1) H (fenv (scopeAt nTakes) L q fa cd) L [("signs", texts signs), ("name", .str name)] [] (bodyAt nTakes) (Ret H (.bool (takes signs name))) := by
  have O : EnvOk (fenv (scopeAt nTakes) L q fa cd) := ⟨rfl, rfl, rfl⟩
  refine r_assign (Evs.i ev_int) ?_
  refine r_forP (ds := signs.map .str) (fun i => [("name", .str name), ("place", .int (plc name (signs.take i)))]) (fun _ => []) (fun i => ∀ j, j < i → plc name (signs.take (j + 1)) ≠ 0) (fun j hj => by omega) (its_list (ev_name O rfl)) (sub_cons rfl (sub_cons rfl sub_nil)) mu_nil ?_ ?_
  · intro i d hd hP
    obtain ⟨s, hs, rfl⟩ := map_get hd
    refine r_assign (Evs.i (ev_bin (ev_meth m_find (ev_name O rfl) rfl (evs_cons (ev_name O rfl) (evs_cons (ev_name O rfl) evs_nil)) c_find3) ev_int bin_add)) ?_
    rw [← plc_take hs]
    refine r_if (Tst.i (ts_cmp (ev_name O rfl) ev_int cmp_eq_int)) (fun hb => ?_) (fun hb => r_nil fun A s I => .inl ⟨.inl rfl, fun j hj => ?_, I.sub (sub_cons rfl (sub_cons rfl sub_nil)) mu_nil⟩)
    · refine r_post (r_retV (Evs.i ev_boolc)) fun A f s hr => ?_
      obtain ⟨v, e, iv⟩ := hr
      refine .inr ⟨v, e, v, e, ?_⟩
      have : takes signs name = false := by
        unfold takes
        rw [decide_eq_false_iff_not]
        intro h
        exact h i (List.getElem?_eq_some_iff.mp hs).1 (by simpa using hb)
      rw [this]; exact iv
    · rcases Nat.lt_or_eq_of_le (Nat.le_of_lt_succ hj) with h | rfl
      · exact hP j h
      · simpa using hb
  · intro hP
    have : takes signs name = true := by
      unfold takes
      rw [decide_eq_true_eq]
      intro i hi
      exact hP i (by simpa using hi)
    rw [this]
    exact r_retV (Evs.i ev_boolc)
end Mine
end

section
open PySem PySem.W PyProof.Rows PySem.Calls
set_option Elab.async false
set_option linter.unusedVariables false
namespace Mine
set_option maxRecDepth 100000
set_option maxHeartbeats 4000000
noncomputable def initB0 : List Stmt := match pw.main.body.drop 4 with | .ClassDef _ _ _ (.FunctionDef _ _ b .. :: _) .. :: _ => b | _ => []
noncomputable def initS0 : Scope := match pw.main.body.drop 4 with | .ClassDef _ _ _ (.FunctionDef _ _ _ _ _ _ sc .. :: _) .. :: _ => sc | _ => default
/-! the objects that the top's run makes, each as it stands at one of the run's cuts -/
noncomputable def o1S0 : Params → Obj := fun P => { cls := Value.type "dict", data := Data.dict #[{ hash := PyData.keyHash P (Str.ofString "builtins"), key := Value.str (Str.ofString "builtins") 162, val := Value.ref 4 }, { hash := PyData.keyHash P (Str.ofString "__main__"), key := Value.str (Str.ofString "__main__") 163, val := Value.ref 5 }, { hash := PyData.keyHash P (Str.ofString "_sre"), key := Value.str (Str.ofString "_sre") 244, val := Value.ref 12 }] 3 }
noncomputable def o2S0 : Params → Obj := fun P => { cls := Value.none, data := Data.dict #[{ hash := PyData.keyHash P { cps := #[105, 109, 112, 111, 114, 116, 46, 108, 111, 97, 100, 101, 100, 46, 95, 115, 114, 101] }, key := Value.str { cps := #[105, 109, 112, 111, 114, 116, 46, 108, 111, 97, 100, 101, 100, 46, 95, 115, 114, 101] } 183, val := Value.bool true }, { hash := PyData.keyHash P (Str.ofString "class._frozen_importlib.BuiltinImporter"), key := Value.str (Str.ofString "class._frozen_importlib.BuiltinImporter") 185, val := Value.ref 14 }, { hash := PyData.keyHash P { cps := #[119, 97, 116, 99, 104, 101, 100, 46, 105, 109, 112, 111, 114, 116] }, key := Value.str { cps := #[119, 97, 116, 99, 104, 101, 100, 46, 105, 109, 112, 111, 114, 116] } 206, val := Value.ref 18 }, { hash := PyData.keyHash P (Str.ofString "class._frozen_importlib.ModuleSpec"), key := Value.str (Str.ofString "class._frozen_importlib.ModuleSpec") 216, val := Value.ref 22 }, { hash := PyData.keyHash P (Str.ofString "sys.modules.booked-epoch"), key := Value.str (Str.ofString "sys.modules.booked-epoch") 245, val := Value.int 3 0 }, { hash := PyData.keyHash P { cps := #[105, 109, 112, 111, 114, 116, 46, 108, 97, 116, 101, 114, 45, 108, 97, 105, 100, 46, 95, 115, 114, 101] }, key := Value.str { cps := #[105, 109, 112, 111, 114, 116, 46, 108, 97, 116, 101, 114, 45, 108, 97, 105, 100, 46, 95, 115, 114, 101] } 270, val := Value.bool true }, { hash := PyData.keyHash P (Str.ofString "watched.library"), key := Value.str (Str.ofString "watched.library") 272, val := Value.ref 27 }, { hash := PyData.keyHash P (Str.ofString "watched.library-objects"), key := Value.str (Str.ofString "watched.library-objects") 0, val := Value.str { cps := #[12] } 0 }, { hash := PyData.keyHash P (Str.ofString "watched.library-deep._sre"), key := Value.str (Str.ofString "watched.library-deep._sre") 273, val := Value.str { cps := #[4, 0, 0, 11, 4, 0, 0, 11, 4, 0, 0, 3, 4, 0, 0, 11, 8, 4, 100, 105, 99, 116, 2] } 0 }] 9 }
noncomputable def o3S0 : Params → Obj := fun P => { cls := Value.type "dict", data := Data.dict #[{ hash := PyData.keyHash P (Str.ofString "__name__"), key := Value.str (Str.ofString "__name__") 165, val := Value.str (Str.ofString "__main__") 164 }, { hash := PyData.keyHash P (Str.ofString "__doc__"), key := Value.str (Str.ofString "__doc__") 166, val := Value.none }, { hash := PyData.keyHash P (Str.ofString "__package__"), key := Value.str (Str.ofString "__package__") 167, val := Value.none }, { hash := PyData.keyHash P (Str.ofString "__loader__"), key := Value.str (Str.ofString "__loader__") 168, val := Value.builtin "__main__.__loader__#opaque" }, { hash := PyData.keyHash P (Str.ofString "__spec__"), key := Value.str (Str.ofString "__spec__") 169, val := Value.none }, { hash := PyData.keyHash P (Str.ofString "__annotations__"), key := Value.str (Str.ofString "__annotations__") 170, val := Value.ref 6 }, { hash := PyData.keyHash P (Str.ofString "__builtins__"), key := Value.str (Str.ofString "__builtins__") 171, val := Value.ref 4 }, { hash := PyData.keyHash P (Str.ofString "__file__"), key := Value.str (Str.ofString "__file__") 173, val := Value.str (Str.ofString "/claim/cut.py") 172 }, { hash := PyData.keyHash P (Str.ofString "__cached__"), key := Value.str (Str.ofString "__cached__") 174, val := Value.none }, { hash := PyData.keyHash P (Str.ofString "_sre"), key := Value.str (Str.ofString "_sre") 275, val := Value.ref 12 }] 10 }
noncomputable def o11S0 : Params → Obj := fun P => { cls := Value.type "dict", data := Data.dict #[{ hash := PyData.keyHash P (Str.ofString "__name__"), key := Value.str (Str.ofString "__name__") 247, val := Value.str (Str.ofString "_sre") 246 }, { hash := PyData.keyHash P (Str.ofString "__doc__"), key := Value.str (Str.ofString "__doc__") 248, val := Value.none }, { hash := PyData.keyHash P (Str.ofString "__package__"), key := Value.str (Str.ofString "__package__") 250, val := Value.str (Str.ofString "") 249 }, { hash := PyData.keyHash P (Str.ofString "__loader__"), key := Value.str (Str.ofString "__loader__") 251, val := Value.builtin "off-the-table:_sre.__loader__:shared#opaque" }, { hash := PyData.keyHash P (Str.ofString "__spec__"), key := Value.str (Str.ofString "__spec__") 252, val := Value.builtin "off-the-table:_sre.__spec__:shared#opaque" }, { hash := PyData.keyHash P (Str.ofString "compile"), key := Value.str (Str.ofString "compile") 253, val := Value.builtin "_sre.compile" }, { hash := PyData.keyHash P (Str.ofString "template"), key := Value.str (Str.ofString "template") 254, val := Value.builtin "off-the-table:_sre.template:shared#opaque" }, { hash := PyData.keyHash P (Str.ofString "getcodesize"), key := Value.str (Str.ofString "getcodesize") 255, val := Value.builtin "off-the-table:_sre.getcodesize:shared#opaque" }, { hash := PyData.keyHash P (Str.ofString "ascii_iscased"), key := Value.str (Str.ofString "ascii_iscased") 256, val := Value.builtin "off-the-table:_sre.ascii_iscased:shared#opaque" }, { hash := PyData.keyHash P (Str.ofString "unicode_iscased"), key := Value.str (Str.ofString "unicode_iscased") 257, val := Value.builtin "off-the-table:_sre.unicode_iscased:shared#opaque" }, { hash := PyData.keyHash P (Str.ofString "ascii_tolower"), key := Value.str (Str.ofString "ascii_tolower") 258, val := Value.builtin "off-the-table:_sre.ascii_tolower:shared#opaque" }, { hash := PyData.keyHash P (Str.ofString "unicode_tolower"), key := Value.str (Str.ofString "unicode_tolower") 259, val := Value.builtin "off-the-table:_sre.unicode_tolower:shared#opaque" }, { hash := PyData.keyHash P (Str.ofString "MAGIC"), key := Value.str (Str.ofString "MAGIC") 261, val := Value.int 20230612 260 }, { hash := PyData.keyHash P (Str.ofString "CODESIZE"), key := Value.str (Str.ofString "CODESIZE") 263, val := Value.int 4 262 }, { hash := PyData.keyHash P (Str.ofString "MAXREPEAT"), key := Value.str (Str.ofString "MAXREPEAT") 265, val := Value.int 4294967295 264 }, { hash := PyData.keyHash P (Str.ofString "MAXGROUPS"), key := Value.str (Str.ofString "MAXGROUPS") 267, val := Value.int 1073741823 266 }, { hash := PyData.keyHash P (Str.ofString "copyright"), key := Value.str (Str.ofString "copyright") 269, val := Value.str (Str.ofString " SRE 2.2.2 Copyright (c) 1997-2002 by Secret Labs AB ") 268 }] 17 }
noncomputable def o12S0 : Params → Obj := fun P => { cls := Value.type "module", dict := some 11 }
noncomputable def o13S0 : Params → Obj := fun P => { cls := Value.type "dict", data := Data.dict #[{ hash := PyData.keyHash P (Str.ofString "__module__"), key := Value.str (Str.ofString "__module__") 189, val := Value.str (Str.ofString "_frozen_importlib") 186 }, { hash := PyData.keyHash P (Str.ofString "__firstlineno__"), key := Value.str (Str.ofString "__firstlineno__") 190, val := Value.int 971 187 }, { hash := PyData.keyHash P (Str.ofString "__doc__"), key := Value.str (Str.ofString "__doc__") 191, val := Value.builtin "_frozen_importlib.BuiltinImporter.__doc__:str#opaque" }, { hash := PyData.keyHash P (Str.ofString "_ORIGIN"), key := Value.str (Str.ofString "_ORIGIN") 192, val := Value.str (Str.ofString "built-in") 188 }, { hash := PyData.keyHash P (Str.ofString "find_spec"), key := Value.str (Str.ofString "find_spec") 193, val := Value.builtin "_frozen_importlib.BuiltinImporter.find_spec#opaque" }, { hash := PyData.keyHash P (Str.ofString "create_module"), key := Value.str (Str.ofString "create_module") 194, val := Value.builtin "_frozen_importlib.BuiltinImporter.create_module#opaque" }, { hash := PyData.keyHash P (Str.ofString "exec_module"), key := Value.str (Str.ofString "exec_module") 195, val := Value.builtin "_frozen_importlib.BuiltinImporter.exec_module#opaque" }, { hash := PyData.keyHash P (Str.ofString "get_code"), key := Value.str (Str.ofString "get_code") 196, val := Value.builtin "_frozen_importlib.BuiltinImporter.get_code#opaque" }, { hash := PyData.keyHash P (Str.ofString "get_source"), key := Value.str (Str.ofString "get_source") 197, val := Value.builtin "_frozen_importlib.BuiltinImporter.get_source#opaque" }, { hash := PyData.keyHash P (Str.ofString "is_package"), key := Value.str (Str.ofString "is_package") 198, val := Value.builtin "_frozen_importlib.BuiltinImporter.is_package#opaque" }, { hash := PyData.keyHash P (Str.ofString "load_module"), key := Value.str (Str.ofString "load_module") 199, val := Value.builtin "_frozen_importlib.BuiltinImporter.load_module#opaque" }, { hash := PyData.keyHash P (Str.ofString "__static_attributes__"), key := Value.str (Str.ofString "__static_attributes__") 200, val := Value.ref 15 }, { hash := PyData.keyHash P (Str.ofString "__dict__"), key := Value.str (Str.ofString "__dict__") 202, val := Value.ref 16 }, { hash := PyData.keyHash P (Str.ofString "__weakref__"), key := Value.str (Str.ofString "__weakref__") 204, val := Value.ref 17 }] 14 }
noncomputable def o14S0 : Params → Obj := fun P => { cls := Value.type "type", data := Data.cls { name := Str.ofString "BuiltinImporter", bases := [Value.type "object"], mro := [Value.ref 14, Value.type "object"], ns := 13, qualname := Str.ofString "BuiltinImporter" } }
noncomputable def o16S0 : Params → Obj := fun P => { cls := Value.type "getset_descriptor", data := Data.fields #[Value.str (Str.ofString "__dict__") 201, Value.ref 14, Value.builtin "function.__dict__", Value.builtin "function.__dict__#set"] }
noncomputable def o17S0 : Params → Obj := fun P => { cls := Value.type "getset_descriptor", data := Data.fields #[Value.str (Str.ofString "__weakref__") 203, Value.ref 14, Value.builtin "ExceptionGroup.__weakref__", Value.none] }
noncomputable def o18S0 : Params → Obj := fun P => { cls := Value.none, data := Data.seq #[Value.int 13 0, Value.str { cps := #[6, 189, 10, 95, 95, 109, 111, 100, 117, 108, 101, 95, 95, 6, 186, 17, 95, 102, 114, 111, 122, 101, 110, 95, 105, 109, 112, 111, 114, 116, 108, 105, 98, 6, 190, 15, 95, 95, 102, 105, 114, 115, 116, 108, 105, 110, 101, 110, 111, 95, 95, 4, 187, 0, 971, 6, 191, 7, 95, 95, 100, 111, 99, 95, 95, 9, 52, 95, 102, 114, 111, 122, 101, 110, 95, 105, 109, 112, 111, 114, 116, 108, 105, 98, 46, 66, 117, 105, 108, 116, 105, 110, 73, 109, 112, 111, 114, 116, 101, 114, 46, 95, 95, 100, 111, 99, 95, 95, 58, 115, 116, 114, 35, 111, 112, 97, 113, 117, 101, 6, 192, 7, 95, 79, 82, 73, 71, 73, 78, 6, 188, 8, 98, 117, 105, 108, 116, 45, 105, 110, 6, 193, 9, 102, 105, 110, 100, 95, 115, 112, 101, 99, 9, 50, 95, 102, 114, 111, 122, 101, 110, 95, 105, 109, 112, 111, 114, 116, 108, 105, 98, 46, 66, 117, 105, 108, 116, 105, 110, 73, 109, 112, 111, 114, 116, 101, 114, 46, 102, 105, 110, 100, 95, 115, 112, 101, 99, 35, 111, 112, 97, 113, 117, 101, 6, 194, 13, 99, 114, 101, 97, 116, 101, 95, 109, 111, 100, 117, 108, 101, 9, 54, 95, 102, 114, 111, 122, 101, 110, 95, 105, 109, 112, 111, 114, 116, 108, 105, 98, 46, 66, 117, 105, 108, 116, 105, 110, 73, 109, 112, 111, 114, 116, 101, 114, 46, 99, 114, 101, 97, 116, 101, 95, 109, 111, 100, 117, 108, 101, 35, 111, 112, 97, 113, 117, 101, 6, 195, 11, 101, 120, 101, 99, 95, 109, 111, 100, 117, 108, 101, 9, 52, 95, 102, 114, 111, 122, 101, 110, 95, 105, 109, 112, 111, 114, 116, 108, 105, 98, 46, 66, 117, 105, 108, 116, 105, 110, 73, 109, 112, 111, 114, 116, 101, 114, 46, 101, 120, 101, 99, 95, 109, 111, 100, 117, 108, 101, 35, 111, 112, 97, 113, 117, 101, 6, 196, 8, 103, 101, 116, 95, 99, 111, 100, 101, 9, 49, 95, 102, 114, 111, 122, 101, 110, 95, 105, 109, 112, 111, 114, 116, 108, 105, 98, 46, 66, 117, 105, 108, 116, 105, 110, 73, 109, 112, 111, 114, 116, 101, 114, 46, 103, 101, 116, 95, 99, 111, 100, 101, 35, 111, 112, 97, 113, 117, 101, 6, 197, 10, 103, 101, 116, 95, 115, 111, 117, 114, 99, 101, 9, 51, 95, 102, 114, 111, 122, 101, 110, 95, 105, 109, 112, 111, 114, 116, 108, 105, 98, 46, 66, 117, 105, 108, 116, 105, 110, 73, 109, 112, 111, 114, 116, 101, 114, 46, 103, 101, 116, 95, 115, 111, 117, 114, 99, 101, 35, 111, 112, 97, 113, 117, 101, 6, 198, 10, 105, 115, 95, 112, 97, 99, 107, 97, 103, 101, 9, 51, 95, 102, 114, 111, 122, 101, 110, 95, 105, 109, 112, 111, 114, 116, 108, 105, 98, 46, 66, 117, 105, 108, 116, 105, 110, 73, 109, 112, 111, 114, 116, 101, 114, 46, 105, 115, 95, 112, 97, 99, 107, 97, 103, 101, 35, 111, 112, 97, 113, 117, 101, 6, 199, 11, 108, 111, 97, 100, 95, 109, 111, 100, 117, 108, 101, 9, 52, 95, 102, 114, 111, 122, 101, 110, 95, 105, 109, 112, 111, 114, 116, 108, 105, 98, 46, 66, 117, 105, 108, 116, 105, 110, 73, 109, 112, 111, 114, 116, 101, 114, 46, 108, 111, 97, 100, 95, 109, 111, 100, 117, 108, 101, 35, 111, 112, 97, 113, 117, 101, 6, 200, 21, 95, 95, 115, 116, 97, 116, 105, 99, 95, 97, 116, 116, 114, 105, 98, 117, 116, 101, 115, 95, 95, 4, 0, 0, 15, 6, 202, 8, 95, 95, 100, 105, 99, 116, 95, 95, 4, 0, 0, 16, 6, 204, 11, 95, 95, 119, 101, 97, 107, 114, 101, 102, 95, 95, 4, 0, 0, 17] } 0, Value.bool true, Value.bool true, Value.str (Str.ofString "") 205, Value.int 21 0, Value.str { cps := #[6, 227, 10, 95, 95, 109, 111, 100, 117, 108, 101, 95, 95, 6, 217, 17, 95, 102, 114, 111, 122, 101, 110, 95, 105, 109, 112, 111, 114, 116, 108, 105, 98, 6, 228, 15, 95, 95, 102, 105, 114, 115, 116, 108, 105, 110, 101, 110, 111, 95, 95, 4, 218, 0, 562, 6, 229, 7, 95, 95, 100, 111, 99, 95, 95, 9, 47, 95, 102, 114, 111, 122, 101, 110, 95, 105, 109, 112, 111, 114, 116, 108, 105, 98, 46, 77, 111, 100, 117, 108, 101, 83, 112, 101, 99, 46, 95, 95, 100, 111, 99, 95, 95, 58, 115, 116, 114, 35, 111, 112, 97, 113, 117, 101, 6, 230, 8, 95, 95, 105, 110, 105, 116, 95, 95, 9, 44, 95, 102, 114, 111, 122, 101, 110, 95, 105, 109, 112, 111, 114, 116, 108, 105, 98, 46, 77, 111, 100, 117, 108, 101, 83, 112, 101, 99, 46, 95, 95, 105, 110, 105, 116, 95, 95, 35, 111, 112, 97, 113, 117, 101, 6, 231, 8, 95, 95, 114, 101, 112, 114, 95, 95, 9, 44, 95, 102, 114, 111, 122, 101, 110, 95, 105, 109, 112, 111, 114, 116, 108, 105, 98, 46, 77, 111, 100, 117, 108, 101, 83, 112, 101, 99, 46, 95, 95, 114, 101, 112, 114, 95, 95, 35, 111, 112, 97, 113, 117, 101, 6, 232, 6, 95, 95, 101, 113, 95, 95, 9, 42, 95, 102, 114, 111, 122, 101, 110, 95, 105, 109, 112, 111, 114, 116, 108, 105, 98, 46, 77, 111, 100, 117, 108, 101, 83, 112, 101, 99, 46, 95, 95, 101, 113, 95, 95, 35, 111, 112, 97, 113, 117, 101, 6, 233, 6, 99, 97, 99, 104, 101, 100, 9, 42, 95, 102, 114, 111, 122, 101, 110, 95, 105, 109, 112, 111, 114, 116, 108, 105, 98, 46, 77, 111, 100, 117, 108, 101, 83, 112, 101, 99, 46, 99, 97, 99, 104, 101, 100, 35, 111, 112, 97, 113, 117, 101, 6, 234, 6, 112, 97, 114, 101, 110, 116, 9, 42, 95, 102, 114, 111, 122, 101, 110, 95, 105, 109, 112, 111, 114, 116, 108, 105, 98, 46, 77, 111, 100, 117, 108, 101, 83, 112, 101, 99, 46, 112, 97, 114, 101, 110, 116, 35, 111, 112, 97, 113, 117, 101, 6, 235, 12, 104, 97, 115, 95, 108, 111, 99, 97, 116, 105, 111, 110, 9, 48, 95, 102, 114, 111, 122, 101, 110, 95, 105, 109, 112, 111, 114, 116, 108, 105, 98, 46, 77, 111, 100, 117, 108, 101, 83, 112, 101, 99, 46, 104, 97, 115, 95, 108, 111, 99, 97, 116, 105, 111, 110, 35, 111, 112, 97, 113, 117, 101, 6, 236, 21, 95, 95, 115, 116, 97, 116, 105, 99, 95, 97, 116, 116, 114, 105, 98, 117, 116, 101, 115, 95, 95, 4, 0, 0, 23, 6, 238, 8, 95, 95, 100, 105, 99, 116, 95, 95, 4, 0, 0, 24, 6, 240, 11, 95, 95, 119, 101, 97, 107, 114, 101, 102, 95, 95, 4, 0, 0, 25, 6, 241, 8, 95, 95, 104, 97, 115, 104, 95, 95, 0] } 0, Value.bool true, Value.bool true, Value.str (Str.ofString "") 242] 1 }
noncomputable def o19S0 : Params → Obj := fun P => { cls := Value.type "list", data := Data.seq #[] }
noncomputable def o20S0 : Params → Obj := fun P => { cls := Value.type "dict", data := Data.dict #[{ hash := PyData.keyHash P (Str.ofString "name"), key := Value.str (Str.ofString "name") 208, val := Value.str (Str.ofString "_sre") 207 }, { hash := PyData.keyHash P (Str.ofString "loader"), key := Value.str (Str.ofString "loader") 209, val := Value.ref 14 }, { hash := PyData.keyHash P (Str.ofString "origin"), key := Value.str (Str.ofString "origin") 210, val := Value.str (Str.ofString "built-in") 184 }, { hash := PyData.keyHash P (Str.ofString "loader_state"), key := Value.str (Str.ofString "loader_state") 211, val := Value.none }, { hash := PyData.keyHash P (Str.ofString "submodule_search_locations"), key := Value.str (Str.ofString "submodule_search_locations") 212, val := Value.none }, { hash := PyData.keyHash P (Str.ofString "_uninitialized_submodules"), key := Value.str (Str.ofString "_uninitialized_submodules") 213, val := Value.ref 19 }, { hash := PyData.keyHash P (Str.ofString "_set_fileattr"), key := Value.str (Str.ofString "_set_fileattr") 214, val := Value.bool false }, { hash := PyData.keyHash P (Str.ofString "_cached"), key := Value.str (Str.ofString "_cached") 215, val := Value.none }, { hash := PyData.keyHash P (Str.ofString "_initializing"), key := Value.str (Str.ofString "_initializing") 243, val := Value.bool false }] 9 }
noncomputable def o21S0 : Params → Obj := fun P => { cls := Value.type "dict", data := Data.dict #[{ hash := PyData.keyHash P (Str.ofString "__module__"), key := Value.str (Str.ofString "__module__") 227, val := Value.str (Str.ofString "_frozen_importlib") 217 }, { hash := PyData.keyHash P (Str.ofString "__firstlineno__"), key := Value.str (Str.ofString "__firstlineno__") 228, val := Value.int 562 218 }, { hash := PyData.keyHash P (Str.ofString "__doc__"), key := Value.str (Str.ofString "__doc__") 229, val := Value.builtin "_frozen_importlib.ModuleSpec.__doc__:str#opaque" }, { hash := PyData.keyHash P (Str.ofString "__init__"), key := Value.str (Str.ofString "__init__") 230, val := Value.builtin "_frozen_importlib.ModuleSpec.__init__#opaque" }, { hash := PyData.keyHash P (Str.ofString "__repr__"), key := Value.str (Str.ofString "__repr__") 231, val := Value.builtin "_frozen_importlib.ModuleSpec.__repr__#opaque" }, { hash := PyData.keyHash P (Str.ofString "__eq__"), key := Value.str (Str.ofString "__eq__") 232, val := Value.builtin "_frozen_importlib.ModuleSpec.__eq__#opaque" }, { hash := PyData.keyHash P (Str.ofString "cached"), key := Value.str (Str.ofString "cached") 233, val := Value.builtin "_frozen_importlib.ModuleSpec.cached#opaque" }, { hash := PyData.keyHash P (Str.ofString "parent"), key := Value.str (Str.ofString "parent") 234, val := Value.builtin "_frozen_importlib.ModuleSpec.parent#opaque" }, { hash := PyData.keyHash P (Str.ofString "has_location"), key := Value.str (Str.ofString "has_location") 235, val := Value.builtin "_frozen_importlib.ModuleSpec.has_location#opaque" }, { hash := PyData.keyHash P (Str.ofString "__static_attributes__"), key := Value.str (Str.ofString "__static_attributes__") 236, val := Value.ref 23 }, { hash := PyData.keyHash P (Str.ofString "__dict__"), key := Value.str (Str.ofString "__dict__") 238, val := Value.ref 24 }, { hash := PyData.keyHash P (Str.ofString "__weakref__"), key := Value.str (Str.ofString "__weakref__") 240, val := Value.ref 25 }, { hash := PyData.keyHash P (Str.ofString "__hash__"), key := Value.str (Str.ofString "__hash__") 241, val := Value.none }] 13 }
noncomputable def o22S0 : Params → Obj := fun P => { cls := Value.type "type", data := Data.cls { name := Str.ofString "ModuleSpec", bases := [Value.type "object"], mro := [Value.ref 22, Value.type "object"], ns := 21, qualname := Str.ofString "ModuleSpec" } }
noncomputable def o23S0 : Params → Obj := fun P => { cls := Value.type "tuple", data := Data.seq #[Value.str (Str.ofString "_cached") 219, Value.str (Str.ofString "_set_fileattr") 220, Value.str (Str.ofString "_uninitialized_submodules") 221, Value.str (Str.ofString "loader") 222, Value.str (Str.ofString "loader_state") 223, Value.str (Str.ofString "name") 224, Value.str (Str.ofString "origin") 225, Value.str (Str.ofString "submodule_search_locations") 226] }
noncomputable def o24S0 : Params → Obj := fun P => { cls := Value.type "getset_descriptor", data := Data.fields #[Value.str (Str.ofString "__dict__") 237, Value.ref 22, Value.builtin "function.__dict__", Value.builtin "function.__dict__#set"] }
noncomputable def o25S0 : Params → Obj := fun P => { cls := Value.type "getset_descriptor", data := Data.fields #[Value.str (Str.ofString "__weakref__") 239, Value.ref 22, Value.builtin "ExceptionGroup.__weakref__", Value.none] }
noncomputable def o26S0 : Params → Obj := fun P => { cls := Value.ref 22, dict := some 20 }
noncomputable def o27S0 : Params → Obj := fun P => { cls := Value.none, data := Data.seq #[Value.int 11 0, Value.str { cps := #[6, 247, 8, 95, 95, 110, 97, 109, 101, 95, 95, 6, 246, 4, 95, 115, 114, 101, 6, 248, 7, 95, 95, 100, 111, 99, 95, 95, 0, 6, 250, 11, 95, 95, 112, 97, 99, 107, 97, 103, 101, 95, 95, 6, 249, 0, 6, 251, 10, 95, 95, 108, 111, 97, 100, 101, 114, 95, 95, 4, 0, 0, 14, 6, 252, 8, 95, 95, 115, 112, 101, 99, 95, 95, 4, 0, 0, 26, 6, 253, 7, 99, 111, 109, 112, 105, 108, 101, 9, 12, 95, 115, 114, 101, 46, 99, 111, 109, 112, 105, 108, 101, 6, 254, 8, 116, 101, 109, 112, 108, 97, 116, 101, 9, 13, 95, 115, 114, 101, 46, 116, 101, 109, 112, 108, 97, 116, 101, 6, 255, 11, 103, 101, 116, 99, 111, 100, 101, 115, 105, 122, 101, 9, 16, 95, 115, 114, 101, 46, 103, 101, 116, 99, 111, 100, 101, 115, 105, 122, 101, 6, 256, 13, 97, 115, 99, 105, 105, 95, 105, 115, 99, 97, 115, 101, 100, 9, 18, 95, 115, 114, 101, 46, 97, 115, 99, 105, 105, 95, 105, 115, 99, 97, 115, 101, 100, 6, 257, 15, 117, 110, 105, 99, 111, 100, 101, 95, 105, 115, 99, 97, 115, 101, 100, 9, 20, 95, 115, 114, 101, 46, 117, 110, 105, 99, 111, 100, 101, 95, 105, 115, 99, 97, 115, 101, 100, 6, 258, 13, 97, 115, 99, 105, 105, 95, 116, 111, 108, 111, 119, 101, 114, 9, 18, 95, 115, 114, 101, 46, 97, 115, 99, 105, 105, 95, 116, 111, 108, 111, 119, 101, 114, 6, 259, 15, 117, 110, 105, 99, 111, 100, 101, 95, 116, 111, 108, 111, 119, 101, 114, 9, 20, 95, 115, 114, 101, 46, 117, 110, 105, 99, 111, 100, 101, 95, 116, 111, 108, 111, 119, 101, 114, 6, 261, 5, 77, 65, 71, 73, 67, 4, 260, 0, 20230612, 6, 263, 8, 67, 79, 68, 69, 83, 73, 90, 69, 4, 262, 0, 4, 6, 265, 9, 77, 65, 88, 82, 69, 80, 69, 65, 84, 4, 264, 0, 4294967295, 6, 267, 9, 77, 65, 88, 71, 82, 79, 85, 80, 83, 4, 266, 0, 1073741823, 6, 269, 9, 99, 111, 112, 121, 114, 105, 103, 104, 116, 6, 268, 53, 32, 83, 82, 69, 32, 50, 46, 50, 46, 50, 32, 67, 111, 112, 121, 114, 105, 103, 104, 116, 32, 40, 99, 41, 32, 49, 57, 57, 55, 45, 50, 48, 48, 50, 32, 98, 121, 32, 83, 101, 99, 114, 101, 116, 32, 76, 97, 98, 115, 32, 65, 66, 32] } 0, Value.bool true, Value.bool false, Value.str (Str.ofString "_sre") 271] }
noncomputable def o30Sa : Params → Obj := fun P => { cls := Value.type "code", data := Data.fields #[Value.str (Str.ofString "<module>") 277, Value.str (Str.ofString "<module>") 278, Value.str (Str.ofString "/claim/cut.py") 279, Value.int 1 0, Value.int 0 0, Value.int 0 0, Value.int 0 0, Value.int 0 0, Value.ref 28, Value.bool false, Value.int 276 0, Value.ref 29, Value.none, Value.none, Value.none, Value.none, Value.int 280 0, Value.int 1 0, Value.str (Str.ofString "/claim/cut.py") 281] }
noncomputable def o31Sa : Params → Obj := fun P => { cls := Value.type "frame", slots := #[some (Value.ref 30), some (Value.ref 3), some (Value.ref 3), none, some (Value.str (Str.ofString "__main__") 164), none, some (Value.ref 0)] }
noncomputable def o3SA : Params → Obj := fun P => { cls := Value.type "dict", data := Data.dict #[{ hash := PyData.keyHash P (Str.ofString "__name__"), key := Value.str (Str.ofString "__name__") 165, val := Value.str (Str.ofString "re") 379 }, { hash := PyData.keyHash P (Str.ofString "__doc__"), key := Value.str (Str.ofString "__doc__") 166, val := Value.none }, { hash := PyData.keyHash P (Str.ofString "__package__"), key := Value.str (Str.ofString "__package__") 167, val := Value.none }, { hash := PyData.keyHash P (Str.ofString "__loader__"), key := Value.str (Str.ofString "__loader__") 168, val := Value.builtin "__main__.__loader__#opaque" }, { hash := PyData.keyHash P (Str.ofString "__spec__"), key := Value.str (Str.ofString "__spec__") 169, val := Value.none }, { hash := PyData.keyHash P (Str.ofString "__annotations__"), key := Value.str (Str.ofString "__annotations__") 170, val := Value.ref 6 }, { hash := PyData.keyHash P (Str.ofString "__builtins__"), key := Value.str (Str.ofString "__builtins__") 171, val := Value.ref 4 }, { hash := PyData.keyHash P (Str.ofString "__file__"), key := Value.str (Str.ofString "__file__") 173, val := Value.str (Str.ofString "/claim/cut.py") 172 }, { hash := PyData.keyHash P (Str.ofString "__cached__"), key := Value.str (Str.ofString "__cached__") 174, val := Value.none }, { hash := PyData.keyHash P (Str.ofString "_sre"), key := Value.str (Str.ofString "_sre") 275, val := Value.ref 12 }, { hash := PyData.keyHash P (Str.ofString "read_uint1"), key := Value.str (Str.ofString "read_uint1") 291, val := Value.ref 38 }, { hash := PyData.keyHash P (Str.ofString "read_string1"), key := Value.str (Str.ofString "read_string1") 300, val := Value.ref 45 }, { hash := PyData.keyHash P (Str.ofString "_Example"), key := Value.str (Str.ofString "_Example") 329, val := Value.ref 62 }, { hash := PyData.keyHash P (Str.ofString "_twin_re_1"), key := Value.str (Str.ofString "_twin_re_1") 369, val := Value.ref 71 }, { hash := PyData.keyHash P (Str.ofString "translate"), key := Value.str (Str.ofString "translate") 378, val := Value.ref 78 }] 15 }
noncomputable def o29SA : Params → Obj := fun P => { cls := Value.none, data := Data.fields #[Value.int 3 0, Value.int 0 0, Value.ref 37, Value.int 8 0, Value.int 0 0, Value.ref 44, Value.int 15 0, Value.int 0 0, Value.ref 51, Value.int 21 0, Value.int 0 0, Value.ref 77] }
noncomputable def o34SA : Params → Obj := fun P => { cls := Value.type "tuple", data := Data.seq #[Value.str (Str.ofString "f") 287, Value.str (Str.ofString "data") 288] }
noncomputable def o36SA : Params → Obj := fun P => { cls := Value.none, data := Data.func { name := Str.ofString "read_uint1", qualname := Str.ofString "read_uint1", params := { posonlyargs := [], args := [{ arg := Str.ofString "f", annotation := none, pos := { line := 3, col := 15, endLine := 3, endCol := 16 } }], vararg := none, kwonlyargs := [], kw_defaults := [], kwarg := none, defaults := [] }, body := FuncBody.stmts (bodyAt 2), scope := scopeAt 2, globals := 0, closure := [], defaults := Value.none, kwdefaults := Value.none } }
noncomputable def o37SA : Params → Obj := fun P => { cls := Value.type "code", data := Data.fields #[Value.str (Str.ofString "read_uint1") 284, Value.str (Str.ofString "read_uint1") 285, Value.str (Str.ofString "/claim/cut.py") 286, Value.int 3 0, Value.int 1 0, Value.int 0 0, Value.int 0 0, Value.int 3 0, Value.ref 32, Value.bool true, Value.int 276 0, Value.ref 33, Value.none, Value.ref 34, Value.ref 35, Value.ref 36, Value.int 289 0, Value.int 3 0, Value.str (Str.ofString "/claim/cut.py") 290] }
noncomputable def o38SA : Params → Obj := fun P => { cls := Value.type "function", data := Data.func { name := Str.ofString "read_uint1", qualname := Str.ofString "read_uint1", params := { posonlyargs := [], args := [{ arg := Str.ofString "f", annotation := none, pos := { line := 3, col := 15, endLine := 3, endCol := 16 } }], vararg := none, kwonlyargs := [], kw_defaults := [], kwarg := none, defaults := [] }, body := FuncBody.stmts (bodyAt 2), scope := scopeAt 2, globals := 3, closure := [], defaults := Value.none, kwdefaults := Value.none, pyModule := Value.str (Str.ofString "cpy313.pickletools") 282, code := Value.ref 37 } }
noncomputable def o41SA : Params → Obj := fun P => { cls := Value.type "tuple", data := Data.seq #[Value.str (Str.ofString "f") 295, Value.str (Str.ofString "n") 296, Value.str (Str.ofString "data") 297] }
noncomputable def o43SA : Params → Obj := fun P => { cls := Value.none, data := Data.func { name := Str.ofString "read_string1", qualname := Str.ofString "read_string1", params := { posonlyargs := [], args := [{ arg := Str.ofString "f", annotation := none, pos := { line := 8, col := 17, endLine := 8, endCol := 18 } }], vararg := none, kwonlyargs := [], kw_defaults := [], kwarg := none, defaults := [] }, body := FuncBody.stmts (bodyAt 3), scope := scopeAt 3, globals := 0, closure := [], defaults := Value.none, kwdefaults := Value.none } }
noncomputable def o44SA : Params → Obj := fun P => { cls := Value.type "code", data := Data.fields #[Value.str (Str.ofString "read_string1") 292, Value.str (Str.ofString "read_string1") 293, Value.str (Str.ofString "/claim/cut.py") 294, Value.int 8 0, Value.int 1 0, Value.int 0 0, Value.int 0 0, Value.int 3 0, Value.ref 39, Value.bool true, Value.int 276 0, Value.ref 40, Value.none, Value.ref 41, Value.ref 42, Value.ref 43, Value.int 298 0, Value.int 8 0, Value.str (Str.ofString "/claim/cut.py") 299] }
noncomputable def o45SA : Params → Obj := fun P => { cls := Value.type "function", data := Data.func { name := Str.ofString "read_string1", qualname := Str.ofString "read_string1", params := { posonlyargs := [], args := [{ arg := Str.ofString "f", annotation := none, pos := { line := 8, col := 17, endLine := 8, endCol := 18 } }], vararg := none, kwonlyargs := [], kw_defaults := [], kwarg := none, defaults := [] }, body := FuncBody.stmts (bodyAt 3), scope := scopeAt 3, globals := 3, closure := [], defaults := Value.none, kwdefaults := Value.none, pyModule := Value.str (Str.ofString "cpy313.pickletools") 282, code := Value.ref 44 } }
noncomputable def o47SA : Params → Obj := fun P => { cls := Value.type "builtin_function_or_method", data := Data.fields #[Value.builtin "type.__prepare__", Value.type "type"] }
noncomputable def o48SA : Params → Obj := fun P => { cls := Value.type "dict", data := Data.dict #[{ hash := PyData.keyHash P (Str.ofString "__module__"), key := Value.str (Str.ofString "__module__") 308, val := Value.str (Str.ofString "cpy313.pickletools") 282 }, { hash := PyData.keyHash P (Str.ofString "__qualname__"), key := Value.str (Str.ofString "__qualname__") 310, val := Value.str (Str.ofString "_Example") 309 }, { hash := PyData.keyHash P (Str.ofString "__firstlineno__"), key := Value.str (Str.ofString "__firstlineno__") 312, val := Value.int 15 311 }, { hash := PyData.keyHash P (Str.ofString "__init__"), key := Value.str (Str.ofString "__init__") 320, val := Value.ref 59 }, { hash := PyData.keyHash P (Str.ofString "__static_attributes__"), key := Value.str (Str.ofString "__static_attributes__") 322, val := Value.ref 60 }] 5 }
noncomputable def o50SA : Params → Obj := fun P => { cls := Value.none, data := Data.fields #[Value.int 17 0, Value.int 4 0, Value.ref 58] }
noncomputable def o51SA : Params → Obj := fun P => { cls := Value.type "code", data := Data.fields #[Value.str (Str.ofString "_Example") 303, Value.str (Str.ofString "_Example") 304, Value.str (Str.ofString "/claim/cut.py") 305, Value.int 15 0, Value.int 0 0, Value.int 0 0, Value.int 0 0, Value.int 0 0, Value.ref 49, Value.bool false, Value.int 276 0, Value.ref 50, Value.none, Value.none, Value.none, Value.none, Value.int 306 0, Value.int 15 0, Value.str (Str.ofString "/claim/cut.py") 307] }
noncomputable def o52SA : Params → Obj := fun P => { cls := Value.type "frame", slots := #[some (Value.ref 51), some (Value.ref 3), some (Value.ref 48), none, some (Value.str (Str.ofString "cpy313.pickletools") 282), none, some (Value.ref 0)] }
noncomputable def o55SA : Params → Obj := fun P => { cls := Value.type "tuple", data := Data.seq #[Value.str (Str.ofString "self") 316, Value.str (Str.ofString "value") 317] }
noncomputable def o57SA : Params → Obj := fun P => { cls := Value.none, data := Data.func { name := Str.ofString "__init__", qualname := Str.ofString "_Example.__init__", params := { posonlyargs := [], args := [{ arg := Str.ofString "self", annotation := none, pos := { line := 17, col := 17, endLine := 17, endCol := 21 } }, { arg := Str.ofString "value", annotation := none, pos := { line := 17, col := 23, endLine := 17, endCol := 28 } }], vararg := none, kwonlyargs := [], kw_defaults := [], kwarg := none, defaults := [] }, body := FuncBody.stmts (initB0), scope := initS0, globals := 0, closure := [], defaults := Value.none, kwdefaults := Value.none } }
noncomputable def o58SA : Params → Obj := fun P => { cls := Value.type "code", data := Data.fields #[Value.str (Str.ofString "__init__") 313, Value.str (Str.ofString "_Example.__init__") 314, Value.str (Str.ofString "/claim/cut.py") 315, Value.int 17 0, Value.int 2 0, Value.int 0 0, Value.int 0 0, Value.int 3 0, Value.ref 53, Value.bool true, Value.int 276 0, Value.ref 54, Value.none, Value.ref 55, Value.ref 56, Value.ref 57, Value.int 318 0, Value.int 17 0, Value.str (Str.ofString "/claim/cut.py") 319] }
noncomputable def o59SA : Params → Obj := fun P => { cls := Value.type "function", data := Data.func { name := Str.ofString "__init__", qualname := Str.ofString "_Example.__init__", params := { posonlyargs := [], args := [{ arg := Str.ofString "self", annotation := none, pos := { line := 17, col := 17, endLine := 17, endCol := 21 } }, { arg := Str.ofString "value", annotation := none, pos := { line := 17, col := 23, endLine := 17, endCol := 28 } }], vararg := none, kwonlyargs := [], kw_defaults := [], kwarg := none, defaults := [] }, body := FuncBody.stmts (initB0), scope := initS0, globals := 3, closure := [], defaults := Value.none, kwdefaults := Value.none, pyModule := Value.str (Str.ofString "cpy313.pickletools") 282, code := Value.ref 58 } }
noncomputable def o60SA : Params → Obj := fun P => { cls := Value.type "tuple", data := Data.seq #[Value.str (Str.ofString "value") 321] }
noncomputable def o61SA : Params → Obj := fun P => { cls := Value.type "dict", data := Data.dict #[{ hash := PyData.keyHash P (Str.ofString "__module__"), key := Value.str (Str.ofString "__module__") 308, val := Value.str (Str.ofString "cpy313.pickletools") 282 }, { hash := PyData.keyHash P (Str.ofString "__firstlineno__"), key := Value.str (Str.ofString "__firstlineno__") 312, val := Value.int 15 311 }, { hash := PyData.keyHash P (Str.ofString "__init__"), key := Value.str (Str.ofString "__init__") 320, val := Value.ref 59 }, { hash := PyData.keyHash P (Str.ofString "__static_attributes__"), key := Value.str (Str.ofString "__static_attributes__") 322, val := Value.ref 60 }, { hash := PyData.keyHash P (Str.ofString "__dict__"), key := Value.str (Str.ofString "__dict__") 324, val := Value.ref 63 }, { hash := PyData.keyHash P (Str.ofString "__weakref__"), key := Value.str (Str.ofString "__weakref__") 326, val := Value.ref 64 }, { hash := PyData.keyHash P (Str.ofString "__doc__"), key := Value.str (Str.ofString "__doc__") 327, val := Value.none }] 4 }
noncomputable def o62SA : Params → Obj := fun P => { cls := Value.type "type", data := Data.cls { name := Str.ofString "_Example", bases := [Value.type "object"], mro := [Value.ref 62, Value.type "object"], ns := 61, qualname := Str.ofString "_Example" }, slots := #[none, none, some (Value.str (Str.ofString "_Example") 301), some (Value.str (Str.ofString "_Example") 309), some (Value.builtin "object.__new__"), some (Value.bool true)] }
noncomputable def o63SA : Params → Obj := fun P => { cls := Value.type "getset_descriptor", data := Data.fields #[Value.str (Str.ofString "__dict__") 323, Value.ref 62, Value.builtin "function.__dict__", Value.builtin "function.__dict__#set"] }
noncomputable def o64SA : Params → Obj := fun P => { cls := Value.type "getset_descriptor", data := Data.fields #[Value.str (Str.ofString "__weakref__") 325, Value.ref 62, Value.builtin "ExceptionGroup.__weakref__", Value.none] }
noncomputable def o65SA : Params → Obj := fun P => { cls := Value.type "super", data := Data.fields #[Value.ref 62, Value.ref 62, Value.ref 62] }
noncomputable def o66SA : Params → Obj := fun P => { cls := Value.type "builtin_function_or_method", data := Data.fields #[Value.builtin "object.__init_subclass__", Value.ref 62] }
noncomputable def o67SA : Params → Obj := fun P => { cls := Value.type "list", data := Data.seq #[Value.int 14 335, Value.int 14 336, Value.int 4 337, Value.int 1 338, Value.int 1 339, Value.int 9 340, Value.int 0 341, Value.int 64 342, Value.int 0 343, Value.int 1342177280 344, Value.int 0 345, Value.int 0 346, Value.int 0 347, Value.int 0 348, Value.int 0 349, Value.int 17 350, Value.int 0 351, Value.int 13 352, Value.int 11 353, Value.int 9 354, Value.int 0 355, Value.int 64 356, Value.int 0 357, Value.int 1342177280 358, Value.int 0 359, Value.int 0 360, Value.int 0 361, Value.int 0 362, Value.int 0 363, Value.int 17 364, Value.int 1 365, Value.int 1 366] }
noncomputable def o69SA : Params → Obj := fun P => { cls := Value.type "tuple", data := Data.seq #[Value.none, Value.none] }
noncomputable def o70SA : Params → Obj := fun P => { cls := Value.type "tuple", data := Data.seq #[Value.int 14 0, Value.int 14 0, Value.int 4 0, Value.int 1 0, Value.int 1 0, Value.int 9 0, Value.int 0 0, Value.int 64 0, Value.int 0 0, Value.int 1342177280 0, Value.int 0 0, Value.int 0 0, Value.int 0 0, Value.int 0 0, Value.int 0 0, Value.int 17 0, Value.int 0 0, Value.int 13 0, Value.int 11 0, Value.int 9 0, Value.int 0 0, Value.int 64 0, Value.int 0 0, Value.int 1342177280 0, Value.int 0 0, Value.int 0 0, Value.int 0 0, Value.int 0 0, Value.int 0 0, Value.int 17 0, Value.int 1 0, Value.int 1 0] }
noncomputable def o71SA : Params → Obj := fun P => { cls := Value.type "re.Pattern", data := Data.fields #[Value.str (Str.ofString "([&~|])") 333, Value.int 32 368, Value.int 1 0, Value.none, Value.none, Value.ref 70, Value.int 0 0] }
noncomputable def o74SA : Params → Obj := fun P => { cls := Value.type "tuple", data := Data.seq #[Value.str (Str.ofString "pat") 373, Value.str (Str.ofString "STAR") 374, Value.str (Str.ofString "parts") 375] }
noncomputable def o76SA : Params → Obj := fun P => { cls := Value.none, data := Data.func { name := Str.ofString "translate", qualname := Str.ofString "translate", params := { posonlyargs := [], args := [{ arg := Str.ofString "pat", annotation := none, pos := { line := 21, col := 14, endLine := 21, endCol := 17 } }], vararg := none, kwonlyargs := [], kw_defaults := [], kwarg := none, defaults := [] }, body := FuncBody.stmts (bodyAt 7), scope := scopeAt 7, globals := 0, closure := [], defaults := Value.none, kwdefaults := Value.none } }
noncomputable def o77SA : Params → Obj := fun P => { cls := Value.type "code", data := Data.fields #[Value.str (Str.ofString "translate") 370, Value.str (Str.ofString "translate") 371, Value.str (Str.ofString "/claim/cut.py") 372, Value.int 21 0, Value.int 1 0, Value.int 0 0, Value.int 0 0, Value.int 3 0, Value.ref 72, Value.bool true, Value.int 276 0, Value.ref 73, Value.none, Value.ref 74, Value.ref 75, Value.ref 76, Value.int 376 0, Value.int 21 0, Value.str (Str.ofString "/claim/cut.py") 377] }
noncomputable def o78SA : Params → Obj := fun P => { cls := Value.type "function", data := Data.func { name := Str.ofString "translate", qualname := Str.ofString "translate", params := { posonlyargs := [], args := [{ arg := Str.ofString "pat", annotation := none, pos := { line := 21, col := 14, endLine := 21, endCol := 17 } }], vararg := none, kwonlyargs := [], kw_defaults := [], kwarg := none, defaults := [] }, body := FuncBody.stmts (bodyAt 7), scope := scopeAt 7, globals := 3, closure := [], defaults := Value.none, kwdefaults := Value.none, pyModule := Value.str (Str.ofString "cpy313.fnmatch") 330, code := Value.ref 77 } }
noncomputable def o3SB : Params → Obj := fun P => { cls := Value.type "dict", data := Data.dict #[{ hash := PyData.keyHash P (Str.ofString "__name__"), key := Value.str (Str.ofString "__name__") 165, val := Value.str (Str.ofString "re") 379 }, { hash := PyData.keyHash P (Str.ofString "__doc__"), key := Value.str (Str.ofString "__doc__") 166, val := Value.none }, { hash := PyData.keyHash P (Str.ofString "__package__"), key := Value.str (Str.ofString "__package__") 167, val := Value.none }, { hash := PyData.keyHash P (Str.ofString "__loader__"), key := Value.str (Str.ofString "__loader__") 168, val := Value.builtin "__main__.__loader__#opaque" }, { hash := PyData.keyHash P (Str.ofString "__spec__"), key := Value.str (Str.ofString "__spec__") 169, val := Value.none }, { hash := PyData.keyHash P (Str.ofString "__annotations__"), key := Value.str (Str.ofString "__annotations__") 170, val := Value.ref 6 }, { hash := PyData.keyHash P (Str.ofString "__builtins__"), key := Value.str (Str.ofString "__builtins__") 171, val := Value.ref 4 }, { hash := PyData.keyHash P (Str.ofString "__file__"), key := Value.str (Str.ofString "__file__") 173, val := Value.str (Str.ofString "/claim/cut.py") 172 }, { hash := PyData.keyHash P (Str.ofString "__cached__"), key := Value.str (Str.ofString "__cached__") 174, val := Value.none }, { hash := PyData.keyHash P (Str.ofString "_sre"), key := Value.str (Str.ofString "_sre") 275, val := Value.ref 12 }, { hash := PyData.keyHash P (Str.ofString "read_uint1"), key := Value.str (Str.ofString "read_uint1") 291, val := Value.ref 38 }, { hash := PyData.keyHash P (Str.ofString "read_string1"), key := Value.str (Str.ofString "read_string1") 300, val := Value.ref 45 }, { hash := PyData.keyHash P (Str.ofString "_Example"), key := Value.str (Str.ofString "_Example") 329, val := Value.ref 62 }, { hash := PyData.keyHash P (Str.ofString "_twin_re_1"), key := Value.str (Str.ofString "_twin_re_1") 369, val := Value.ref 71 }, { hash := PyData.keyHash P (Str.ofString "translate"), key := Value.str (Str.ofString "translate") 378, val := Value.ref 78 }, { hash := PyData.keyHash P (Str.ofString "_special_chars_map"), key := Value.str (Str.ofString "_special_chars_map") 526, val := Value.ref 80 }] 16 }
noncomputable def o79SB : Params → Obj := fun P => { cls := Value.type "bytes_iterator", data := Data.fields #[Value.none, Value.int 24 0] }
noncomputable def o80SB : Params → Obj := fun P => { cls := Value.type "dict", data := Data.dict #[{ hash := 40, key := Value.int 40 382, val := Value.str (Str.ofString "\\(") 386 }, { hash := 41, key := Value.int 41 388, val := Value.str (Str.ofString "\\)") 392 }, { hash := 91, key := Value.int 91 394, val := Value.str (Str.ofString "\\[") 398 }, { hash := 93, key := Value.int 93 400, val := Value.str (Str.ofString "\\]") 404 }, { hash := 123, key := Value.int 123 406, val := Value.str (Str.ofString "\\{") 410 }, { hash := 125, key := Value.int 125 412, val := Value.str (Str.ofString "\\}") 416 }, { hash := 63, key := Value.int 63 418, val := Value.str (Str.ofString "\\?") 422 }, { hash := 42, key := Value.int 42 424, val := Value.str (Str.ofString "\\*") 428 }, { hash := 43, key := Value.int 43 430, val := Value.str (Str.ofString "\\+") 434 }, { hash := 45, key := Value.int 45 436, val := Value.str (Str.ofString "\\-") 440 }, { hash := 124, key := Value.int 124 442, val := Value.str (Str.ofString "\\|") 446 }, { hash := 94, key := Value.int 94 448, val := Value.str (Str.ofString "\\^") 452 }, { hash := 36, key := Value.int 36 454, val := Value.str (Str.ofString "\\$") 458 }, { hash := 92, key := Value.int 92 460, val := Value.str (Str.ofString "\\\\") 464 }, { hash := 46, key := Value.int 46 466, val := Value.str (Str.ofString "\\.") 470 }, { hash := 38, key := Value.int 38 472, val := Value.str (Str.ofString "\\&") 476 }, { hash := 126, key := Value.int 126 478, val := Value.str (Str.ofString "\\~") 482 }, { hash := 35, key := Value.int 35 484, val := Value.str (Str.ofString "\\#") 488 }, { hash := 32, key := Value.int 32 490, val := Value.str (Str.ofString "\\ ") 494 }, { hash := 9, key := Value.int 9 496, val := Value.str (Str.ofString "\\\t") 500 }, { hash := 10, key := Value.int 10 502, val := Value.str (Str.ofString "\\\n") 506 }, { hash := 13, key := Value.int 13 508, val := Value.str (Str.ofString "\\\x0d") 512 }, { hash := 11, key := Value.int 11 514, val := Value.str { cps := #[92, 11] } 518 }, { hash := 12, key := Value.int 12 520, val := Value.str { cps := #[92, 12] } 524 }] 24 }
noncomputable def o81SB : Params → Obj := fun P => { cls := Value.type "dict", data := Data.dict #[] 2 }
noncomputable def o83SB : Params → Obj := fun P => { cls := Value.type "StopIteration", data := Data.fields #[Value.ref 82, Value.none, Value.none, Value.none, Value.bool false, Value.none] }
noncomputable def o3SC : Params → Obj := fun P => { cls := Value.type "dict", data := Data.dict #[{ hash := PyData.keyHash P (Str.ofString "__name__"), key := Value.str (Str.ofString "__name__") 165, val := Value.str (Str.ofString "law_rx0125_02") 584 }, { hash := PyData.keyHash P (Str.ofString "__doc__"), key := Value.str (Str.ofString "__doc__") 166, val := Value.none }, { hash := PyData.keyHash P (Str.ofString "__package__"), key := Value.str (Str.ofString "__package__") 167, val := Value.none }, { hash := PyData.keyHash P (Str.ofString "__loader__"), key := Value.str (Str.ofString "__loader__") 168, val := Value.builtin "__main__.__loader__#opaque" }, { hash := PyData.keyHash P (Str.ofString "__spec__"), key := Value.str (Str.ofString "__spec__") 169, val := Value.none }, { hash := PyData.keyHash P (Str.ofString "__annotations__"), key := Value.str (Str.ofString "__annotations__") 170, val := Value.ref 6 }, { hash := PyData.keyHash P (Str.ofString "__builtins__"), key := Value.str (Str.ofString "__builtins__") 171, val := Value.ref 4 }, { hash := PyData.keyHash P (Str.ofString "__file__"), key := Value.str (Str.ofString "__file__") 173, val := Value.str (Str.ofString "/claim/cut.py") 172 }, { hash := PyData.keyHash P (Str.ofString "__cached__"), key := Value.str (Str.ofString "__cached__") 174, val := Value.none }, { hash := PyData.keyHash P (Str.ofString "_sre"), key := Value.str (Str.ofString "_sre") 275, val := Value.ref 12 }, { hash := PyData.keyHash P (Str.ofString "read_uint1"), key := Value.str (Str.ofString "read_uint1") 291, val := Value.ref 38 }, { hash := PyData.keyHash P (Str.ofString "read_string1"), key := Value.str (Str.ofString "read_string1") 300, val := Value.ref 45 }, { hash := PyData.keyHash P (Str.ofString "_Example"), key := Value.str (Str.ofString "_Example") 329, val := Value.ref 62 }, { hash := PyData.keyHash P (Str.ofString "_twin_re_1"), key := Value.str (Str.ofString "_twin_re_1") 369, val := Value.ref 71 }, { hash := PyData.keyHash P (Str.ofString "translate"), key := Value.str (Str.ofString "translate") 378, val := Value.ref 78 }, { hash := PyData.keyHash P (Str.ofString "_special_chars_map"), key := Value.str (Str.ofString "_special_chars_map") 526, val := Value.ref 80 }, { hash := PyData.keyHash P (Str.ofString "escape"), key := Value.str (Str.ofString "escape") 533, val := Value.ref 90 }, { hash := PyData.keyHash P (Str.ofString "_translate"), key := Value.str (Str.ofString "_translate") 554, val := Value.ref 97 }, { hash := PyData.keyHash P (Str.ofString "_join_translated_parts"), key := Value.str (Str.ofString "_join_translated_parts") 567, val := Value.ref 104 }, { hash := PyData.keyHash P (Str.ofString "sorted_list_difference"), key := Value.str (Str.ofString "sorted_list_difference") 583, val := Value.ref 111 }, { hash := PyData.keyHash P (Str.ofString "_law_tape"), key := Value.str (Str.ofString "_law_tape") 595, val := Value.ref 118 }, { hash := PyData.keyHash P (Str.ofString "_law_octets"), key := Value.str (Str.ofString "_law_octets") 604, val := Value.ref 125 }, { hash := PyData.keyHash P (Str.ofString "_law_pattern"), key := Value.str (Str.ofString "_law_pattern") 610, val := Value.ref 130 }, { hash := PyData.keyHash P (Str.ofString "_law_sign"), key := Value.str (Str.ofString "_law_sign") 618, val := Value.ref 137 }, { hash := PyData.keyHash P (Str.ofString "_law_signs"), key := Value.str (Str.ofString "_law_signs") 624, val := Value.ref 142 }, { hash := PyData.keyHash P (Str.ofString "_law_takes"), key := Value.str (Str.ofString "_law_takes") 634, val := Value.ref 149 }, { hash := PyData.keyHash P (Str.ofString "_law_within"), key := Value.str (Str.ofString "_law_within") 640, val := Value.ref 154 }, { hash := PyData.keyHash P (Str.ofString "_law_depths"), key := Value.str (Str.ofString "_law_depths") 646, val := Value.ref 159 }, { hash := PyData.keyHash P (Str.ofString "law"), key := Value.str (Str.ofString "law") 652, val := Value.ref 164 }] 29 }
noncomputable def o29SC : Params → Obj := fun P => { cls := Value.none, data := Data.fields #[Value.int 3 0, Value.int 0 0, Value.ref 37, Value.int 8 0, Value.int 0 0, Value.ref 44, Value.int 15 0, Value.int 0 0, Value.ref 51, Value.int 21 0, Value.int 0 0, Value.ref 77, Value.int 27 0, Value.int 0 0, Value.ref 89, Value.int 34 0, Value.int 0 0, Value.ref 96, Value.int 96 0, Value.int 0 0, Value.ref 103, Value.int 124 0, Value.int 0 0, Value.ref 110, Value.int 157 0, Value.int 0 0, Value.ref 117, Value.int 166 0, Value.int 0 0, Value.ref 124, Value.int 173 0, Value.int 0 0, Value.ref 129, Value.int 175 0, Value.int 0 0, Value.ref 136, Value.int 183 0, Value.int 0 0, Value.ref 141, Value.int 188 0, Value.int 0 0, Value.ref 148, Value.int 195 0, Value.int 0 0, Value.ref 153, Value.int 200 0, Value.int 0 0, Value.ref 158, Value.int 206 0, Value.int 0 0, Value.ref 163] }
noncomputable def o86SC : Params → Obj := fun P => { cls := Value.type "tuple", data := Data.seq #[Value.str (Str.ofString "pattern") 530] }
noncomputable def o88SC : Params → Obj := fun P => { cls := Value.none, data := Data.func { name := Str.ofString "escape", qualname := Str.ofString "escape", params := { posonlyargs := [], args := [{ arg := Str.ofString "pattern", annotation := none, pos := { line := 27, col := 11, endLine := 27, endCol := 18 } }], vararg := none, kwonlyargs := [], kw_defaults := [], kwarg := none, defaults := [] }, body := FuncBody.stmts (bodyAt 10), scope := scopeAt 10, globals := 0, closure := [], defaults := Value.none, kwdefaults := Value.none } }
noncomputable def o89SC : Params → Obj := fun P => { cls := Value.type "code", data := Data.fields #[Value.str (Str.ofString "escape") 527, Value.str (Str.ofString "escape") 528, Value.str (Str.ofString "/claim/cut.py") 529, Value.int 27 0, Value.int 1 0, Value.int 0 0, Value.int 0 0, Value.int 3 0, Value.ref 84, Value.bool true, Value.int 276 0, Value.ref 85, Value.none, Value.ref 86, Value.ref 87, Value.ref 88, Value.int 531 0, Value.int 27 0, Value.str (Str.ofString "/claim/cut.py") 532] }
noncomputable def o90SC : Params → Obj := fun P => { cls := Value.type "function", data := Data.func { name := Str.ofString "escape", qualname := Str.ofString "escape", params := { posonlyargs := [], args := [{ arg := Str.ofString "pattern", annotation := none, pos := { line := 27, col := 11, endLine := 27, endCol := 18 } }], vararg := none, kwonlyargs := [], kw_defaults := [], kwarg := none, defaults := [] }, body := FuncBody.stmts (bodyAt 10), scope := scopeAt 10, globals := 3, closure := [], defaults := Value.none, kwdefaults := Value.none, pyModule := Value.str (Str.ofString "re") 379, code := Value.ref 89 } }
noncomputable def o93SC : Params → Obj := fun P => { cls := Value.type "tuple", data := Data.seq #[Value.str (Str.ofString "pat") 539, Value.str (Str.ofString "STAR") 540, Value.str (Str.ofString "QUESTION_MARK") 541, Value.str (Str.ofString "res") 542, Value.str (Str.ofString "add") 543, Value.str (Str.ofString "i") 544, Value.str (Str.ofString "n") 545, Value.str (Str.ofString "c") 546, Value.str (Str.ofString "j") 547, Value.str (Str.ofString "stuff") 548, Value.str (Str.ofString "chunks") 549, Value.str (Str.ofString "k") 550, Value.str (Str.ofString "chunk") 551] }
noncomputable def o95SC : Params → Obj := fun P => { cls := Value.none, data := Data.func { name := Str.ofString "_translate", qualname := Str.ofString "_translate", params := { posonlyargs := [], args := [{ arg := Str.ofString "pat", annotation := none, pos := { line := 34, col := 15, endLine := 34, endCol := 18 } }, { arg := Str.ofString "STAR", annotation := none, pos := { line := 34, col := 20, endLine := 34, endCol := 24 } }, { arg := Str.ofString "QUESTION_MARK", annotation := none, pos := { line := 34, col := 26, endLine := 34, endCol := 39 } }], vararg := none, kwonlyargs := [], kw_defaults := [], kwarg := none, defaults := [] }, body := FuncBody.stmts (bodyAt 12), scope := scopeAt 12, globals := 0, closure := [], defaults := Value.none, kwdefaults := Value.none } }
noncomputable def o96SC : Params → Obj := fun P => { cls := Value.type "code", data := Data.fields #[Value.str (Str.ofString "_translate") 536, Value.str (Str.ofString "_translate") 537, Value.str (Str.ofString "/claim/cut.py") 538, Value.int 34 0, Value.int 3 0, Value.int 0 0, Value.int 0 0, Value.int 3 0, Value.ref 91, Value.bool true, Value.int 276 0, Value.ref 92, Value.none, Value.ref 93, Value.ref 94, Value.ref 95, Value.int 552 0, Value.int 34 0, Value.str (Str.ofString "/claim/cut.py") 553] }
noncomputable def o97SC : Params → Obj := fun P => { cls := Value.type "function", data := Data.func { name := Str.ofString "_translate", qualname := Str.ofString "_translate", params := { posonlyargs := [], args := [{ arg := Str.ofString "pat", annotation := none, pos := { line := 34, col := 15, endLine := 34, endCol := 18 } }, { arg := Str.ofString "STAR", annotation := none, pos := { line := 34, col := 20, endLine := 34, endCol := 24 } }, { arg := Str.ofString "QUESTION_MARK", annotation := none, pos := { line := 34, col := 26, endLine := 34, endCol := 39 } }], vararg := none, kwonlyargs := [], kw_defaults := [], kwarg := none, defaults := [] }, body := FuncBody.stmts (bodyAt 12), scope := scopeAt 12, globals := 3, closure := [], defaults := Value.none, kwdefaults := Value.none, pyModule := Value.str (Str.ofString "cpy313.fnmatch") 534, code := Value.ref 96 } }
noncomputable def o100SC : Params → Obj := fun P => { cls := Value.type "tuple", data := Data.seq #[Value.str (Str.ofString "inp") 558, Value.str (Str.ofString "STAR") 559, Value.str (Str.ofString "res") 560, Value.str (Str.ofString "add") 561, Value.str (Str.ofString "i") 562, Value.str (Str.ofString "n") 563, Value.str (Str.ofString "fixed") 564] }
noncomputable def o102SC : Params → Obj := fun P => { cls := Value.none, data := Data.func { name := Str.ofString "_join_translated_parts", qualname := Str.ofString "_join_translated_parts", params := { posonlyargs := [], args := [{ arg := Str.ofString "inp", annotation := none, pos := { line := 96, col := 27, endLine := 96, endCol := 30 } }, { arg := Str.ofString "STAR", annotation := none, pos := { line := 96, col := 32, endLine := 96, endCol := 36 } }], vararg := none, kwonlyargs := [], kw_defaults := [], kwarg := none, defaults := [] }, body := FuncBody.stmts (bodyAt 13), scope := scopeAt 13, globals := 0, closure := [], defaults := Value.none, kwdefaults := Value.none } }
noncomputable def o103SC : Params → Obj := fun P => { cls := Value.type "code", data := Data.fields #[Value.str (Str.ofString "_join_translated_parts") 555, Value.str (Str.ofString "_join_translated_parts") 556, Value.str (Str.ofString "/claim/cut.py") 557, Value.int 96 0, Value.int 2 0, Value.int 0 0, Value.int 0 0, Value.int 3 0, Value.ref 98, Value.bool true, Value.int 276 0, Value.ref 99, Value.none, Value.ref 100, Value.ref 101, Value.ref 102, Value.int 565 0, Value.int 96 0, Value.str (Str.ofString "/claim/cut.py") 566] }
noncomputable def o104SC : Params → Obj := fun P => { cls := Value.type "function", data := Data.func { name := Str.ofString "_join_translated_parts", qualname := Str.ofString "_join_translated_parts", params := { posonlyargs := [], args := [{ arg := Str.ofString "inp", annotation := none, pos := { line := 96, col := 27, endLine := 96, endCol := 30 } }, { arg := Str.ofString "STAR", annotation := none, pos := { line := 96, col := 32, endLine := 96, endCol := 36 } }], vararg := none, kwonlyargs := [], kw_defaults := [], kwarg := none, defaults := [] }, body := FuncBody.stmts (bodyAt 13), scope := scopeAt 13, globals := 3, closure := [], defaults := Value.none, kwdefaults := Value.none, pyModule := Value.str (Str.ofString "cpy313.fnmatch") 534, code := Value.ref 103 } }
noncomputable def o107SC : Params → Obj := fun P => { cls := Value.type "tuple", data := Data.seq #[Value.str (Str.ofString "expected") 573, Value.str (Str.ofString "actual") 574, Value.str (Str.ofString "i") 575, Value.str (Str.ofString "j") 576, Value.str (Str.ofString "missing") 577, Value.str (Str.ofString "unexpected") 578, Value.str (Str.ofString "e") 579, Value.str (Str.ofString "a") 580] }
noncomputable def o109SC : Params → Obj := fun P => { cls := Value.none, data := Data.func { name := Str.ofString "sorted_list_difference", qualname := Str.ofString "sorted_list_difference", params := { posonlyargs := [], args := [{ arg := Str.ofString "expected", annotation := none, pos := { line := 124, col := 27, endLine := 124, endCol := 35 } }, { arg := Str.ofString "actual", annotation := none, pos := { line := 124, col := 37, endLine := 124, endCol := 43 } }], vararg := none, kwonlyargs := [], kw_defaults := [], kwarg := none, defaults := [] }, body := FuncBody.stmts (bodyAt 15), scope := scopeAt 15, globals := 0, closure := [], defaults := Value.none, kwdefaults := Value.none } }
noncomputable def o110SC : Params → Obj := fun P => { cls := Value.type "code", data := Data.fields #[Value.str (Str.ofString "sorted_list_difference") 570, Value.str (Str.ofString "sorted_list_difference") 571, Value.str (Str.ofString "/claim/cut.py") 572, Value.int 124 0, Value.int 2 0, Value.int 0 0, Value.int 0 0, Value.int 3 0, Value.ref 105, Value.bool true, Value.int 276 0, Value.ref 106, Value.none, Value.ref 107, Value.ref 108, Value.ref 109, Value.int 581 0, Value.int 124 0, Value.str (Str.ofString "/claim/cut.py") 582] }
noncomputable def o111SC : Params → Obj := fun P => { cls := Value.type "function", data := Data.func { name := Str.ofString "sorted_list_difference", qualname := Str.ofString "sorted_list_difference", params := { posonlyargs := [], args := [{ arg := Str.ofString "expected", annotation := none, pos := { line := 124, col := 27, endLine := 124, endCol := 35 } }, { arg := Str.ofString "actual", annotation := none, pos := { line := 124, col := 37, endLine := 124, endCol := 43 } }], vararg := none, kwonlyargs := [], kw_defaults := [], kwarg := none, defaults := [] }, body := FuncBody.stmts (bodyAt 15), scope := scopeAt 15, globals := 3, closure := [], defaults := Value.none, kwdefaults := Value.none, pyModule := Value.str (Str.ofString "cpy313.unittest.util") 568, code := Value.ref 110 } }
noncomputable def o114SC : Params → Obj := fun P => { cls := Value.type "tuple", data := Data.seq #[Value.str (Str.ofString "octets") 589, Value.str (Str.ofString "read") 590] }
noncomputable def o115SC : Params → Obj := fun P => { cls := Value.type "tuple", data := Data.seq #[Value.str (Str.ofString "octets") 591, Value.str (Str.ofString "tape") 592] }
noncomputable def o116SC : Params → Obj := fun P => { cls := Value.none, data := Data.func { name := Str.ofString "_law_tape", qualname := Str.ofString "_law_tape", params := { posonlyargs := [], args := [{ arg := Str.ofString "octets", annotation := none, pos := { line := 157, col := 14, endLine := 157, endCol := 20 } }], vararg := none, kwonlyargs := [], kw_defaults := [], kwarg := none, defaults := [] }, body := FuncBody.stmts (bodyAt 17), scope := scopeAt 17, globals := 0, closure := [], defaults := Value.none, kwdefaults := Value.none } }
noncomputable def o117SC : Params → Obj := fun P => { cls := Value.type "code", data := Data.fields #[Value.str (Str.ofString "_law_tape") 586, Value.str (Str.ofString "_law_tape") 587, Value.str (Str.ofString "/claim/cut.py") 588, Value.int 157 0, Value.int 1 0, Value.int 0 0, Value.int 0 0, Value.int 3 0, Value.ref 112, Value.bool true, Value.int 276 0, Value.ref 113, Value.none, Value.ref 114, Value.ref 115, Value.ref 116, Value.int 593 0, Value.int 157 0, Value.str (Str.ofString "/claim/cut.py") 594] }
noncomputable def o118SC : Params → Obj := fun P => { cls := Value.type "function", data := Data.func { name := Str.ofString "_law_tape", qualname := Str.ofString "_law_tape", params := { posonlyargs := [], args := [{ arg := Str.ofString "octets", annotation := none, pos := { line := 157, col := 14, endLine := 157, endCol := 20 } }], vararg := none, kwonlyargs := [], kw_defaults := [], kwarg := none, defaults := [] }, body := FuncBody.stmts (bodyAt 17), scope := scopeAt 17, globals := 3, closure := [], defaults := Value.none, kwdefaults := Value.none, pyModule := Value.str (Str.ofString "law_rx0125_02") 584, code := Value.ref 117 } }
noncomputable def o121SC : Params → Obj := fun P => { cls := Value.type "tuple", data := Data.seq #[Value.str (Str.ofString "tape") 599, Value.str (Str.ofString "octets") 600, Value.str (Str.ofString "fault") 601] }
noncomputable def o123SC : Params → Obj := fun P => { cls := Value.none, data := Data.func { name := Str.ofString "_law_octets", qualname := Str.ofString "_law_octets", params := { posonlyargs := [], args := [{ arg := Str.ofString "tape", annotation := none, pos := { line := 166, col := 16, endLine := 166, endCol := 20 } }], vararg := none, kwonlyargs := [], kw_defaults := [], kwarg := none, defaults := [] }, body := FuncBody.stmts (bodyAt 18), scope := scopeAt 18, globals := 0, closure := [], defaults := Value.none, kwdefaults := Value.none } }
noncomputable def o124SC : Params → Obj := fun P => { cls := Value.type "code", data := Data.fields #[Value.str (Str.ofString "_law_octets") 596, Value.str (Str.ofString "_law_octets") 597, Value.str (Str.ofString "/claim/cut.py") 598, Value.int 166 0, Value.int 1 0, Value.int 0 0, Value.int 0 0, Value.int 3 0, Value.ref 119, Value.bool true, Value.int 276 0, Value.ref 120, Value.none, Value.ref 121, Value.ref 122, Value.ref 123, Value.int 602 0, Value.int 166 0, Value.str (Str.ofString "/claim/cut.py") 603] }
noncomputable def o125SC : Params → Obj := fun P => { cls := Value.type "function", data := Data.func { name := Str.ofString "_law_octets", qualname := Str.ofString "_law_octets", params := { posonlyargs := [], args := [{ arg := Str.ofString "tape", annotation := none, pos := { line := 166, col := 16, endLine := 166, endCol := 20 } }], vararg := none, kwonlyargs := [], kw_defaults := [], kwarg := none, defaults := [] }, body := FuncBody.stmts (bodyAt 18), scope := scopeAt 18, globals := 3, closure := [], defaults := Value.none, kwdefaults := Value.none, pyModule := Value.str (Str.ofString "law_rx0125_02") 584, code := Value.ref 124 } }
noncomputable def o128SC : Params → Obj := fun P => { cls := Value.none, data := Data.func { name := Str.ofString "_law_pattern", qualname := Str.ofString "_law_pattern", params := { posonlyargs := [], args := [{ arg := Str.ofString "text", annotation := none, pos := { line := 173, col := 17, endLine := 173, endCol := 21 } }], vararg := none, kwonlyargs := [], kw_defaults := [], kwarg := none, defaults := [] }, body := FuncBody.stmts (bodyAt 19), scope := scopeAt 19, globals := 0, closure := [], defaults := Value.none, kwdefaults := Value.none } }
noncomputable def o129SC : Params → Obj := fun P => { cls := Value.type "code", data := Data.fields #[Value.str (Str.ofString "_law_pattern") 605, Value.str (Str.ofString "_law_pattern") 606, Value.str (Str.ofString "/claim/cut.py") 607, Value.int 173 0, Value.int 1 0, Value.int 0 0, Value.int 0 0, Value.int 3 0, Value.ref 126, Value.bool true, Value.int 276 0, Value.ref 127, Value.none, Value.none, Value.none, Value.ref 128, Value.int 608 0, Value.int 173 0, Value.str (Str.ofString "/claim/cut.py") 609] }
noncomputable def o130SC : Params → Obj := fun P => { cls := Value.type "function", data := Data.func { name := Str.ofString "_law_pattern", qualname := Str.ofString "_law_pattern", params := { posonlyargs := [], args := [{ arg := Str.ofString "text", annotation := none, pos := { line := 173, col := 17, endLine := 173, endCol := 21 } }], vararg := none, kwonlyargs := [], kw_defaults := [], kwarg := none, defaults := [] }, body := FuncBody.stmts (bodyAt 19), scope := scopeAt 19, globals := 3, closure := [], defaults := Value.none, kwdefaults := Value.none, pyModule := Value.str (Str.ofString "law_rx0125_02") 584, code := Value.ref 129 } }
noncomputable def o133SC : Params → Obj := fun P => { cls := Value.type "tuple", data := Data.seq #[Value.str (Str.ofString "run") 614, Value.str (Str.ofString "special") 615] }
noncomputable def o135SC : Params → Obj := fun P => { cls := Value.none, data := Data.func { name := Str.ofString "_law_sign", qualname := Str.ofString "_law_sign", params := { posonlyargs := [], args := [{ arg := Str.ofString "run", annotation := none, pos := { line := 175, col := 14, endLine := 175, endCol := 17 } }], vararg := none, kwonlyargs := [], kw_defaults := [], kwarg := none, defaults := [] }, body := FuncBody.stmts (bodyAt 20), scope := scopeAt 20, globals := 0, closure := [], defaults := Value.none, kwdefaults := Value.none } }
noncomputable def o136SC : Params → Obj := fun P => { cls := Value.type "code", data := Data.fields #[Value.str (Str.ofString "_law_sign") 611, Value.str (Str.ofString "_law_sign") 612, Value.str (Str.ofString "/claim/cut.py") 613, Value.int 175 0, Value.int 1 0, Value.int 0 0, Value.int 0 0, Value.int 3 0, Value.ref 131, Value.bool true, Value.int 276 0, Value.ref 132, Value.none, Value.ref 133, Value.ref 134, Value.ref 135, Value.int 616 0, Value.int 175 0, Value.str (Str.ofString "/claim/cut.py") 617] }
noncomputable def o137SC : Params → Obj := fun P => { cls := Value.type "function", data := Data.func { name := Str.ofString "_law_sign", qualname := Str.ofString "_law_sign", params := { posonlyargs := [], args := [{ arg := Str.ofString "run", annotation := none, pos := { line := 175, col := 14, endLine := 175, endCol := 17 } }], vararg := none, kwonlyargs := [], kw_defaults := [], kwarg := none, defaults := [] }, body := FuncBody.stmts (bodyAt 20), scope := scopeAt 20, globals := 3, closure := [], defaults := Value.none, kwdefaults := Value.none, pyModule := Value.str (Str.ofString "law_rx0125_02") 584, code := Value.ref 136 } }
noncomputable def o140SC : Params → Obj := fun P => { cls := Value.none, data := Data.func { name := Str.ofString "_law_signs", qualname := Str.ofString "_law_signs", params := { posonlyargs := [], args := [{ arg := Str.ofString "text", annotation := none, pos := { line := 183, col := 15, endLine := 183, endCol := 19 } }], vararg := none, kwonlyargs := [], kw_defaults := [], kwarg := none, defaults := [] }, body := FuncBody.stmts (bodyAt 21), scope := scopeAt 21, globals := 0, closure := [], defaults := Value.none, kwdefaults := Value.none } }
noncomputable def o141SC : Params → Obj := fun P => { cls := Value.type "code", data := Data.fields #[Value.str (Str.ofString "_law_signs") 619, Value.str (Str.ofString "_law_signs") 620, Value.str (Str.ofString "/claim/cut.py") 621, Value.int 183 0, Value.int 1 0, Value.int 0 0, Value.int 0 0, Value.int 3 0, Value.ref 138, Value.bool true, Value.int 276 0, Value.ref 139, Value.none, Value.none, Value.none, Value.ref 140, Value.int 622 0, Value.int 183 0, Value.str (Str.ofString "/claim/cut.py") 623] }
noncomputable def o142SC : Params → Obj := fun P => { cls := Value.type "function", data := Data.func { name := Str.ofString "_law_signs", qualname := Str.ofString "_law_signs", params := { posonlyargs := [], args := [{ arg := Str.ofString "text", annotation := none, pos := { line := 183, col := 15, endLine := 183, endCol := 19 } }], vararg := none, kwonlyargs := [], kw_defaults := [], kwarg := none, defaults := [] }, body := FuncBody.stmts (bodyAt 21), scope := scopeAt 21, globals := 3, closure := [], defaults := Value.none, kwdefaults := Value.none, pyModule := Value.str (Str.ofString "law_rx0125_02") 584, code := Value.ref 141 } }
noncomputable def o145SC : Params → Obj := fun P => { cls := Value.type "tuple", data := Data.seq #[Value.str (Str.ofString "signs") 628, Value.str (Str.ofString "name") 629, Value.str (Str.ofString "place") 630, Value.str (Str.ofString "sign") 631] }
noncomputable def o147SC : Params → Obj := fun P => { cls := Value.none, data := Data.func { name := Str.ofString "_law_takes", qualname := Str.ofString "_law_takes", params := { posonlyargs := [], args := [{ arg := Str.ofString "signs", annotation := none, pos := { line := 188, col := 15, endLine := 188, endCol := 20 } }, { arg := Str.ofString "name", annotation := none, pos := { line := 188, col := 22, endLine := 188, endCol := 26 } }], vararg := none, kwonlyargs := [], kw_defaults := [], kwarg := none, defaults := [] }, body := FuncBody.stmts (bodyAt 22), scope := scopeAt 22, globals := 0, closure := [], defaults := Value.none, kwdefaults := Value.none } }
noncomputable def o148SC : Params → Obj := fun P => { cls := Value.type "code", data := Data.fields #[Value.str (Str.ofString "_law_takes") 625, Value.str (Str.ofString "_law_takes") 626, Value.str (Str.ofString "/claim/cut.py") 627, Value.int 188 0, Value.int 2 0, Value.int 0 0, Value.int 0 0, Value.int 3 0, Value.ref 143, Value.bool true, Value.int 276 0, Value.ref 144, Value.none, Value.ref 145, Value.ref 146, Value.ref 147, Value.int 632 0, Value.int 188 0, Value.str (Str.ofString "/claim/cut.py") 633] }
noncomputable def o149SC : Params → Obj := fun P => { cls := Value.type "function", data := Data.func { name := Str.ofString "_law_takes", qualname := Str.ofString "_law_takes", params := { posonlyargs := [], args := [{ arg := Str.ofString "signs", annotation := none, pos := { line := 188, col := 15, endLine := 188, endCol := 20 } }, { arg := Str.ofString "name", annotation := none, pos := { line := 188, col := 22, endLine := 188, endCol := 26 } }], vararg := none, kwonlyargs := [], kw_defaults := [], kwarg := none, defaults := [] }, body := FuncBody.stmts (bodyAt 22), scope := scopeAt 22, globals := 3, closure := [], defaults := Value.none, kwdefaults := Value.none, pyModule := Value.str (Str.ofString "law_rx0125_02") 584, code := Value.ref 148 } }
noncomputable def o152SC : Params → Obj := fun P => { cls := Value.none, data := Data.func { name := Str.ofString "_law_within", qualname := Str.ofString "_law_within", params := { posonlyargs := [], args := [{ arg := Str.ofString "name", annotation := none, pos := { line := 195, col := 16, endLine := 195, endCol := 20 } }], vararg := none, kwonlyargs := [], kw_defaults := [], kwarg := none, defaults := [] }, body := FuncBody.stmts (bodyAt 23), scope := scopeAt 23, globals := 0, closure := [], defaults := Value.none, kwdefaults := Value.none } }
noncomputable def o153SC : Params → Obj := fun P => { cls := Value.type "code", data := Data.fields #[Value.str (Str.ofString "_law_within") 635, Value.str (Str.ofString "_law_within") 636, Value.str (Str.ofString "/claim/cut.py") 637, Value.int 195 0, Value.int 1 0, Value.int 0 0, Value.int 0 0, Value.int 3 0, Value.ref 150, Value.bool true, Value.int 276 0, Value.ref 151, Value.none, Value.none, Value.none, Value.ref 152, Value.int 638 0, Value.int 195 0, Value.str (Str.ofString "/claim/cut.py") 639] }
noncomputable def o154SC : Params → Obj := fun P => { cls := Value.type "function", data := Data.func { name := Str.ofString "_law_within", qualname := Str.ofString "_law_within", params := { posonlyargs := [], args := [{ arg := Str.ofString "name", annotation := none, pos := { line := 195, col := 16, endLine := 195, endCol := 20 } }], vararg := none, kwonlyargs := [], kw_defaults := [], kwarg := none, defaults := [] }, body := FuncBody.stmts (bodyAt 23), scope := scopeAt 23, globals := 3, closure := [], defaults := Value.none, kwdefaults := Value.none, pyModule := Value.str (Str.ofString "law_rx0125_02") 584, code := Value.ref 153 } }
noncomputable def o157SC : Params → Obj := fun P => { cls := Value.none, data := Data.func { name := Str.ofString "_law_depths", qualname := Str.ofString "_law_depths", params := { posonlyargs := [], args := [{ arg := Str.ofString "signs", annotation := none, pos := { line := 200, col := 16, endLine := 200, endCol := 21 } }], vararg := none, kwonlyargs := [], kw_defaults := [], kwarg := none, defaults := [] }, body := FuncBody.stmts (bodyAt 24), scope := scopeAt 24, globals := 0, closure := [], defaults := Value.none, kwdefaults := Value.none } }
noncomputable def o158SC : Params → Obj := fun P => { cls := Value.type "code", data := Data.fields #[Value.str (Str.ofString "_law_depths") 641, Value.str (Str.ofString "_law_depths") 642, Value.str (Str.ofString "/claim/cut.py") 643, Value.int 200 0, Value.int 1 0, Value.int 0 0, Value.int 0 0, Value.int 3 0, Value.ref 155, Value.bool true, Value.int 276 0, Value.ref 156, Value.none, Value.none, Value.none, Value.ref 157, Value.int 644 0, Value.int 200 0, Value.str (Str.ofString "/claim/cut.py") 645] }
noncomputable def o159SC : Params → Obj := fun P => { cls := Value.type "function", data := Data.func { name := Str.ofString "_law_depths", qualname := Str.ofString "_law_depths", params := { posonlyargs := [], args := [{ arg := Str.ofString "signs", annotation := none, pos := { line := 200, col := 16, endLine := 200, endCol := 21 } }], vararg := none, kwonlyargs := [], kw_defaults := [], kwarg := none, defaults := [] }, body := FuncBody.stmts (bodyAt 24), scope := scopeAt 24, globals := 3, closure := [], defaults := Value.none, kwdefaults := Value.none, pyModule := Value.str (Str.ofString "law_rx0125_02") 584, code := Value.ref 158 } }
noncomputable def o162SC : Params → Obj := fun P => { cls := Value.none, data := Data.func { name := Str.ofString "law", qualname := Str.ofString "law", params := { posonlyargs := [], args := [{ arg := Str.ofString "script", annotation := none, pos := { line := 206, col := 8, endLine := 206, endCol := 14 } }], vararg := none, kwonlyargs := [], kw_defaults := [], kwarg := none, defaults := [] }, body := FuncBody.stmts (bodyAt 25), scope := scopeAt 25, globals := 0, closure := [], defaults := Value.none, kwdefaults := Value.none } }
noncomputable def o163SC : Params → Obj := fun P => { cls := Value.type "code", data := Data.fields #[Value.str (Str.ofString "law") 647, Value.str (Str.ofString "law") 648, Value.str (Str.ofString "/claim/cut.py") 649, Value.int 206 0, Value.int 1 0, Value.int 0 0, Value.int 0 0, Value.int 3 0, Value.ref 160, Value.bool true, Value.int 276 0, Value.ref 161, Value.none, Value.none, Value.none, Value.ref 162, Value.int 650 0, Value.int 206 0, Value.str (Str.ofString "/claim/cut.py") 651] }
noncomputable def o164SC : Params → Obj := fun P => { cls := Value.type "function", data := Data.func { name := Str.ofString "law", qualname := Str.ofString "law", params := { posonlyargs := [], args := [{ arg := Str.ofString "script", annotation := none, pos := { line := 206, col := 8, endLine := 206, endCol := 14 } }], vararg := none, kwonlyargs := [], kw_defaults := [], kwarg := none, defaults := [] }, body := FuncBody.stmts (bodyAt 25), scope := scopeAt 25, globals := 3, closure := [], defaults := Value.none, kwdefaults := Value.none, pyModule := Value.str (Str.ofString "law_rx0125_02") 584, code := Value.ref 163 } }
/-! the heaps at the cuts -/
noncomputable def hS0 : Params → Heap := fun P => ⟨Array.mk [boot_o_0 P, o1S0 P, o2S0 P, o3S0 P, boot_o_4 P, boot_o_5 P, boot_o_6 P, boot_o_7 P, boot_o_8 P, boot_o_9 P, boot_o_10 P, o11S0 P, o12S0 P, o13S0 P, o14S0 P, boot_o_7 P, o16S0 P, o17S0 P, o18S0 P, o19S0 P, o20S0 P, o21S0 P, o22S0 P, o23S0 P, o24S0 P, o25S0 P, o26S0 P, o27S0 P], { }⟩
noncomputable abbrev sS0 (w : World) (os : OsState) : Shared := ⟨hS0 w.params, Array.mk [], { }, 276, os⟩
noncomputable def hSa : Params → Heap := fun P => ⟨Array.mk [boot_o_0 P, o1S0 P, o2S0 P, o3S0 P, boot_o_4 P, boot_o_5 P, boot_o_6 P, boot_o_7 P, boot_o_8 P, boot_o_9 P, boot_o_10 P, o11S0 P, o12S0 P, o13S0 P, o14S0 P, boot_o_7 P, o16S0 P, o17S0 P, o18S0 P, o19S0 P, o20S0 P, o21S0 P, o22S0 P, o23S0 P, o24S0 P, o25S0 P, o26S0 P, o27S0 P, boot_o_7 P, boot_o_8 P, o30Sa P, o31Sa P], { }⟩
noncomputable abbrev sSa (w : World) (os : OsState) : Shared := ⟨hSa w.params, Array.mk [], { }, 282, os⟩
noncomputable def hSA : Params → Heap := fun P => ⟨Array.mk [boot_o_0 P, o1S0 P, o2S0 P, o3SA P, boot_o_4 P, boot_o_5 P, boot_o_6 P, boot_o_7 P, boot_o_8 P, boot_o_9 P, boot_o_10 P, o11S0 P, o12S0 P, o13S0 P, o14S0 P, boot_o_7 P, o16S0 P, o17S0 P, o18S0 P, o19S0 P, o20S0 P, o21S0 P, o22S0 P, o23S0 P, o24S0 P, o25S0 P, o26S0 P, o27S0 P, boot_o_7 P, o29SA P, o30Sa P, o31Sa P, boot_o_7 P, boot_o_8 P, o34SA P, boot_o_7 P, o36SA P, o37SA P, o38SA P, boot_o_7 P, boot_o_8 P, o41SA P, boot_o_7 P, o43SA P, o44SA P, o45SA P, boot_o_7 P, o47SA P, o48SA P, boot_o_7 P, o50SA P, o51SA P, o52SA P, boot_o_7 P, boot_o_8 P, o55SA P, boot_o_7 P, o57SA P, o58SA P, o59SA P, o60SA P, o61SA P, o62SA P, o63SA P, o64SA P, o65SA P, o66SA P, o67SA P, boot_o_6 P, o69SA P, o70SA P, o71SA P, boot_o_7 P, boot_o_8 P, o74SA P, boot_o_7 P, o76SA P, o77SA P, o78SA P], { }⟩
noncomputable abbrev sSA (w : World) (os : OsState) : Shared := ⟨hSA w.params, Array.mk [], { }, 381, os⟩
noncomputable def hSB : Params → Heap := fun P => ⟨Array.mk [boot_o_0 P, o1S0 P, o2S0 P, o3SB P, boot_o_4 P, boot_o_5 P, boot_o_6 P, boot_o_7 P, boot_o_8 P, boot_o_9 P, boot_o_10 P, o11S0 P, o12S0 P, o13S0 P, o14S0 P, boot_o_7 P, o16S0 P, o17S0 P, o18S0 P, o19S0 P, o20S0 P, o21S0 P, o22S0 P, o23S0 P, o24S0 P, o25S0 P, o26S0 P, o27S0 P, boot_o_7 P, o29SA P, o30Sa P, o31Sa P, boot_o_7 P, boot_o_8 P, o34SA P, boot_o_7 P, o36SA P, o37SA P, o38SA P, boot_o_7 P, boot_o_8 P, o41SA P, boot_o_7 P, o43SA P, o44SA P, o45SA P, boot_o_7 P, o47SA P, o48SA P, boot_o_7 P, o50SA P, o51SA P, o52SA P, boot_o_7 P, boot_o_8 P, o55SA P, boot_o_7 P, o57SA P, o58SA P, o59SA P, o60SA P, o61SA P, o62SA P, o63SA P, o64SA P, o65SA P, o66SA P, o67SA P, boot_o_6 P, o69SA P, o70SA P, o71SA P, boot_o_7 P, boot_o_8 P, o74SA P, boot_o_7 P, o76SA P, o77SA P, o78SA P, o79SB P, o80SB P, o81SB P, boot_o_7 P, o83SB P], { }⟩
noncomputable abbrev sSB (w : World) (os : OsState) : Shared := ⟨hSB w.params, Array.mk [], { }, 527, os⟩
noncomputable def hSC : Params → Heap := fun P => ⟨Array.mk [boot_o_0 P, o1S0 P, o2S0 P, o3SC P, boot_o_4 P, boot_o_5 P, boot_o_6 P, boot_o_7 P, boot_o_8 P, boot_o_9 P, boot_o_10 P, o11S0 P, o12S0 P, o13S0 P, o14S0 P, boot_o_7 P, o16S0 P, o17S0 P, o18S0 P, o19S0 P, o20S0 P, o21S0 P, o22S0 P, o23S0 P, o24S0 P, o25S0 P, o26S0 P, o27S0 P, boot_o_7 P, o29SC P, o30Sa P, o31Sa P, boot_o_7 P, boot_o_8 P, o34SA P, boot_o_7 P, o36SA P, o37SA P, o38SA P, boot_o_7 P, boot_o_8 P, o41SA P, boot_o_7 P, o43SA P, o44SA P, o45SA P, boot_o_7 P, o47SA P, o48SA P, boot_o_7 P, o50SA P, o51SA P, o52SA P, boot_o_7 P, boot_o_8 P, o55SA P, boot_o_7 P, o57SA P, o58SA P, o59SA P, o60SA P, o61SA P, o62SA P, o63SA P, o64SA P, o65SA P, o66SA P, o67SA P, boot_o_6 P, o69SA P, o70SA P, o71SA P, boot_o_7 P, boot_o_8 P, o74SA P, boot_o_7 P, o76SA P, o77SA P, o78SA P, o79SB P, o80SB P, o81SB P, boot_o_7 P, o83SB P, boot_o_7 P, boot_o_8 P, o86SC P, boot_o_7 P, o88SC P, o89SC P, o90SC P, boot_o_7 P, boot_o_8 P, o93SC P, boot_o_7 P, o95SC P, o96SC P, o97SC P, boot_o_7 P, boot_o_8 P, o100SC P, boot_o_7 P, o102SC P, o103SC P, o104SC P, boot_o_7 P, boot_o_8 P, o107SC P, boot_o_7 P, o109SC P, o110SC P, o111SC P, boot_o_7 P, boot_o_8 P, o114SC P, o115SC P, o116SC P, o117SC P, o118SC P, boot_o_7 P, boot_o_8 P, o121SC P, boot_o_7 P, o123SC P, o124SC P, o125SC P, boot_o_7 P, boot_o_8 P, o128SC P, o129SC P, o130SC P, boot_o_7 P, boot_o_8 P, o133SC P, boot_o_7 P, o135SC P, o136SC P, o137SC P, boot_o_7 P, boot_o_8 P, o140SC P, o141SC P, o142SC P, boot_o_7 P, boot_o_8 P, o145SC P, boot_o_7 P, o147SC P, o148SC P, o149SC P, boot_o_7 P, boot_o_8 P, o152SC P, o153SC P, o154SC P, boot_o_7 P, boot_o_8 P, o157SC P, o158SC P, o159SC P, boot_o_7 P, boot_o_8 P, o162SC P, o163SC P, o164SC P], { }⟩
noncomputable abbrev sSC (w : World) (os : OsState) : Shared := ⟨hSC w.params, Array.mk [], { }, 653, os⟩
/-! the part of the heap that the law's call leans on -/
noncomputable def heapK : Params → Frag := fun P =>
  [(3, o3SC P), (30, o30Sa P), (37, o37SA P), (38, o38SA P), (44, o44SA P), (45, o45SA P), (51, o51SA P), (58, o58SA P), (59, o59SA P), (61, o61SA P), (62, o62SA P), (63, o63SA P), (64, o64SA P), (70, o70SA P), (71, o71SA P), (77, o77SA P), (78, o78SA P), (80, o80SB P), (89, o89SC P), (90, o90SC P), (96, o96SC P), (97, o97SC P), (103, o103SC P), (104, o104SC P), (110, o110SC P), (111, o111SC P), (117, o117SC P), (118, o118SC P), (124, o124SC P), (125, o125SC P), (129, o129SC P), (130, o130SC P), (136, o136SC P), (137, o137SC P), (141, o141SC P), (142, o142SC P), (148, o148SC P), (149, o149SC P), (153, o153SC P), (154, o154SC P), (158, o158SC P), (159, o159SC P), (163, o163SC P), (164, o164SC P)]
noncomputable abbrev placesK : List Addr := [3, 30, 37, 38, 44, 45, 51, 58, 59, 61, 62, 63, 64, 70, 71, 77, 78, 80, 89, 90, 96, 97, 103, 104, 110, 111, 117, 118, 124, 125, 129, 130, 136, 137, 141, 142, 148, 149, 153, 154, 158, 159, 163, 164]
noncomputable def keepL : List Nat := (List.range 26).filter fun i => !decide (i ∈ [1, 5, 8, 11, 14, 16])
noncomputable def viewK : Program := { pw with main := { pw.main with body := keepL.filterMap fun i => pw.main.body[i]? } }
noncomputable abbrev hookK : Hook := kmHook heapK placesK (fun _ => by kernel_rfl) [113, 92]
noncomputable abbrev looseK : List Str := ["_twin_re_1", "_special_chars_map"]
noncomputable abbrev rowK : RowW := PySem.Challenge.rw_rx0125_02.row.toRowW
noncomputable abbrev prgK : Program := PySem.Challenge.rw_rx0125_02.row.prog
/-! the run's threads -/
noncomputable def bodyK : List Stmt := behindTheImports prgK
noncomputable abbrev envK : Env := { scope := prgK.main.scope, locals := mainNs, globals := mainNs, cells := [], code := .ref 30, frame := some 31 }
noncomputable abbrev codeK : Code := .body (behindTheImports prgK) envK
noncomputable abbrev posO : Pos := { line := 0, col := 0, endLine := 0, endCol := 0 }
noncomputable abbrev posA : Pos := { line := 25, col := 0, endLine := 25, endCol := 8 }
noncomputable abbrev posB : Pos := { line := 26, col := 0, endLine := 26, endCol := 18 }
noncomputable abbrev posC : Pos := { line := 206, col := 0, endLine := 248, endCol := 15 }
noncomputable abbrev stackK : List Frame := [topFrame posO]
noncomputable def partA : List Stmt := (behindTheImports prgK).take 8
noncomputable def partB : List Stmt := ((behindTheImports prgK).drop 8).take 1
noncomputable def partC : List Stmt := ((behindTheImports prgK).drop 8).drop 1
theorem parts_eq : behindTheImports prgK = partA ++ (partB ++ (partC ++ [])) := by
  rw [List.append_nil]
  unfold partA partB partC
  rw [List.take_append_drop, List.take_append_drop]
noncomputable abbrev goT (n : Nat) (w : World) (s : Shared) (t : Thread) : Option (Shared × Thread) := Fast.tw15667345088766844465 Fast.tw14364793385576792824 prgK w 28 (some (.ref 6)) n s t
noncomputable abbrev segT (n : Nat) (w : World) (s : Shared) (l : List Stmt) (p : Pos) : Option (Flow × Shared × Code × Pos) := Fast.tw14374325043358763698 Fast.tw14364793385576792824 prgK w 28 (some (.ref 6)) 1 n s ⟨(Fast.tw12563942051412417395 l envK).wrap doneF deadEnd id id, codeK, p, stackK⟩
theorem seg_q {n : Nat} {w : World} {s : Shared} {l : List Stmt} {p : Pos} {r : Option (Flow × Shared × Code × Pos)} (h : segT n w s l p = r) : segRun treeTable prgK w 28 (some (.ref 6)) 1 n s (piecesOf l envK codeK p stackK) = r := by
  rw [← h]
  show segRun treeTable prgK w 28 (some (.ref 6)) 1 n s ⟨(execs l envK).wrap doneF deadEnd id id, codeK, p, stackK⟩ = _
  rw [Fast.te14374325043358763698, Fast.te14364793385576792824, Fast.te12563942051412417395]
/-! the opening: the start and the file's imports -/
noncomputable def fencedQ (p : Program) (w : World) (N : Nat) : Option Shared :=
  (Fast.tw10274390034422433532 Fast.tw14364793385576792824 (opening p) w N (Fast.tw1435165496053646825 (opening p)).1 (Fast.tw1435165496053646825 (opening p)).2).bind (Fast.tw14289696077712309145 p)
theorem fencedQ_eq (p w N) : fencedOpening treeTable p w N = fencedQ p w N := by
  unfold fencedOpening fencedQ
  rw [Fast.te14364793385576792824, Fast.te10274390034422433532, Fast.te1435165496053646825, Fast.te14289696077712309145]
theorem open_q (w : World) : (fencedQ prgK w 4320).map (fun s => (s.heap, s.gens, s.drawn, s.toks)) = some (hS0 w.params, Array.mk [], { }, 276) := by kernel_rfl
theorem size_q (w : World) : ((hS0 w.params).isNs mainGlobals && (Array.mk ([] : List GenState)).size == 0, (hS0 w.params).objs.size, (hS0 w.params).nsMap mainGlobals "__annotations__") = (true, 28, some (.ref 6)) := by kernel_rfl
/-! the run -/
theorem pre_q (w : World) (os : OsState) : goT 12 w (sS0 w os) (topStub prgK) = some (sSa w os, ⟨Fast.tw11892475500146522536 Fast.tw14364793385576792824 codeK, codeK, posO, stackK⟩) := by kernel_rfl
theorem pre_k (w : World) (os : OsState) : topGo treeTable prgK w 28 (some (.ref 6)) 12 (sS0 w os) (topStub prgK) = some (sSa w os, ⟨denote treeTable codeK, codeK, posO, stackK⟩) := by
  rw [Fast.te15667345088766844465, Fast.te14364793385576792824, Fast.te11892475500146522536]
  exact pre_q w os
theorem block_k (w : World) (os : OsState) : segRun treeTable prgK w 28 (some (.ref 6)) 1 1 (sSa w os) (blockOf (behindTheImports prgK) envK codeK posO stackK) = some (.next, sSa w os, codeK, posO) := by kernel_rfl
theorem part_a (w : World) (os : OsState) : segT 423 w (sSa w os) partA posO = some (.next, sSA w os, codeK, posA) := by kernel_rfl
noncomputable abbrev AtB (w : World) : Prop := ∀ os : OsState, segT 1543 w (sSA w os) partB posA = some (.next, sSB w os, codeK, posB)
theorem part_b1 (w : World) (os : OsState) : segT 1543 ((w.withFollow "special-get-raises" false).withFollow "comprehension-iter-twice" false) (sSA ((w.withFollow "special-get-raises" false).withFollow "comprehension-iter-twice" false) os) partB posA = some (.next, sSB ((w.withFollow "special-get-raises" false).withFollow "comprehension-iter-twice" false) os, codeK, posB) := by kernel_rfl
theorem part_b2 (w : World) (os : OsState) : segT 1543 ((w.withFollow "special-get-raises" true).withFollow "comprehension-iter-twice" false) (sSA ((w.withFollow "special-get-raises" true).withFollow "comprehension-iter-twice" false) os) partB posA = some (.next, sSB ((w.withFollow "special-get-raises" true).withFollow "comprehension-iter-twice" false) os, codeK, posB) := by kernel_rfl
theorem part_b3 (w : World) (os : OsState) : segT 1543 ((w.withFollow "special-get-raises" false).withFollow "comprehension-iter-twice" true) (sSA ((w.withFollow "special-get-raises" false).withFollow "comprehension-iter-twice" true) os) partB posA = some (.next, sSB ((w.withFollow "special-get-raises" false).withFollow "comprehension-iter-twice" true) os, codeK, posB) := by kernel_rfl
theorem part_b4 (w : World) (os : OsState) : segT 1543 ((w.withFollow "special-get-raises" true).withFollow "comprehension-iter-twice" true) (sSA ((w.withFollow "special-get-raises" true).withFollow "comprehension-iter-twice" true) os) partB posA = some (.next, sSB ((w.withFollow "special-get-raises" true).withFollow "comprehension-iter-twice" true) os, codeK, posB) := by kernel_rfl
theorem part_b : ∀ w : World, AtB w := byRow2 "comprehension-iter-twice" (byRow2 "special-get-raises" (fun w => part_b1 w) (fun w => part_b2 w)) (byRow2 "special-get-raises" (fun w => part_b3 w) (fun w => part_b4 w))
theorem part_c (w : World) (os : OsState) : segT 424 w (sSB w os) partC posB = some (.next, sSC w os, codeK, posC) := by kernel_rfl
theorem fin_k (w : World) (os : OsState) : topRun treeTable prgK w 28 (some (.ref 6)) 2 (sSC w os) ⟨doneF .next, codeK, posC, stackK⟩ = some (sSC w os) := by kernel_rfl
theorem run_k (w : World) (os : OsState) : topRun treeTable prgK w 28 (some (.ref 6)) (12 + (1 + (423 + (1543 + (424 + 2))))) (sS0 w os) (topStub prgK) = some (sSC w os) := by
  refine go_top (pre_k w os) (piece_block (block_k w os) ?_)
  have h := piece_app (rest := partB ++ (partC ++ [])) (seg_q (part_a w os)) (piece_app (rest := partC ++ []) (seg_q (part_b w os)) (piece_app (rest := []) (seg_q (part_c w os)) (piece_nil (fin_k w os))))
  rw [← parts_eq] at h
  exact h
/-! what the run leaves -/
theorem look_a (w : World) (os : OsState) : (staticsOk (importedModules prgK.main.body) (hS0 w.params) (hSC w.params) && namesBound prgK (hSC w.params) && gensDone (sSC w os) && laidKept (hS0 w.params) (hSC w.params)) = true := by kernel_rfl
theorem look_b (w : World) (os : OsState) : openSeen viewK looseK (importedModules prgK.main.body) (fun s => xlAt viewK [] s && recOk rowK.records s) true (sSC w os) = openGood viewK looseK := by
  rw [Fast.te4187177175401517315]
  kernel_rfl
theorem look_c (w : World) (os : OsState) : hookK.obs (sSC w os) = hookK.val w := by kernel_rfl
theorem leftK : LeftO prgK viewK looseK (fun s => xlAt viewK [] s && recOk (RowW.records rowK) s) hookK.obs hookK.val 4320 :=
  LeftO.of_pieces (H₀ := hS0) (H₁ := hSC) (gs₀ := Array.mk []) (gs₁ := Array.mk []) (d₀ := { }) (d₁ := { }) (k₀ := 276) (k₁ := 653) (m₀ := 28) (ann := some (.ref 6)) (M := 12 + (1 + (423 + (1543 + (424 + 2)))))
    (fun w => (congrArg (Option.map _) (fencedQ_eq prgK w 4320)).trans (open_q w)) size_q run_k (by decide)
    (fun w => funext fun os => looks_pair (look_a w os) (looks_pair (look_b w os) (look_c w os)))
end Mine
end

section
open PySem PySem.W PyProof.Rows PySem.Calls
set_option Elab.async false
set_option linter.unusedVariables false
namespace Mine
variable {X : Cx} {k : Nat} {H : List Addr}
set_option maxRecDepth 10000

/-! how deep a sign lies -/
noncomputable def minL : List Int → Int
  | [] => 0
  | a :: r => r.foldl min a
theorem foldl_min : ∀ (r : List Int) (a : Int), (r.foldl min a = a ∨ r.foldl min a ∈ r) ∧ r.foldl min a ≤ a ∧ ∀ b ∈ r, r.foldl min a ≤ b
  | [], a => ⟨.inl rfl, Int.le_refl _, by simp⟩
  | c :: r, a => by
    rw [List.foldl_cons]
    obtain ⟨h1, h2, h3⟩ := foldl_min r (min a c)
    refine ⟨?_, by omega, fun b hb => ?_⟩
    · rcases h1 with h | h
      · rw [h]
        by_cases q : a ≤ c
        · exact .inl (Int.min_eq_left q)
        · exact .inr (by rw [Int.min_eq_right (by omega)]; exact List.mem_cons_self ..)
      · exact .inr (List.mem_cons_of_mem _ h)
    · rcases List.mem_cons.mp hb with rfl | hb
      · omega
      · exact h3 b hb
theorem minL_mem : ∀ {l : List Int}, l ≠ [] → minL l ∈ l
  | a :: r, _ => by
    rcases (foldl_min r a).1 with h | h
    · rw [minL, h]; exact List.mem_cons_self ..
    · exact List.mem_cons_of_mem _ h
theorem minL_le : ∀ {l : List Int}, ∀ b ∈ l, minL l ≤ b
  | a :: r, b, hb => by
    obtain ⟨_, h2, h3⟩ := foldl_min r a
    rcases List.mem_cons.mp hb with rfl | hb
    · exact h2
    · exact h3 b hb
noncomputable def alikeF (l : List Nat) (p : Nat) : List Nat := (List.range p).filter fun q => decide (l.getD q 0 = l.getD p 0)
noncomputable def nextD (l : List Nat) (ds : List Int) (p : Nat) : Int := match (alikeF l p).getLast? with | none => 1 | some q => 1 + minL (ds.drop q)
noncomputable def depthsF (l : List Nat) (n : Nat) : List Int := (List.range n).foldl (fun ds p => ds ++ [nextD l ds p]) []
theorem depthsF_succ (l : List Nat) (n : Nat) : depthsF l (n + 1) = depthsF l n ++ [nextD l (depthsF l n) n] := by
  unfold depthsF; rw [List.range_succ, List.foldl_append]; rfl
theorem depthsF_length (l : List Nat) : ∀ n, (depthsF l n).length = n
  | 0 => rfl
  | n + 1 => by rw [depthsF_succ, List.length_append, depthsF_length l n]; rfl

/-- a word, as a text or as a list of signs -/
noncomputable def IsWord (sg : D) (l : List Nat) : Prop := sg = .str l ∨ sg = texts (l.map fun c => [c])
theorem ev_sign {env : Env} {ρ : Ro} {value slice : PySem.Expr} {pos : Pos} {sg : D} {l : List Nat} {j : Nat} (hw : IsWord sg l) (hv : Evs X k H env ρ value sg) (hs : Evs X k H env ρ slice (.int j)) (hj : j < l.length) (hl : l.length < 2 ^ 62 := by omega)
    (hp : plainSub slice = true := by rfl) : Evs X k H env ρ (.Subscript value slice pos) (.str [l.getD j 0]) := by
  have e : seqIndex? (j : Int) l.length = some j := by
    unfold seqIndex?
    have h0 : ¬ ((j : Int) < 0) := by omega
    simp only [h0, if_false]
    rw [if_pos (by simp; omega)]; simp
  have g : l[j]? = some (l.getD j 0) := by simp [List.getD, hj]
  rcases hw with rfl | rfl
  · exact ev_char hv hs e g hl hp
  · exact ev_item hv hs (by simpa using e) (by simp [hj, List.getD]) (by simpa using hl) hp
theorem c_len_word {sg : D} {l : List Nat} (hw : IsWord sg l) (hl : l.length < 2 ^ 62 := by omega) : CallOk X k H (.builtin "len") [sg] (.int l.length) := by
  rcases hw with rfl | rfl
  · exact c_len_str hl
  · have := c_len_list (X := X) (k := k) (H := H) (l := (l.map fun c => [c]).map .str) (by simpa using hl)
    rwa [List.length_map, List.length_map] at this

theorem mu_self {a : Addr} {ds : List D} {μ : Mu} : ((a, ds) :: μ : Mu).lookup a = some ds := by rw [List.lookup_cons, beq_self_eq_true]
theorem seq_nat {j n : Nat} (h : j < n) : seqIndex? (j : Int) n = some j := by
  unfold seqIndex?
  have h0 : ¬ ((j : Int) < 0) := by omega
  simp only [h0, if_false]
  rw [if_pos (by simp; omega)]; simp
theorem seq_last {n : Nat} (h : 0 < n) : seqIndex? (-1) n = some (n - 1) := by
  unfold seqIndex?
  simp only [show (-1 : Int) < 0 from by decide, if_true]
  rw [if_pos (by simp; omega)]
  congr 1; omega
theorem cut_from {α : Type} (l : List α) (q : Nat) (h : q ≤ l.length) : cut l (some (q : Int)) none = l.drop q := by
  unfold cut
  simp only [Option.elim]
  rw [clipAt_nat, Nat.min_eq_left h]
  exact List.take_of_length_le (by rw [List.length_drop]; omega)

theorem depths_runs {L : Addr} {q : Str} {fa : Addr} {cd : Value} {sg : D} {l : List Nat} (hw : IsWord sg l) (hl : l.length ≤ 8) :
    Runs X (k + 3) H (fenv (scopeAt nDepths) L q fa cd) L [("signs", sg)] [] (bodyAt nDepths) (Ret H (intsD (depthsF l l.length))) := by
  have O : EnvOk (fenv (scopeAt nDepths) L q fa cd) := ⟨rfl, rfl, rfl⟩
  refine r_own fun a ha => ?_
  refine r_for (ds := nums l.length) (fun _ => [("depths", .addr a), ("signs", sg)]) (fun i => [(a, (depthsF l i).map .int)]) (its_range O (ev_bcall O (evs_cons (ev_name O rfl) evs_nil) (c_len_word hw)) rfl (by omega)) (sub_cons rfl (sub_cons rfl sub_nil)) (fun x d h => h) ?_ ?_
  · intro p d hd
    obtain ⟨p', hp', rfl⟩ := map_get hd
    obtain ⟨hp, hpe⟩ := List.getElem?_eq_some_iff.mp hp'
    rw [List.length_range] at hp
    rw [List.getElem_range] at hpe
    subst hpe
    refine r_assignC (cx_gen (l := List.range p) (g := fun i : Nat => D.int (i : Int)) (h := fun i : Nat => D.int (i : Int)) (p := fun q => decide (l.getD q 0 = l.getD p 0)) O int_inj (its_range O (ev_name O rfl) rfl (by omega)) (fun C cs b O' y hy => ifs_one (ts_cmp (ev_sign hw (ev_name O' rfl) (ev_name O' rfl) ?_) (ev_sign hw (ev_name O' rfl) (ev_name O' rfl) hp) ?_)) (fun C cs b O' y hy hpy => ev_name O' rfl) ?_) ?_
    · have := List.mem_range.mp hy; omega
    · have := cmp_eq_str (X := X) (k := k + 3) (H := b :: a :: H) (a := [l.getD y 0]) (b := [l.getD p 0])
      simpa using this
    · rw [List.length_range, sizeLine_eq]; omega
    have hal : ((List.range p).filter fun q => decide (l.getD q 0 = l.getD p 0)) = alikeF l p := rfl
    rw [hal]
    have hlen : (alikeF l p).length ≤ 8 := Nat.le_trans (List.length_filter_le _ _) (by rw [List.length_range]; omega)
    refine r_append (ds := (depthsF l p).map .int) (d := .int (nextD l (depthsF l p) p)) rfl mu_self (evs_open (y := "depths") ha rfl mu_self ?_) ?_ ?_
    · refine ev_if (ts_val (ev_name O rfl) (tru_list (by simp; omega))) (fun hc => ?_) (fun hc => ?_)
      · -- there are some like it
        have hne : alikeF l p ≠ [] := fun e => by simp [e] at hc
        obtain ⟨z, hz⟩ : ∃ z, (alikeF l p).getLast? = some z := ⟨_, List.getLast?_eq_some_getLast hne⟩
        have hzm : z ∈ alikeF l p := List.mem_of_getLast? hz
        have hzp : z < p := List.mem_range.mp (List.mem_filter.mp hzm).1
        have hdl := depthsF_length l p
        have hnd : nextD l (depthsF l p) p = 1 + minL ((depthsF l p).drop z) := by unfold nextD; rw [hz]
        rw [hnd]
        have hdne : (depthsF l p).drop z ≠ [] := fun e => by
          have := congrArg List.length e
          rw [List.length_drop, hdl] at this; simp at this; omega
        refine ev_bin ev_int (ev_bcall O (evs_cons ?_ evs_nil) (c_min (l := (depthsF l p).drop z) (minL_mem hdne) minL_le)) bin_add
        have e2 : intsD ((depthsF l p).drop z) = .list (cut ((depthsF l p).map .int) (some (z : Int)) none) := by
          rw [cut_from _ _ (by simp [hdl]; omega), intsD, List.map_drop]
        rw [e2]
        refine ev_cutL (ev_name O rfl) (.some (ev_item (l := (alikeF l p).map fun i : Nat => D.int (i : Int)) (j := (alikeF l p).length - 1) (ev_name O rfl) (ev_una ev_int una_neg) (by rw [List.length_map]; exact seq_last (List.length_pos_iff.mpr hne)) ?_ (by simp; omega))) .none (by simp [hdl, sizeLine_eq]; omega)
        rw [List.getElem?_map, ← List.getLast?_eq_getElem?, hz]; rfl
      · have he : alikeF l p = [] := by simpa using hc
        have hnd : nextD l (depthsF l p) p = 1 := by unfold nextD; rw [he]; rfl
        rw [hnd]; exact ev_int
    · refine r_nil fun A s I => .inl ⟨.inl rfl, I.sub (sub_cons rfl (sub_cons rfl sub_nil)) ?_⟩
      intro b es hb
      rw [depthsF_succ, List.map_append] at hb
      rw [List.lookup_cons] at hb ⊢
      cases q : b == a with
      | true => rw [q] at hb; exact hb
      | false => rw [q] at hb; cases hb
    · simp [depthsF_length, sizeLine_eq]; omega
  · rw [show (nums l.length).length = l.length by simp [nums]]
    exact r_disown (y := "depths") ha rfl mu_self (r_retV (Evs.i (ev_name O rfl)))
end Mine
end

section
open PySem PySem.W PyProof.Rows PySem.Calls
set_option Elab.async false
set_option linter.unusedVariables false
namespace Mine
variable {X : Cx} {k : Nat} {H : List Addr}
set_option maxRecDepth 10000
set_option maxHeartbeats 4000000

theorem within_one (x : List Nat) (c : Nat) : within x [c] = decide (c ∈ x) := by
  show (!(Builtin.Str.occurrences (S x) ⟨#[c]⟩ 0 (S x).length 1).isEmpty) = _
  rw [StrLaws.found_one]

/-! a text as a pattern -/
noncomputable def brk (c : Nat) : List Nat := if c ∈ T "*?[" then T "[" ++ [c] ++ T "]" else [c]
noncomputable def patF (l : List Nat) : List Nat := T "*" ++ glue (T "*") (l.map brk) ++ T "*"
theorem brk_length (c : Nat) : (brk c).length ≤ 3 := by
  have e2 : (T "[").length = 1 := rfl
  have e3 : (T "]").length = 1 := rfl
  unfold brk
  split
  · simp only [List.length_append, e2, e3, List.length_singleton]; omega
  · simp
theorem sum_le3 : ∀ l : List Nat, ((l.map brk).map List.length).sum ≤ 3 * l.length
  | [] => by simp
  | c :: r => by
    have := brk_length c
    have := sum_le3 r
    simp only [List.map_cons, List.sum_cons, List.length_cons]; omega
theorem fold_length (x : List Nat) : ∀ (r : List (List Nat)) (p : List Nat), (r.foldl (fun acc q => acc ++ x ++ q) p).length = p.length + r.length * x.length + (r.map List.length).sum
  | [], p => by simp
  | q :: r, p => by
    rw [List.foldl_cons, fold_length x r]
    simp only [List.length_append, List.length_cons, List.map_cons, List.sum_cons, Nat.succ_mul]; omega
theorem glue_length (x : List Nat) (l : List (List Nat)) : (glue x l).length ≤ l.length * x.length + (l.map List.length).sum := by
  cases l with
  | nil => simp [glue]
  | cons p r => rw [glue, fold_length]; simp only [List.length_cons, List.map_cons, List.sum_cons, Nat.succ_mul]; omega
theorem len_T1 (s : Str) (h : s.cps.size = 1) : (T s).length = 1 := by simpa [T] using h
theorem pattern_runs {L : Addr} {q : Str} {fa : Addr} {cd : Value} {l : List Nat} (hl : l.length ≤ 100) :
    Runs X (k + 1) H (fenv (scopeAt nPattern) L q fa cd) L [("text", .str l)] [] (bodyAt nPattern) (Ret H (.str (patF l))) := by
  have O : EnvOk (fenv (scopeAt nPattern) L q fa cd) := ⟨rfl, rfl, rfl⟩
  have e1 : (T "*").length = 1 := rfl
  have e2 : (T "[").length = 1 := rfl
  have e3 : (T "]").length = 1 := rfl
  have h3 := sum_le3 l
  have hg := glue_length (T "*") (l.map brk)
  rw [List.length_map, e1] at hg
  have e0 : patF l = T "*" ++ glue (T "*") (l.map brk) ++ T "*" := rfl
  rw [e0]
  refine r_retV (Evs.i (ev_bin (a := .str (T "*" ++ glue (T "*") (l.map brk))) (b := .str (T "*")) (ev_bin (a := .str (T "*")) (b := .str (glue (T "*") (l.map brk))) ev_str ?_ (bin_cat ?_)) ev_str (bin_cat ?_)))
  · refine ev_meth (a := .str (T "*")) (ds := [texts (l.map brk)]) m_join ev_str rfl (evs_cons ?_ evs_nil) (c_join ?_ ?_)
    · refine ev_cx ?_
      have : texts (l.map brk) = .list (l.map fun c => D.str (brk c)) := by rw [texts, List.map_map]; rfl
      have h2 : (l.map brk).map D.str = l.map fun c => D.str (brk c) := by rw [List.map_map]; rfl
      rw [h2]
      refine cx_map (l := l) (g := fun c => .str [c]) O chr_inj (its_str (l := l) (ev_name O rfl)) (fun C cs a O' c hc => ?_) (by rw [sizeLine_eq]; omega)
      refine ev_if (ts_cmp (ev_name O' rfl) ev_str cmp_in_str) (fun h => ?_) (fun h => ?_)
      · rw [within_one, decide_eq_true_eq] at h
        rw [brk, if_pos h]
        exact ev_bin (ev_bin ev_str (ev_name O' rfl) (bin_cat (by rw [e2, sizeLine_eq]; simp))) ev_str (bin_cat (by rw [List.length_append, e2, e3, sizeLine_eq]; simp))
      · rw [within_one, decide_eq_false_iff_not] at h
        rw [brk, if_neg h]
        exact ev_name O' rfl
    · rw [List.length_map]; omega
    · rw [e1]; decide
  · rw [e1, sizeLine_eq]; omega
  · rw [List.length_append, e1, sizeLine_eq]; omega

/-! a run of a pattern's text as a sign -/
noncomputable def alnum (c : Nat) : Bool := (decide (48 ≤ c) && decide (c ≤ 57)) || ((decide (65 ≤ c) && decide (c ≤ 90)) || (decide (97 ≤ c) && decide (c ≤ 122)))
noncomputable def signR (run sp : List Nat) : List Nat :=
  if run.length = 2 ∧ run.getD 0 0 = 92 ∧ alnum (run.getD 1 0) = false then [run.getD 1 0]
  else if run.length = 1 ∧ run.getD 0 0 ∉ sp then run else []
noncomputable def sp1 : List Nat := T ".^$*+?{}[]|()\\"
noncomputable def sp2 : List Nat := T "^[]\\"
noncomputable def signF (run : List Nat) : List Nat :=
  if 2 < run.length ∧ run.getD 0 0 = 91 ∧ run.getD (run.length - 1) 0 = 93 then signR ((run.drop 1).take (run.length - 2)) sp2 else signR run sp1

theorem lt_one (a b : Nat) : decide (([a] : List Nat) < [b]) = decide (a < b) := by
  have : (([a] : List Nat) < [b]) ↔ a < b := by
    rw [List.cons_lt_cons_iff]; simp
  simp only [this]
theorem le_one (a b : Nat) : (!decide (([b] : List Nat) < [a])) = decide (a ≤ b) := by
  rw [lt_one]
  by_cases h : b < a
  · simp [h]
  · simp [h]; omega
theorem cmp_le_one {a b : Nat} : Cmp X k H .LtE (.str [a]) (.str [b]) (decide (a ≤ b)) := by
  rw [← le_one]; exact cmp_le_str
theorem getD_get {l : List Nat} {j : Nat} (h : j < l.length) : l[j]? = some (l.getD j 0) := by simp [List.getD, h]

theorem sign_rest {L : Addr} {q : Str} {fa : Addr} {cd : Value} {run sp : List Nat} {ρ : Ro} (h1 : ρ.lookup (Str.ofString "run") = some (D.str run)) (h2 : ρ.lookup (Str.ofString "special") = some (D.str sp)) (hl : run.length < 1000) :
    Runs X k H (fenv (scopeAt nSign) L q fa cd) L ρ [] ((bodyAt nSign).drop 2) (Ret H (.str (signR run sp))) := by
  have O : EnvOk (fenv (scopeAt nSign) L q fa cd) := ⟨rfl, rfl, rfl⟩
  have e92 : ∀ x : Nat, decide ([x] = T "\\") = decide (x = 92) := by intro x; rw [show T "\\" = [92] from rfl]; simp
  refine r_if (b := decide ((run.length : Int) = 2) && (decide (run.getD 0 0 = 92) && (!alnum (run.getD 1 0) && true))) (Tst.i (ts_and (ts_cmp (ev_bcall O (evs_cons (ev_name O h1) evs_nil) c_len_str) ev_int cmp_eq_int) fun h => ?_)) (fun hb => ?_) (fun hb => ?_)
  · have h2 : run.length = 2 := by have := of_decide_eq_true h; omega
    refine ts_and (ts_cmp (ev_char (ev_name O h1) ev_int (seq_nat (j := 0) (by omega)) (getD_get (by omega))) ev_str ?_) fun _ => ts_and (ts_not ?_) fun _ => ts_and_nil
    · rw [← e92]; exact cmp_eq_str
    · have e : alnum (run.getD 1 0) = ((decide (48 ≤ run.getD 1 0) && decide (run.getD 1 0 ≤ 57)) || ((decide (65 ≤ run.getD 1 0) && decide (run.getD 1 0 ≤ 90)) || ((decide (97 ≤ run.getD 1 0) && decide (run.getD 1 0 ≤ 122)) || false))) := by
        rw [Bool.or_false]; rfl
      rw [e]
      exact ts_or (ts_cmp2 ev_str (ev_char (ev_name O h1) ev_int (seq_nat (j := 1) (by omega)) (getD_get (by omega))) ev_str cmp_le_one cmp_le_one) fun _ => ts_or (ts_cmp2 ev_str (ev_char (ev_name O h1) ev_int (seq_nat (j := 1) (by omega)) (getD_get (by omega))) ev_str cmp_le_one cmp_le_one) fun _ => ts_or (ts_cmp2 ev_str (ev_char (ev_name O h1) ev_int (seq_nat (j := 1) (by omega)) (getD_get (by omega))) ev_str cmp_le_one cmp_le_one) fun _ => ts_or_nil
  · simp only [Bool.and_true, Bool.and_eq_true, decide_eq_true_eq, Bool.not_eq_true'] at hb
    have h2 : run.length = 2 := by omega
    rw [signR, if_pos ⟨h2, hb.2⟩]
    exact r_retV (Evs.i (ev_char (ev_name O h1) ev_int (seq_nat (j := 1) (by omega)) (getD_get (by omega))))
  · have hn : ¬ (run.length = 2 ∧ run.getD 0 0 = 92 ∧ alnum (run.getD 1 0) = false) := by
      intro ⟨a, b, c⟩
      rw [b, c, show (run.length : Int) = 2 by omega] at hb
      simp at hb
    rw [signR, if_neg hn]
    refine r_retV (Evs.i (ev_if (c := decide ((run.length : Int) = 1) && ((!within sp run) && true)) (ts_and (ts_cmp (ev_bcall O (evs_cons (ev_name O h1) evs_nil) c_len_str) ev_int cmp_eq_int) fun h => ts_and (ts_cmp (ev_name O h1) (ev_name O h2) cmp_notin_str) fun _ => ts_and_nil) (fun h => ?_) (fun h => ?_)))
    · simp only [Bool.and_true, Bool.and_eq_true, decide_eq_true_eq, Bool.not_eq_true'] at h
      obtain ⟨c, rfl⟩ : ∃ c, run = [c] := List.length_eq_one_iff.mp (by omega)
      rw [within_one, decide_eq_false_iff_not] at h
      rw [if_pos ⟨rfl, h.2⟩]
      exact ev_name O h1
    · rw [if_neg]
      · exact ev_str
      · intro ⟨a, b⟩
        obtain ⟨c, rfl⟩ : ∃ c, run = [c] := List.length_eq_one_iff.mp a
        have b : c ∉ sp := b
        rw [within_one, decide_eq_false b] at h
        simp at h
end Mine
end

section
open PySem PySem.W PyProof.Rows PySem.Calls
set_option Elab.async false
set_option linter.unusedVariables false
namespace Mine
variable {X : Cx} {k : Nat} {H : List Addr}
set_option maxRecDepth 10000
set_option maxHeartbeats 4000000

theorem cmp_ne_str {a b : List Nat} : Cmp X k H .NotEq (.str a) (.str b) (!decide (a = b)) := by
  intro A s Q E va vb G ia ib hQ
  obtain ⟨t, rfl⟩ := is_str.mp ia
  obtain ⟨u, rfl⟩ := is_str.mp ib
  exact PyProof.Rows.ne_str (by rw [show (S a != S b) = !(S a == S b) from rfl, S_beq]; exact hQ _ (StepW.refl ..))
theorem clipAt_neg (n m : Nat) (hm : 0 < m) : clipAt n (-(m : Int)) = n - m := by
  have := clipAt_cast n (-(m : Int))
  rw [if_pos (by omega)] at this
  omega
theorem cut_neg {α : Type} (l : List α) (a b : Nat) (hb : 0 < b) : cut l (some (a : Int)) (some (-(b : Int))) = (l.drop (min a l.length)).take (l.length - b - min a l.length) := by
  unfold cut
  simp only [Option.elim]
  rw [clipAt_nat, clipAt_neg _ _ hb]
theorem cut_upto_neg {α : Type} (l : List α) (b : Nat) (hb : 0 < b) : cut l none (some (-(b : Int))) = l.take (l.length - b) := by
  unfold cut
  simp only [Option.elim]
  rw [clipAt_neg _ _ hb]; simp
theorem cut_from_neg {α : Type} (l : List α) (b : Nat) (hb : 0 < b) : cut l (some (-(b : Int))) none = l.drop (l.length - b) := by
  unfold cut
  simp only [Option.elim]
  rw [clipAt_neg _ _ hb]
  exact List.take_of_length_le (by rw [List.length_drop]; omega)
theorem cut_upto {α : Type} (l : List α) (b : Nat) : cut l none (some (b : Int)) = l.take b := by
  unfold cut
  simp only [Option.elim]
  rw [clipAt_nat, List.drop_zero, Nat.sub_zero, List.take_eq_take_iff]; omega

theorem sign_runs {L : Addr} {q : Str} {fa : Addr} {cd : Value} {run : List Nat} (hl : run.length < 1000) :
    Runs X k H (fenv (scopeAt nSign) L q fa cd) L [("run", .str run)] [] (bodyAt nSign) (Ret H (.str (signF run))) := by
  have O : EnvOk (fenv (scopeAt nSign) L q fa cd) := ⟨rfl, rfl, rfl⟩
  refine r_assign (Evs.i ev_str) ?_
  refine r_if (b := decide ((2 : Int) < run.length) && (decide ([run.getD 0 0] ++ [run.getD (run.length - 1) 0] = T "[]") && true)) (Tst.i (ts_and (ts_cmp (ev_bcall O (evs_cons (ev_name O rfl) evs_nil) c_len_str) ev_int cmp_gt_int) fun h => ?_)) (fun hb => ?_) (fun hb => ?_)
  · have h2 : 2 < run.length := by have := of_decide_eq_true h; omega
    refine ts_and (ts_cmp (ev_bin (ev_char (ev_name O rfl) ev_int (seq_nat (j := 0) (by omega)) (getD_get (by omega))) (ev_char (ev_name O rfl) (ev_una ev_int una_neg) (seq_last (by omega)) (getD_get (by omega))) (bin_cat (by rw [sizeLine_eq]; simp))) ev_str cmp_eq_str) fun _ => ts_and_nil
  · have e : T "[]" = [91, 93] := rfl
    rw [e] at hb
    simp only [Bool.and_true, Bool.and_eq_true, decide_eq_true_eq, List.singleton_append, List.cons.injEq, and_true] at hb
    have h2 : 2 < run.length := by omega
    rw [signF, if_pos ⟨h2, hb.2.1, hb.2.2⟩]
    have ec : cut run (some ((1 : Nat) : Int)) (some (-((1 : Nat) : Int))) = (run.drop 1).take (run.length - 2) := by
      rw [cut_neg _ _ _ (by decide), Nat.min_eq_left (by omega)]; rfl
    refine r_assign (d := .str ((run.drop 1).take (run.length - 2))) (Evs.i ?_) (r_assign (Evs.i ev_str) ?_)
    · rw [← ec]
      exact ev_cutS (ev_name O rfl) (.some ev_int) (.some (ev_una ev_int una_neg)) (by rw [sizeLine_eq]; omega)
    · exact sign_rest rfl rfl (by rw [List.length_take, List.length_drop]; omega)
  · rw [signF, if_neg]
    · exact sign_rest rfl rfl hl
    · intro ⟨a, b, c⟩
      rw [b, c, show T "[]" = [91, 93] from rfl] at hb
      have : (2 : Int) < run.length := by omega
      simp [this] at hb

/-! a text parted at another -/
noncomputable def splitT (x y : List Nat) : List (List Nat) := (Txt.split (S x) (S y)).map fun s => s.cps.toList
theorem splitT_S (x y : List Nat) : (splitT x y).map S = Txt.split (S x) (S y) := by
  rw [splitT, List.map_map]
  exact (List.map_congr_left fun s _ => rfl).trans (List.map_id _)
theorem strsAre_values : ∀ l : List (Str × Tok), StrsAre (strValues l) (l.map (·.1))
  | [] => .nil
  | p :: r => .cons _ _ (strsAre_values r)
theorem m_split : MethOk "str" "split" "str.split" := ⟨F.plainAttrs_str, F.slot_str_split, by rfl⟩
theorem c_split {x y : List Nat} (hy : y ≠ []) (hz : x.length + 2 ≤ sizeLine) : CallOk X k H (.builtin "str.split") [.str x, .str y] (texts (splitT x y)) := by
  intro A s Q E vs G i hQ
  obtain ⟨v, u, rfl, i1, i2⟩ := isAll_two.mp i
  obtain ⟨t, rfl⟩ := is_str.mp i1
  obtain ⟨u, rfl⟩ := is_str.mp i2
  have hy0 : ((S y).length == 0) = false := by
    rw [S_length]; cases y with
    | nil => exact absurd rfl hy
    | cons c r => rfl
  have hz' : (S x).length + 2 ≤ sizeLine := by rw [S_length]; exact hz
  have fin : ∀ (l : List (Str × Tok)) (tk : Tok), l.map (·.1) = Txt.split (S x) (S y) → Q (.ref s.heap.objs.size) { s with heap := s.heap.push { cls := .type "list", data := .seq (strValues l).toArray }, toks := tk } := by
    intro l tk hl
    refine hQ _ _ (is_list.mpr ⟨_, strValues l, rfl, ⟨_, vis_iff.mpr ⟨G.fresh (Nat.le_refl _), Heap.get?_push_size _ rfl⟩⟩, ?_⟩) (.keeps fun b o e => Heap.get?_push_of_some _ e)
    exact isAll_of_strs (by rw [splitT_S, ← hl]; exact strsAre_values l)
  have hn : (Builtin.Str.partsBetween (S x) (Builtin.Str.occurrences (S x) (S y) 0 (S x).length ((S x).length + 1)) (S y).length).length ≤ sizeLine := by
    have e1 := StrLaws.occ_length_le (S x) (S y) 0 (S x).length ((S x).length + 1)
    rw [length_partsBetween]; omega
  cases h1 : (decide ((S x).length < (S y).length) || decide (Builtin.Str.strKind (S x) < Builtin.Str.strKind (S y)))
  · cases hf : (Builtin.Str.occurrences (S x) (S y) 0 (S x).length ((S x).length + 1)).isEmpty
    · refine call_meets F.slot_str_split (typeIs_str _ _ _) F.entry_str_split (F.args_str_split_2 _ _) (meets_str_split_sep _ _ t u h1 hy0 hf (Nat.le_trans (Nat.le_add_right _ 2) hz') hn) ?_
      show wants Q E _ { s with toks := _, heap := s.heap.push { cls := .type "list", data := .seq (strsFrom s.toks (Builtin.Str.partsBetween (S x) (Builtin.Str.occurrences (S x) (S y) 0 (S x).length ((S x).length + 1)) (S y).length)).toArray } }
      rw [strsFrom_eq]
      exact fin (numbered s.toks _) _ ((numbered_texts _ _).trans ((if_neg (ne_true_of_eq_false h1)).trans (if_neg (ne_true_of_eq_false hf))).symm)
    · exact call_meets F.slot_str_split (typeIs_str _ _ _) F.entry_str_split (F.args_str_split_2 _ _) (meets_str_split_not_found _ _ t u h1 hy0 hf)
        (fin [(_, t)] s.toks ((if_neg (ne_true_of_eq_false h1)).trans (if_pos hf)).symm)
  · exact call_meets F.slot_str_split (typeIs_str _ _ _) F.entry_str_split (F.args_str_split_2 _ _) (meets_str_split_cannot_occur _ _ t u h1)
      (fin [(_, t)] s.toks (if_pos h1).symm)
theorem splitT_pos (x y : List Nat) : 1 ≤ (splitT x y).length := by rw [splitT, List.length_map]; exact split_pos _ _

/-! the signs of a regular expression's text -/
noncomputable def sepT : List Nat := T "(?>.*?"
noncomputable def pieceF (p : List Nat) : List Nat := if cut p (some (-1)) none = T ")" then signF (cut p none (some (-1))) else []
noncomputable def piecesF (t : List Nat) : List (List Nat) := splitT (cut t (some 4) (some (-5))) sepT
noncomputable def signsF (t : List Nat) : List (List Nat) :=
  if cut t none (some 4) ++ (piecesF t).getD 0 [] ++ cut t (some (-5)) none = T "(?s:.*)\\Z" then ((piecesF t).drop 1).map pieceF else [[]]

theorem signs_runs {L : Addr} {q : Str} {fa : Addr} {cd : Value} {t : List Nat} {fs : Addr} {fd : FuncData} (DA : DefAt X "_law_sign" fs fd ["run"] (scopeAt nSign) (bodyAt nSign)) (ht : t.length < 1000) (hp : ∀ p ∈ piecesF t, p.length < 1000) (hn : (piecesF t).length < 1000) :
    Runs X (k + 1) H (fenv (scopeAt nSigns) L q fa cd) L [("text", .str t)] [] (bodyAt nSigns) (Ret H (texts (signsF t))) := by
  have O : EnvOk (fenv (scopeAt nSigns) L q fa cd) := ⟨rfl, rfl, rfl⟩
  have hpos : 0 < (piecesF t).length := splitT_pos _ _
  have c1 := cut_length_le t none (some 4)
  have c2 := cut_length_le t (some (-5)) none
  have c3 := cut_length_le t (some 4) (some (-5))
  have hz : t.length ≤ sizeLine := by rw [sizeLine_eq]; omega
  have hp0 : ((piecesF t).getD 0 []).length < 1000 := by
    have : (piecesF t)[0]? = some ((piecesF t).getD 0 []) := by simp [List.getD, hpos]
    exact hp _ (List.mem_of_getElem? this)
  refine r_assign (d := texts (piecesF t)) (Evs.i ?_) ?_
  · exact ev_meth m_split (ev_cutS (ev_name O rfl) (.some ev_int) (.some (ev_una ev_int una_neg)) hz) rfl (evs_cons ev_str evs_nil) (c_split (by decide) (by rw [sizeLine_eq]; omega))
  refine r_if (b := !decide (cut t none (some 4) ++ (piecesF t).getD 0 [] ++ cut t (some (-5)) none = T "(?s:.*)\\Z")) (Tst.i (ts_cmp (ev_bin (ev_bin (ev_cutS (ev_name O rfl) .none (.some ev_int) hz) (ev_item (l := (piecesF t).map .str) (j := 0) (d := .str ((piecesF t).getD 0 [])) (ev_name O rfl) ev_int ?_ ?_ ?_) (bin_cat ?_)) (ev_cutS (ev_name O rfl) (.some (ev_una ev_int una_neg)) .none hz) (bin_cat ?_)) ev_str cmp_ne_str)) (fun hb => ?_) (fun hb => ?_)
  · rw [List.length_map]; exact seq_nat (j := 0) hpos
  · simp [List.getD, hpos]
  · rw [List.length_map]; omega
  · rw [sizeLine_eq]; omega
  · rw [List.length_append, sizeLine_eq]; omega
  · rw [Bool.not_eq_true', decide_eq_false_iff_not] at hb
    rw [signsF, if_neg hb]
    exact r_retV (Evs.i (ev_list (ds := [.str []]) (evs_cons ev_str evs_nil)))
  · rw [Bool.not_eq_false', decide_eq_true_eq] at hb
    rw [signsF, if_pos hb]
    refine r_retV (Evs.i (ev_cx ?_))
    have h2 : (((piecesF t).drop 1).map pieceF).map D.str = ((piecesF t).drop 1).map fun p => D.str (pieceF p) := by rw [List.map_map]; rfl
    rw [h2]
    have e1 : cut ((piecesF t).map D.str) (some ((1 : Nat) : Int)) none = ((piecesF t).drop 1).map D.str := by
      rw [cut_from _ _ (by rw [List.length_map]; omega), List.map_drop]
    refine cx_map (l := (piecesF t).drop 1) (g := D.str) O str_inj (its_list (ds := ((piecesF t).drop 1).map D.str) ?_) (fun C cs a O' p hp' => ?_) (by rw [List.length_drop, sizeLine_eq]; omega)
    · rw [← e1]; exact ev_cutL (ev_name O rfl) (.some ev_int) .none (by rw [List.length_map, sizeLine_eq]; omega)
    · have hpl := hp p (List.mem_of_mem_drop hp')
      have hpz : p.length ≤ sizeLine := by rw [sizeLine_eq]; omega
      have c4 := cut_length_le p none (some (-1))
      refine ev_if (ts_cmp (ev_cutS (ev_name O' rfl) (.some (ev_una ev_int una_neg)) .none hpz) ev_str cmp_eq_str) (fun h => ?_) (fun h => ?_)
      · rw [decide_eq_true_eq] at h
        rw [pieceF, if_pos h]
        exact ev_call DA O' (evs_cons (ev_cutS (ev_name O' rfl) .none (.some (ev_una ev_int una_neg)) hpz) evs_nil) (callOk_of DA rfl fun L q _ => sign_runs (by omega))
      · rw [decide_eq_false_iff_not] at h
        rw [pieceF, if_neg h]
        exact ev_str
end Mine
end

section
open PySem PySem.W PyProof.Rows PySem.Calls Builtin Builtin.ObjectAttr
set_option Elab.async false
set_option linter.unusedVariables false
namespace Mine

/-! an object of the text's class, its names in a dict -/
structure ClsAt (X : Cx) (C fI : Addr) : Prop where
  makes : makesIn X.K C = true
  init : findIn X.K (.ref C) "__init__" = some (some (.ref fI))
  initFn : typeIn X.K (.ref fI) = some (.type "function")
  get : plainGet X.K C "value" = true
  dict : hasDictIn X.K C = true
  noV : findIn X.K (.ref C) "value" = some none
  noR : findIn X.K (.ref C) "read" = some none
  over : plainOver X.K C = true
  takeV : takerIn X.K C "value" = some none
  takeR : takerIn X.K C "read" = some none
  store : findIn X.K (.ref C) "__setattr__" = some (some (.builtin "object.__setattr__"))
  glob : X.mg "_Example" = some (.ref C)
  keep : keepIn X.K (.ref C) = true

noncomputable abbrev tapeNs : List Str := ["value", "read"]
structure InstT (h : Heap) (C t td : Addr) (m : Str → Option Value) : Prop where
  obj : h.get? t = some (instObj C td)
  ne : td ≠ t
  ns : h.Ns1 td m
  few : PySem.Within m tapeNs

theorem lookIn_ns {h : Heap} {td : Addr} {m : Str → Option Value} {name : Str} (x : h.Ns1 td m) : ∃ o es ep, h.get? td = some o ∧ o.data = .dict es ep ∧ lookIn name o = some (m name) := by
  obtain ⟨o, es, ep, e, hd, hk, _, hf⟩ := x
  refine ⟨o, es, ep, e, hd, ?_⟩
  unfold lookIn
  rw [hd]
  have h2 := hf name
  unfold nsFind findBy at h2
  rw [← Array.find?_toList] at h2
  dsimp only
  cases q : es.toList.find? (·.key.isStr name) with
  | some en => rw [q] at h2; exact congrArg some h2
  | none =>
    rw [q] at h2
    have : es.toList.any (·.refKey) = false := by
      rw [List.any_eq_false]
      intro en hen
      obtain ⟨n, t, hkk⟩ := hk en (by simpa using hen)
      simp [DictEntry.refKey, hkk]
    simp only [this, Bool.false_eq_true, if_false]
    exact congrArg some h2

section
variable {X : Cx} {k : Nat} {A : Around} {s : Shared} {C fI t td : Addr} {m : Str → Option Value} {E : Value → Shared → Prop}

theorem InstT.at {h : Heap} (I : InstT h C t td m) (name : Str) : ∃ od es ep, h.get? td = some od ∧ od.data = .dict es ep ∧ InstAt h t (instObj C td) C (some od) ∧ lookIn name od = some (m name) := by
  obtain ⟨o, es, ep, e, hd, hl⟩ := lookIn_ns (name := name) I.ns
  exact ⟨o, es, ep, e, hd, ⟨I.obj, rfl, rfl, e⟩, hl⟩

theorem inst_get {name : Str} {v : Value} {expr : Bool} {Q : Value → Shared → Prop} (TC : ClsAt X C fI) (XK : X.K.In s.heap) (I : InstT s.heap C t td m) (hn : findIn X.K (.ref C) name = some none) (hv : m name = some v) (hh : handedIn v = true)
    (h : Q v { s with toks := s.toks + 1 }) : wpAny X.M A (getAttr (.ref t) name expr) Q E s := by
  obtain ⟨od, es, ep, e, hd, IA, hl⟩ := I.at name
  rw [hv] at hl
  exact get_value XK IA (plainGet_of TC.get).1 (findObj_own TC.dict hn rfl hl) hh h

theorem inst_method {name : Str} {v : Value} {pl : Sem Bool} {Q : Value × List Value → Shared → Prop} (TC : ClsAt X C fI) (XK : X.K.In s.heap) (I : InstT s.heap C t td m) (hn : findIn X.K (.ref C) name = some none) (hv : m name = some v) (hh : handedIn v = true)
    (h : Q (v, []) { s with toks := s.toks + 1 }) : wpAny X.M A (getMethod (.ref t) name pl) Q E s := by
  obtain ⟨od, es, ep, e, hd, IA, hl⟩ := I.at name
  exact method_usual XK IA (plainGet_of TC.get).1 (plainGet_of TC.get).2 hn rfl (inst_get TC XK I hn hv hh h)

theorem inst_set {name : Str} {v : Value} {Q : Unit → Shared → Prop} (TC : ClsAt X C fI) (XK : X.K.In s.heap) (I : InstT s.heap C t td m) (hn : name ∈ tapeNs) (ht : takerIn X.K C name = some none)
    (h : ∀ h' tk, InstT h' C t td (fun y => if y = name then some v else m y) → Heap.SameBut td s.heap h' → Q () { s with heap := h', toks := tk }) : wpAny X.M A (setAttr (.ref t) name v) Q E s := by
  obtain ⟨od, es, ep, e, hd, IA, hl⟩ := I.at name
  refine set_plain XK IA TC.store (osa_open (s := { s with toks := s.toks + 1 }) XK IA TC.over ht fun b => ?_)
  obtain ⟨cd, hc, hd'⟩ := any_some TC.dict
  refine wpAny_bind (wpAny_pure (wpAny_bind (wpAny_bind (wpAny_loadPart I.obj (wpAny_bind (Looks.here (s := { s with toks := s.toks + 1 }) (looks_clsIn XK hc) ?_))))))
  rw [hd']
  refine wpAny_pure (a := some td) (wpAny_bind (wpAny_pure (wpAny_bind ?_)))
  refine wpAny_nsSet1 (s := { s with toks := s.toks + 1 }) I.ns fun h' hn' hs => ?_
  have hw : PySem.Within (fun y => if y = name then some v else m y) tapeNs := fun y hy => by
    by_cases q : y = name
    · rw [q]; exact hn
    · simp only [q, if_false] at hy; exact I.few y hy
  obtain ⟨oD, esD, epD, hoD, hdD, hcD⟩ := hn'.count hw
  refine wpAny_bind (wpAny_lookBehind hoD (by rw [hdD]; exact pastItsLine_dict (Nat.le_trans hcD (by decide))) ?_)
  exact wpAny_pure (h h' _ ⟨(hs.2 t I.ne.symm).trans I.obj, I.ne, hn', hw⟩ hs)
end

/-! a call of what an attribute holds -/
theorem Call_attr {X : Cx} {A : Around} {E : Value → Shared → Prop} {s : Shared} {env : Env} {o : PySem.Expr} {name : Str} {apos pos : Pos} {args : List PySem.Expr} {Q : Value → Shared → Prop}
    (hbase : attributeBase o name env (eval o env) = eval o env)
    (hfew : ((backTo pos (starEach args env)).all (fun x => !x.1) && (backToKw pos (keywordEach [] env)).all (fun x => x.1.isSome)
      && decide (args.length + ([] : List Keyword).length + (if ([] : List Keyword).isEmpty then 0 else 1) < 30)) = true)
    (hline : (apos.endLine == pos.line) = true)
    (h : wpAny X.M A (eval o env) (fun ov s₁ => ∀ pl, wpAny X.M A (getMethod ov name pl) (fun p s₂ => wpAny X.M A (callWith pos p.1 p.2 (backTo pos (starEach args env)) []) Q E s₂) E s₁) E s) :
    wpAny X.M A (eval (.Call (.Attribute o name apos) args [] pos) env) Q E s := by
  rw [arm_eval_Call, hbase]
  refine wpAny_bind (wpAny_mono h (fun ov s₁ h₁ => ?_) fun _ _ e => e)
  refine wpAny_bind (wpAny_standAt ?_)
  have hform : methodCallForm (args.length + ([] : List Keyword).length) (backTo pos (starEach args env)) (backToKw pos (keywordEach [] env)) = true := hfew
  have hpos : methodCallPos true o env apos pos = pure pos := by unfold methodCallPos; simp [hline]
  unfold methodCall
  rw [hform]
  refine wpAny_bind (wpAny_holding (wpAny_mono (h₁ _) (fun p s₂ h₂ => ?_) fun _ _ e => e))
  exact wpAny_bind (wpAny_of_eq hpos h₂)
end Mine
end

section
open PySem PySem.W PyProof.Rows PySem.Calls
set_option Elab.async false
set_option linter.unusedVariables false
namespace Mine
set_option maxRecDepth 10000
set_option maxHeartbeats 4000000

noncomputable abbrev nTape : Nat := 17
noncomputable def readBody : List Stmt := match (bodyAt nTape).drop 1 with | .FunctionDef _ _ b .. :: _ => b | _ => []
noncomputable def readScope : Scope := match (bodyAt nTape).drop 1 with | .FunctionDef _ _ _ _ _ _ sc .. :: _ => sc | _ => default
noncomputable def readParams : Arguments := match (bodyAt nTape).drop 1 with | .FunctionDef _ ps .. :: _ => ps | _ => default

/-- the def read, as the tape holds it -/
structure ReadFn (h : Heap) (B : Nat) (fr ct co t : Addr) (l : List UInt8) (name qual : Str) (doc pm cd ctv : Value) : Prop where
  obj : h.get? fr = some { cls := .type "function", data := .func (fnX name qual readParams readBody readScope [("tape", ct), ("octets", co)] .none .none doc pm none cd ctv) }
  code : h.CodeRec cd qual
  tape : h.IsCell ct (some (.ref t))
  octets : ∃ tk, h.IsCell co (some (.bytes l.toArray tk))
  ne : ct ≠ co
  bd : fr < B ∧ ct < B ∧ co < B ∧ ∃ c, cd = .ref c ∧ c < B

/-- a tape of the octets l, p of them read -/
structure TapeAt (X : Cx) (h : Heap) (B : Nat) (C t td fr : Addr) (l : List UInt8) (p : Nat) : Prop where
  inst : ∃ m tk, InstT h C t td m ∧ m "value" = some (.int p tk) ∧ m "read" = some (.ref fr)
  fn : ∃ ct co name qual doc pm cd ctv, ReadFn h B fr ct co t l name qual doc pm cd ctv
  low : X.n ≤ td ∧ X.n ≤ t ∧ td < B ∧ t < B ∧ B = fr + 1

section
variable {X : Cx} {k : Nat} {H : List Addr} {W : Addr → Prop} {h h' : Heap} {C fI t td fr : Addr} {l : List UInt8} {p N : Nat} {m : Str → Option Value}

theorem InstT.ext (I : InstT h C t td m) (B : Base X h) (E : Ext X W h h') (h1 : ¬ W t) (h2 : ¬ W td) : InstT h' C t td m := by
  obtain ⟨o, es, ep, e, hd, r⟩ := I.ns
  obtain ⟨⟨sl, e1⟩, _⟩ := E.keep _ _ h2 (B.notTab e fun vs q => by rw [hd] at q; cases q) e
  exact ⟨(E.keep _ _ h1 (B.notTab I.obj fun vs q => by cases q) I.obj).2 (fun es ep q => by cases q), I.ne, ⟨_, es, ep, e1, hd, r⟩, I.few⟩
theorem codeRec_ext {cd : Value} {q : Str} (x : h.CodeRec cd q) (B : Base X h) (E : Ext X W h h') (hW : ∀ b o, cd = .ref b → h.get? b = some o → (∃ vs, o.data = .fields vs) → ¬ W b) : h'.CodeRec cd q := by
  obtain ⟨c, o, vs, t, e1, e2, e3, e4⟩ := x
  have nt : c ∉ X.TB := fun q' => by
    obtain ⟨T, hT, rfl⟩ := List.mem_map.mp q'
    rcases (B.tabs T hT).2 with h2 | ⟨c', h2, _⟩
    · rw [e2] at h2; cases h2; cases e3; simp at e4
    · rw [e2] at h2; cases h2; cases e3; simp [rawInt] at e4
  exact ⟨c, o, vs, t, e1, (E.keep _ _ (hW _ _ e1 e2 ⟨_, e3⟩) nt e2).2 (fun es ep q => by rw [e3] at q; cases q), e3, e4⟩
theorem ReadFn.ext {ct co : Addr} {name qual : Str} {doc pm cd ctv : Value} (F : ReadFn h N fr ct co t l name qual doc pm cd ctv) (B : Base X h) (E : Ext X W h h') (hW : ∀ b o, b < N → h.get? b = some o → (∀ es ep, o.data ≠ .dict es ep) → ¬ W b) : ReadFn h' N fr ct co t l name qual doc pm cd ctv := by
  obtain ⟨f1, f2, f3, ⟨tk, f4⟩, f5, b1, b2, b3, c, hc, b4⟩ := F
  refine ⟨(E.keep _ _ (hW _ _ b1 f1 fun es ep q => by cases q) (B.notTab f1 fun vs q => by cases q) f1).2 (fun es ep q => by cases q), codeRec_ext f2 B E fun b o q' e hd => hW b o (by rw [hc] at q'; cases q'; exact b4) e fun es ep q => ?_, ?_, ⟨tk, ?_⟩, f5, b1, b2, b3, c, hc, b4⟩
  · obtain ⟨vs, hd⟩ := hd; rw [hd] at q; cases q
  · obtain ⟨o, e, hd⟩ := f3
    exact E.cell B ⟨o, e, hd⟩ (hW _ _ b2 e fun es ep q => by rw [hd] at q; cases q)
  · obtain ⟨o, e, hd⟩ := f4
    exact E.cell B ⟨o, e, hd⟩ (hW _ _ b3 e fun es ep q => by rw [hd] at q; cases q)
/-- what turns nothing that stands leaves the tape -/
theorem TapeAt.ext (T : TapeAt X h N C t td fr l p) (B : Base X h) (E : Ext X W h h') (hW : ∀ b o, b < N → h.get? b = some o → ¬ W b) : TapeAt X h' N C t td fr l p := by
  obtain ⟨⟨m, tk, I, e1, e2⟩, ⟨ct, co, name, qual, doc, pm, cd, ctv, F⟩, lo⟩ := T
  obtain ⟨o, es, ep, e, _⟩ := I.ns
  exact ⟨⟨m, tk, I.ext B E (hW _ _ lo.2.2.2.1 I.obj) (hW _ _ lo.2.2.1 e), e1, e2⟩, ⟨ct, co, name, qual, doc, pm, cd, ctv, F.ext B E fun b o hb e _ => hW b o hb e⟩, lo⟩
end

theorem TapeAt.sz {X : Cx} {h : Heap} {N : Nat} {C t td fr : Addr} {l : List UInt8} {p : Nat} (T : TapeAt X h N C t td fr l p) : N ≤ h.objs.size := by
  obtain ⟨ct, co, name, qual, doc, pm, cd, ctv, F⟩ := T.fn
  rw [T.low.2.2.2.2]
  exact Heap.lt_size F.obj
theorem tail_cutB {X : Cx} {A : Around} {s : Shared} {Q : Value → Shared → Prop} {E : Value → Shared → Prop} {value : PySem.Expr} {lower upper : Option PySem.Expr} {p : Pos} {l : List UInt8} {t : Tok} {sl : Addr} {vl vu : Value} {lo hi : Option Int}
    (hsl : s.heap.get? sl = some { cls := .type "slice", data := .fields #[vl, vu, .none] }) (pl : IsPart vl lo) (pu : IsPart vu hi) (hz : l.length ≤ sizeLine) (hQ : ∀ t' k, Q (.bytes (cut l lo hi).toArray t') { s with toks := k }) :
    wpAny X.M A (subscriptTail value (.Slice lower upper none p) (.bytes l.toArray t) (.ref sl)) Q E s := by
  refine tail_any (T := "bytes") rfl FB.slot_bytes_getitem.lookup ?_ rfl
  have e : KBy.picked l.toArray lo hi = (cut l lo hi).toArray := by rw [KBc.picked_eq]; unfold cut; simp
  refine getItem_meets (typeIs_bytes _ _ _) (by decide) FB.slot_bytes_getitem FB.entry_bytes_getitem (FB.args_bytes_getitem_2 _ _) (KBc.meets_slice2 l.toArray t sl pl pu)
    ⟨⟨_, hsl, rfl, rfl⟩, by rw [e]; simpa using Nat.le_trans (cut_length_le l lo hi) hz, fun t' k => ?_⟩
  rw [e]
  exact hQ _ _
end Mine
end

section
open PySem PySem.W PyProof.Rows PySem.Calls
set_option Elab.async false
set_option linter.unusedVariables false
namespace Mine
set_option maxRecDepth 10000
set_option maxHeartbeats 4000000
section
variable {X : Cx} {k : Nat} {H : List Addr} {A : Around} {env : Env} {N : Nat} {ρ : Ro} {μ : Mu} {s s' : Shared}
theorem Inv.stepV2 (I : Inv X k H A env N ρ μ s) {td : Addr} (t : StepW X (fun b => b = td) s s') (nl : ¬ env.locals = td) (hd : ∃ o es ep, s.heap.get? td = some o ∧ o.data = .dict es ep) : Inv X k H A env N ρ μ s' := by
  obtain ⟨o, es, ep, e, hd⟩ := hd
  have hW : WOk H (fun b => b = td) s.heap := fun a ha => .inr fun o' e' q => by rw [ha, e] at e'; cases e'; rw [hd] at q; cases q
  have nc : ∀ x c, env.cells.lookup x = some c → ¬ c = td := fun x c hc q => by
    obtain ⟨v, o', e', hd'⟩ := I.cell x c hc
    rw [q, e] at e'; cases e'; rw [hd] at hd'; cases hd'
  refine ⟨I.fr, I.good.step t, fun y d hy => ?_, ?_, fun y c hc => ?_, I.own, fun a ds ha => ?_⟩
  · obtain ⟨v, lk, iv⟩ := I.sees y d hy
    exact ⟨v, lk.extW I.good.base t.ext nl (fun c hc => nc y c hc), iv.stepW I.good t hW⟩
  · obtain ⟨m, hm⟩ := I.loc
    exact ⟨m, t.ext.ns I.good.base hm nl⟩
  · obtain ⟨v, hv⟩ := I.cell y c hc
    exact ⟨v, t.ext.cell I.good.base hv (nc y c hc)⟩
  · obtain ⟨h1, h2, ys, h3, h4⟩ := I.lists a ds ha
    refine ⟨h1, h2, ys, plain_ext I.good.base t.ext h3 fun q => ?_, h4.stepW I.good t hW⟩
    obtain ⟨n, e'⟩ := h3
    rw [q, e] at e'; cases e'; cases hd
theorem Inv.stepV (I : Inv X k H A env N ρ μ s) {td : Addr} (t : StepW X (fun b => b = td) s s') (htd : td < N) (hd : ∃ o es ep, s.heap.get? td = some o ∧ o.data = .dict es ep) : Inv X k H A env N ρ μ s' :=
  I.stepV2 t (fun q => Nat.lt_irrefl _ (Nat.lt_of_lt_of_le htd (q ▸ I.fr.loc))) hd
end
section
variable {X : Cx} {k : Nat} {H : List Addr} {A : Around} {s : Shared} {C fI t td fr : Addr} {l : List UInt8} {p B : Nat} {m : Str → Option Value} {Q : Value → Shared → Prop} {E : Value → Shared → Prop}
noncomputable abbrev ro0 (n : Nat) (t : Addr) (l : List UInt8) : Ro := [("count", .int n), ("octets", .bytes l), ("tape", .addr t)]

theorem Evs.at {env : Env} {ρ : Ro} {e : PySem.Expr} {d : D} (G : Good X k H A s) (S : Sees H env s.heap ρ) (he : Evs X k H env ρ e d) (hQ : ∀ v s', Is (vis H s'.heap) d v → Step X s s' → Q v s') : wpAny X.M A (eval e env) Q E s := he A s Q E G S hQ
noncomputable abbrev renv (qual : Str) (L fr : Addr) (cd : Value) (co ct : Addr) : Env := envX qual readScope L fr cd [(("tape" : Str), ct), (("octets" : Str), co)]
theorem read_inv {ct co : Addr} {name qual : Str} {doc pm cd ctv : Value} {n : Nat} {tk : Tok} (G : Good X (k + 2) H A s) (F : ReadFn s.heap B fr ct co t l name qual doc pm cd ctv)
    (h : ∀ (s1 : Shared) E', Step X s s1 → Inv X (k + 1) H (A.deeper (renv qual s.heap.objs.size fr cd co ct)) (renv qual s.heap.objs.size fr cd co ct) s.heap.objs.size (ro0 n t l) [] s1 →
      wpAny X.M (A.deeper (renv qual s.heap.objs.size fr cd co ct)) (execs readBody (renv qual s.heap.objs.size fr cd co ct)) (fun f s' => Q (match f with | .ret v => v | _ => .none) s') E' s1) : wpAny X.M A (call (.ref fr) [.int n tk]) Q E s := by
  have hbind : BindsTo s (fnX name qual readParams readBody readScope [("tape", ct), ("octets", co)] .none .none doc pm none cd ctv) ⟨[.int n tk], []⟩ [("count", .int n tk)] := BindsTo.of_eq (by rfl)
  have hc : ∀ x ∈ readScope.names, x.2 ≠ NameKind.cell := by decide
  refine wpAny_call (codeAny_call_def (body := readBody) (binds := [("count", .int n tk)]) (by have := G.ok.depth; omega) F.obj rfl G.base.lim F.code rfl hbind hc (fun x hx => by rw [List.mem_singleton.mp hx]; rfl) (fun h₀ hns hk => ?_) rfl rfl rfl)
  have t1 : Step X s { s with heap := h₀, toks := s.toks + 1 } := .keeps hk
  refine h _ _ t1 ?_
  have G1 := G.step t1
  have hof : ∀ x c, ([(("tape" : Str), ct), (("octets" : Str), co)] : List (Str × Addr)).lookup x = some c → (x = "octets" ∧ c = co) ∨ (x = "tape" ∧ c = ct) := fun x c hc => by
    rcases List.mem_cons.mp (mem_of_lookup hc) with q | q
    · cases q; exact .inr ⟨rfl, rfl⟩
    · cases List.mem_singleton.mp q; exact .inl ⟨rfl, rfl⟩
  obtain ⟨tko, hco⟩ := F.octets
  refine ⟨⟨⟨rfl, rfl, rfl⟩, G.base.size, Nat.le_refl _, fun a b c ha hb => ?_, rfl, let ⟨l, h2, _⟩ := G.fr; ⟨l, by show A.frames.map _ = _; rw [h2]; rfl⟩⟩, ⟨⟨fun _ => G.ok.handled (Nat.succ_ne_zero _), ?_, ?_⟩, G1.base, G1.hid, ?_⟩, ?_, ⟨_, hns⟩, fun y c hy => ?_, fun y c hk' _ => ?_, fun a ds h => by cases h⟩
  · rcases hof a c ha with ⟨rfl, rfl⟩ | ⟨rfl, rfl⟩ <;> rcases hof b c hb with ⟨rfl, q⟩ | ⟨rfl, q⟩
    · rfl
    · exact absurd q.symm F.ne
    · exact absurd q F.ne
    · rfl
  · have := G.ok.depth; show A.depth + 1 + (k + 1) < _; omega
  · have := G.ok.units; show A.units + 3 + 20 * (k + 1) < _; omega
  · obtain ⟨l, h2, h3⟩ := G1.fr
    refine ⟨_ :: l, by show A.frames.map _ = _; rw [h2]; rfl, fun e he => ?_⟩
    rcases List.mem_cons.mp he with rfl | he
    · obtain ⟨o, es, ep, e, hd, _⟩ := hns
      exact ⟨(by decide : readScope.kind ≠ .module), _, o, rfl, G.base.size, e, es, ep, hd⟩
    · exact h3 e he
  · intro y d hy
    rcases List.mem_cons.mp (mem_of_lookup hy) with q | q
    · cases q
      exact ⟨_, .inl ⟨rfl, _, hns, rfl⟩, is_int.mpr ⟨tk, rfl⟩⟩
    · rcases List.mem_cons.mp q with q | q
      · cases q
        exact ⟨_, .inr (.inr ⟨rfl, by decide, co, rfl, hco.keeps hk⟩), is_bytes.mpr ⟨tko, rfl⟩⟩
      · cases List.mem_singleton.mp q
        exact ⟨_, .inr (.inr ⟨rfl, by decide, ct, rfl, F.tape.keeps hk⟩), is_addr.mpr rfl⟩
  · rcases hof y c hy with ⟨rfl, rfl⟩ | ⟨rfl, rfl⟩
    · exact ⟨_, hco.keeps hk⟩
    · exact ⟨_, F.tape.keeps hk⟩
  · exact absurd rfl (hc (y, .cell) (mem_of_lookup (show readScope.names.lookup y = some .cell from hk')))

theorem call_read (TC : ClsAt X C fI) (G : Good X (k + 2) H A s) (T : TapeAt X s.heap B C t td fr l p) {n : Nat} {tk : Tok} (hp : p ≤ l.length) (hl : l.length ≤ 1000)
    (hQ : ∀ tk' s', StepW X (fun b => b = td) s s' → TapeAt X s'.heap B C t td fr l (min (p + n) l.length) → Q (.bytes ((l.drop p).take n).toArray tk') s') : wpAny X.M A (call (.ref fr) [.int n tk]) Q E s := by
  have T' := T
  have hB := T.sz
  obtain ⟨_, ⟨ct, co, name, qual, doc, pm, cd, ctv, F⟩, lo⟩ := T'
  refine read_inv G F fun s1 E' t1 I1 => ?_
  have O := I1.fr.eok
  have old : ∀ {b o}, s.heap.get? b = some o → ¬ Wr (renv qual s.heap.objs.size fr cd co ct) H s.heap.objs.size b := fun {b o} e ⟨h, _⟩ => Nat.lt_irrefl _ (Nat.lt_of_lt_of_le (Heap.lt_size e) h)
  have T1 := T.ext G.base t1.ext fun _ _ _ _ f => f
  -- start = tape.value
  refine wpAny_execs_cons (wpAny_Assign_Name (Attribute_any_ ((ev_name (X := X) (k := k + 1) (H := H) (ρ := ro0 n t l) (d := .addr t) O rfl) _ s1 _ _ I1.good I1.sees fun v2 s2 i2 t2 => ?_)) rfl)
  rw [is_addr.mp i2]
  have T2 := T1.ext I1.good.base t2.ext fun _ _ _ _ f => f
  obtain ⟨m2, tv2, J2, e21, e22⟩ := T2.inst
  refine inst_get TC (I1.step t2).good.base.K J2 TC.noV e21 rfl ?_
  have t3 : Step X s1 { s2 with toks := s2.toks + 1 } := t2.trans (StepW.toks ..)
  refine (I1.step t3).bind (d := .int p) rfl (is_int.mpr ⟨_, rfl⟩) fun s4 t4 I4 => ?_
  have T4 := T.ext G.base ((t1.no.trans t3.no).trans t4).ext fun b o hb _ ⟨h, _⟩ => Nat.lt_irrefl _ (Nat.lt_of_lt_of_le (Nat.lt_of_lt_of_le hb hB) h)
  -- tape.value = min(start + count, len(octets))
  refine wpAny_execs_cons (plainObj_wpAny_Assign_Attribute ?_ rfl)
  refine Evs.at (d := .int (min ((p : Int) + n) l.length)) I4.good I4.sees ?_ (fun v5 s5 i5 t5 => ?_)
  · exact ev_bcall O (evs_cons (ev_bin (ev_name O rfl) (ev_name O rfl) bin_add) (evs_cons (ev_bcall O (evs_cons (ev_name O rfl) evs_nil) (c_len_bytes (by omega))) evs_nil)) c_min2
  obtain ⟨tk5, rfl⟩ := is_int.mp i5
  refine (ev_name (X := X) (k := k + 1) (H := H) (ρ := ("start", .int p) :: ro0 n t l) (d := .addr t) O rfl) _ s5 _ _ (I4.step t5).good (I4.step t5).sees fun v6 s6 i6 t6 => ?_
  rw [is_addr.mp i6]
  have t46 := t5.trans t6
  have I6 := I4.step t46
  have T6 := T4.ext I4.good.base t46.ext fun _ _ _ _ f => f
  obtain ⟨m6, tv6, J6, e61, e62⟩ := T6.inst
  refine inst_set TC I6.good.base.K J6 (by decide) TC.takeV fun h7 tk7 J7 hs7 => ?_
  obtain ⟨od, des, dep, hod, hdd, _⟩ := J6.ns
  obtain ⟨od', des', dep', hod', hdd', _⟩ := J7.ns
  have t7 : StepW X (fun b => b = td) s6 { s6 with heap := h7, toks := tk7 } := .of (Ext.at hod hod' (fun vs q => by rw [hdd] at q; cases q) (fun vs q => by rw [hdd'] at q; cases q) (fun _ _ _ => ⟨_, _, hdd'⟩) lo.1 rfl fun b o hb e => by rw [hs7.2 b hb]; exact e)
  have tdlt : td < s.heap.objs.size := by
    obtain ⟨m, tv, J, _, _⟩ := T.inst
    obtain ⟨o, _, _, e, _⟩ := J.ns
    exact Heap.lt_size e
  have I7 := I6.stepV t7 tdlt ⟨od, des, dep, hod, hdd⟩
  have T7 : TapeAt X h7 B C t td fr l (min (p + n) l.length) := by
    obtain ⟨ct', co', name', qual', doc', pm', cd', ctv', F6⟩ := T6.fn
    refine ⟨⟨_, tk5, J7, ?_, ?_⟩, ⟨ct', co', name', qual', doc', pm', cd', ctv', F6.ext I6.good.base t7.ext fun b o _ e hb q => ?_⟩, lo⟩
    · simp only [if_true]
      congr 2
      omega
    · show (if (("read" : Str) = "value") then _ else m6 "read") = _
      rw [if_neg (by decide)]; exact e62
    · rw [q, hod] at e; cases e; exact hb _ _ hdd
  -- return octets[start:tape.value]
  refine wpAny_execs_cons (wpAny_Return_some (Subscript_ (Evs.at (d := .bytes l) I7.good I7.sees (ev_name O rfl) fun v8 s8 i8 t8 => ?_)))
  have I8 := I7.step t8
  have T8 := T7.ext I7.good.base t8.ext fun _ _ _ _ f => f
  refine wpAny_Slice (Evs.at (d := .int p) I8.good I8.sees (ev_name O rfl) fun v9 s9 i9 t9 => ?_)
  have I9 := I8.step t9
  have T9 := T8.ext I8.good.base t9.ext fun _ _ _ _ f => f
  refine Attribute_any_ (Evs.at (d := .addr t) I9.good I9.sees (ev_name O rfl) fun v10 s10 i10 t10 => ?_)
  rw [is_addr.mp i10]
  have I10 := I9.step t10
  have T10 := T9.ext I9.good.base t10.ext fun _ _ _ _ f => f
  obtain ⟨m10, tv10, J10, e101, e102⟩ := T10.inst
  refine inst_get TC I10.good.base.K J10 TC.noV e101 rfl ?_
  show wpAny X.M _ (evalPart none _) _ _ _
  refine wpAny_pure ?_
  obtain ⟨tk8, rfl⟩ := is_bytes.mp i8
  obtain ⟨tk9, rfl⟩ := is_int.mp i9
  refine tail_cutB (lo := some (p : Int)) (hi := some ((min (p + n) l.length : Nat) : Int)) (Heap.get?_push_size _ rfl) (.int _ _) (.int _ _) (by rw [sizeLine_eq]; omega) fun t' kk => ?_
  have ec : cut l (some (p : Int)) (some ((min (p + n) l.length : Nat) : Int)) = (l.drop p).take n := by
    unfold cut
    simp only [Option.elim]
    rw [clipAt_nat, clipAt_nat, Nat.min_eq_left hp, Nat.min_eq_left (Nat.min_le_right _ _)]
    rw [List.take_eq_take_iff, List.length_drop]; omega
  rw [ec]
  have t11 : Step X s10 { s10 with heap := s10.heap.push { cls := .type "slice", data := .fields #[.int p tk9, .int ((min (p + n) l.length : Nat) : Int) tv10, .none] }, toks := kk } := .of (Ext.push _ _)
  have tt : StepW X (fun b => Wr (renv qual s.heap.objs.size fr cd co ct) H s.heap.objs.size b ∨ b = td) s _ :=
    (((((((t1.trans t3).no.trans (t4.mono fun b => .inl)).trans t46.no).trans (t7.mono fun b => .inr)).trans t8.no).trans t9.no).trans t10.no).trans t11.no
  exact hQ t' _ (tt.monoAt fun b o e q => q.resolve_left (old e)) (T10.ext I10.good.base t11.ext fun _ _ _ _ f => f)
end
end Mine
end

section
open PySem PySem.W PyProof.Rows PySem.Calls
set_option Elab.async false
set_option linter.unusedVariables false
namespace Mine
set_option maxRecDepth 10000
set_option maxHeartbeats 4000000
noncomputable abbrev nUint1 : Nat := 2
noncomputable abbrev nString1 : Nat := 3
section
variable {X : Cx} {k : Nat} {H : List Addr} {A : Around} {s : Shared} {C fI t td fr : Addr} {l : List UInt8} {p B : Nat} {m : Str → Option Value} {Q : Value → Shared → Prop} {E : Value → Shared → Prop}

theorem tru_bytes {b : List UInt8} (h : b.length ≤ 1099511627776) : Tru X k H (.bytes b) (!b.isEmpty) := by
  intro A s Q E va G i hQ
  obtain ⟨t, rfl⟩ := is_bytes.mp i
  refine truthy_bytes (by simpa using h) ?_
  rw [show ((b.toArray.size : Int) != 0) = !b.isEmpty by cases b <;> simp; omega]
  exact hQ _ ((StepW.toks X No s _).trans (StepW.toks ..))

/-- f.read(n), f a tape's name -/
theorem call_f_read {env : Env} {N : Nat} {ρ : Ro} {y : Str} {e : PySem.Expr} {pp apos pos : Pos} {n : Nat} (TC : ClsAt X C fI) (I : Inv X (k + 2) H A env N ρ [] s) (T : TapeAt X s.heap B C t td fr l p) (hp : p ≤ l.length) (hl : l.length ≤ 1000) (hB : B ≤ N)
    (hy : ρ.lookup y = some (.addr t)) (he : Evs X (k + 2) H env ρ e (.int n))
    (hQ : ∀ tk' s', StepW X (fun b => b = td) s s' → Inv X (k + 2) H A env N ρ [] s' → TapeAt X s'.heap B C t td fr l (min (p + n) l.length) → Q (.bytes ((l.drop p).take n).toArray tk') s')
    (hd : (y == ("__debug__" : Str)) = false := by decide)
    (hbase : attributeBase (.Name y pp) "read" env (eval (.Name y pp) env) = eval (.Name y pp) env := by rfl) (hline : (apos.endLine == pos.line) = true := by rfl)
    (hse : starEach [e] env = (false, eval e env) :: starEach [] env := by rfl)
    (hfew : ((backTo pos (starEach [e] env)).all (fun x => !x.1) && (backToKw pos (keywordEach [] env)).all (fun x => x.1.isSome)
      && decide ([e].length + ([] : List Keyword).length + (if ([] : List Keyword).isEmpty then 0 else 1) < 30)) = true := by rfl) :
    wpAny X.M A (eval (.Call (.Attribute (.Name y pp) "read" apos) [e] [] pos) env) Q E s := by
  refine Call_attr hbase hfew hline (Evs.at (d := .addr t) I.good I.sees (ev_name I.fr.eok hy hd) fun v1 s1 i1 t1 pl => ?_)
  rw [is_addr.mp i1]
  have I1 := I.step t1
  have T1 := T.ext I.good.base t1.ext fun _ _ _ _ f => f
  obtain ⟨m1, tv1, J1, e11, e12⟩ := T1.inst
  refine inst_method TC I1.good.base.K J1 TC.noR e12 rfl ?_
  have t2 : Step X s1 { s1 with toks := s1.toks + 1 } := StepW.toks ..
  have I2 := I1.step t2
  have fnAt : ∀ {h : Heap}, TapeAt X h B C t td fr l p → FnAt fr h := fun T => by
    obtain ⟨ct, co, name, qual, doc, pm, cd, ctv, F⟩ := T.fn
    exact ⟨_, _, _, _, F.obj⟩
  refine callWith_F (fnAt T1) ?_ hse rfl
  refine wpAny_items_cons (he A _ _ E I2.good I2.sees fun v3 s3 i3 t3 => wpAny_items_nil ?_) hse
  obtain ⟨tk3, rfl⟩ := is_int.mp i3
  have T3 := (T1.ext I1.good.base t2.ext fun _ _ _ _ f => f).ext I2.good.base t3.ext fun _ _ _ _ f => f
  have I3 := I2.step t3
  refine ⟨fnAt T3, ?_⟩
  refine call_read TC I3.good T3 hp hl fun tk' s4 t4 T4 => ?_
  obtain ⟨m3, tv3, J3, _, _⟩ := T3.inst
  obtain ⟨od, des, dep, hod, hdd, _⟩ := J3.ns
  exact hQ tk' s4 (((t1.trans t2).trans t3).no.trans t4) (I3.stepV t4 (Nat.lt_of_lt_of_le T3.low.2.2.1 hB) ⟨od, des, dep, hod, hdd⟩) T4
end
end Mine
end

section
open PySem PySem.W PyProof.Rows PySem.Calls
set_option Elab.async false
set_option linter.unusedVariables false
namespace Mine
set_option maxRecDepth 10000
set_option maxHeartbeats 4000000
section
variable {X : Cx} {k : Nat} {H : List Addr} {A : Around} {s : Shared} {C fI t td fr : Addr} {l : List UInt8} {p B : Nat} {m : Str → Option Value} {Q : Value → Shared → Prop} {E : Value → Shared → Prop}

/-- from a body's run to its call's reader, when the tape turned too -/
theorem back_tape {env : Env} {s s₁ s' : Shared} {N : Nat} (hN : N = s.heap.objs.size) (t1 : Step X s s₁) (t2 : StepW X (fun b => Wr env H N b ∨ b = td) s₁ s') : StepW X (fun b => b = td) s s' :=
  (t1.no.trans t2).monoAt fun b o e hb => by
    rcases hb with hb | hb
    · exact absurd hb.1 (fun h => Nat.lt_irrefl b (Nat.lt_of_lt_of_le (Heap.lt_size e) (hN ▸ h)))
    · exact hb

noncomputable def notEnough : List Nat := T "not enough data in stream to read uint1"
theorem uint1_call {fa : Addr} {fd : FuncData} (DA : DefAt X "read_uint1" fa fd ["f"] (scopeAt nUint1) (bodyAt nUint1)) (TC : ClsAt X C fI) (G : Good X (k + 3) H A s) (T : TapeAt X s.heap B C t td fr l p) (hp : p ≤ l.length) (hl : l.length ≤ 1000)
    (hQ : p < l.length → ∀ tk' s', StepW X (fun b => b = td) s s' → TapeAt X s'.heap B C t td fr l (p + 1) → Q (.int (l.getD p 0).toNat tk') s')
    (hE : p = l.length → ∀ a s1 s' ls, A.frames = some ls → StepW X (fun b => b = td) s s1 → TapeAt X s1.heap B C t td fr l p → Up X ls a "ValueError" (strArg notEnough) s1 s' → E (.ref a) s') :
    wpAny X.M A (call (.ref fa) [.ref t]) Q E s := by
  refine wpAny_call (call_def DA.toFnK G (ds := [.addr t]) (isAll_cons.mpr ⟨_, _, rfl, is_addr.mpr rfl, isAll_nil.mpr rfl⟩) rfl (fun s₁ t1 I => ?_) (by decide) (by rfl) (by rfl) (by rfl) (by rfl))
  obtain ⟨ls, hA, _⟩ := G.fr
  have hfr := Around.frames_deeper (env := fenv (scopeAt nUint1) s.heap.objs.size (fd.qualname ++ ".<locals>.") fa fd.code) hA
  have T1 := T.ext G.base t1.ext fun _ _ _ _ f => f
  -- data = f.read(1)
  refine wpAny_execs_cons (wpAny_Assign_Name (call_f_read (n := 1) TC I T1 hp hl T.sz rfl ev_int fun tk' s2 t2 I2 T2 => ?_) (by rfl))
  refine I2.bind (d := .bytes ((l.drop p).take 1)) rfl (is_bytes.mpr ⟨tk', rfl⟩) fun s3 t3 I3 => ?_
  have nW : ∀ b o, b < B → s2.heap.get? b = some o → ¬ Wr (fenv (scopeAt nUint1) s.heap.objs.size (fd.qualname ++ ".<locals>.") fa fd.code) H s.heap.objs.size b := fun b o hb _ ⟨h, _⟩ => Nat.lt_irrefl _ (Nat.lt_of_lt_of_le (Nat.lt_of_lt_of_le hb T.sz) h)
  have t13 : StepW X (fun b => Wr (fenv (scopeAt nUint1) s.heap.objs.size (fd.qualname ++ ".<locals>.") fa fd.code) H s.heap.objs.size b ∨ b = td) s₁ s3 := (t2.mono fun b => .inr).trans (t3.mono fun b => .inl)
  have T3 := T2.ext I2.good.base t3.ext nW
  have O := I3.fr.eok
  have hz : ((l.drop p).take 1).length ≤ 1099511627776 := by rw [List.length_take]; omega
  by_cases hlt : p < l.length
  · have h1 : (l.drop p).take 1 = [l.getD p 0] := by
      have hg : l.getD p 0 = l[p] := by rw [List.getD, List.getElem?_eq_getElem hlt]; rfl
      rw [hg, List.drop_eq_getElem_cons hlt]; rfl
    rw [h1] at I3 hz
    have run : Runs X (k + 2) H (fenv (scopeAt nUint1) s.heap.objs.size (fd.qualname ++ ".<locals>.") fa fd.code) s.heap.objs.size [("data", .bytes [l.getD p 0]), ("f", .addr t)] [] ((bodyAt nUint1).drop 1) (Ret H (.int (l.getD p 0).toNat)) :=
      r_if (Tst.i (ts_val (ev_name O rfl) (tru_bytes hz))) (fun _ => r_retV (Evs.i (ev_byte (i := 0) (ev_name O rfl) ev_int rfl (by simp)))) (fun h => by simp at h)
    refine run _ s3 _ _ I3 fun f s4 t4 hr => ?_
    obtain ⟨v, rfl, iv⟩ := hr
    obtain ⟨tk4, rfl⟩ := is_int.mp iv
    have T4 := T3.ext I3.good.base t4.ext fun b o hb _ ⟨h, _⟩ => Nat.lt_irrefl _ (Nat.lt_of_lt_of_le (Nat.lt_of_lt_of_le hb T.sz) h)
    rw [Nat.min_eq_left (by omega)] at T4
    exact hQ hlt tk4 s4 (back_tape rfl t1 (t13.trans (t4.mono fun b => .inl))) T4
  · have he : p = l.length := by omega
    have h1 : (l.drop p).take 1 = [] := by rw [List.drop_eq_nil_of_le (by omega)]; rfl
    rw [h1] at I3 hz
    have run : RunsT X (k + 2) H (fenv (scopeAt nUint1) s.heap.objs.size (fd.qualname ++ ".<locals>.") fa fd.code) s.heap.objs.size [("data", .bytes []), ("f", .addr t)] [] ((bodyAt nUint1).drop 1) (fun _ _ _ => False) "ValueError" (strArg notEnough) (fun _ _ => True) :=
      rt_if (Tst.i (ts_val (ev_name O rfl) (tru_bytes hz))) (fun h => by simp at h) (fun _ => rt_raise (Evs.i ev_str) fun _ _ _ => trivial)
    refine run _ s3 _ _ I3 (fun f s' t hr => hr.elim) fun a s4 s5 ls' hls t4 _ U => ?_
    rw [hfr] at hls; cases hls
    have T4 := T3.ext I3.good.base t4.ext fun b o hb _ ⟨h, _⟩ => Nat.lt_irrefl _ (Nat.lt_of_lt_of_le (Nat.lt_of_lt_of_le hb T.sz) h)
    rw [Nat.min_eq_right (by omega), ← he] at T4
    exact U.leaves hfr rfl fun s6 U' => hE he a s4 s6 ls hA (back_tape rfl t1 (t13.trans (t4.mono fun b => .inl))) T4 U'
end
end Mine
end

section
open PySem PySem.W PyProof.Rows PySem.Calls
set_option Elab.async false
set_option linter.unusedVariables false
namespace Mine
set_option maxRecDepth 100000
set_option maxHeartbeats 4000000
open Builtin
noncomputable abbrev lat1 : Str := Str.ofString "latin-1"
theorem lat_run (id : String) : ∀ b : List UInt8, b.length ≤ 6 → _codecs.runDecoder id _codecs.latin1Decoder none true b.toArray 0 [] = pure ((b.map (·.toNat)).toArray, b.length)
  | [], _ => by kernel_rfl
  | [a], _ => by kernel_rfl
  | [a, b], _ => by kernel_rfl
  | [a, b, c], _ => by kernel_rfl
  | [a, b, c, d], _ => by kernel_rfl
  | [a, b, c, d, e], _ => by kernel_rfl
  | [a, b, c, d, e, f], _ => by kernel_rfl
  | _ :: _ :: _ :: _ :: _ :: _ :: _ :: _, h => absurd h (by simp)
theorem lat_road {id : String} {b : Array UInt8} : _codecs.decodeRoad id b lat1 none [] = (_codecs.runDecoder id _codecs.latin1Decoder none true b 0 [] >>= fun r => mkStr ⟨r.1⟩) := by kernel_rfl
theorem lat_entry {c : UInt8} {cs : List UInt8} {t u : Tok} : «bytes.decode» ⟨[.bytes (c :: cs).toArray t, .str lat1 u], []⟩ = (mkStr (PySem.Str.ofString "utf-8") >>= fun _ => mkStr lat1 >>= fun e => mkStr (PySem.Str.ofString "bytes.decode") >>= fun d =>
    call (.builtin "_codecs.decode.text") [.bytes (c :: cs).toArray t, e, .none, d] >>= fun v => ret v) := by kernel_rfl

theorem lat_text {b : Array UInt8} {l : List UInt8} {t t1 t2 : Tok} {d : PySem.Str} (hb : b = l.toArray) (hl : l.length ≤ 6) :
    Meets («_codecs.decode.text» ⟨[.bytes b t, .str lat1 t1, .none, .str d t2], []⟩) (fun _ R s => R (.ok (.ret (.str ⟨(l.map (·.toNat)).toArray⟩ s.toks))) { s with toks := s.toks + 1 }) := by
  refine .of_wp fun prog w A R s h => ?_
  show wpAny _ _ (Bytes.bytesLike _ (.bytes b t) >>= fun r => _) _ _ s
  refine wpAny_bind (wpAny_of_eq KBd.like_eq ?_)
  refine wpAny_bind (wpAny_of_eq KBd.held_eq ?_)
  show wpAny _ _ (_codecs.decodeRoad _ b lat1 none [] >>= fun v => _) _ _ s
  rw [lat_road, hb, lat_run _ _ hl]
  refine wpAny_bind (wpAny_bind (wpAny_pure ?_))
  exact wpAny_mkStr (wpAny_pure ⟨_, rfl, h⟩) (by show (l.map (·.toNat)).toArray.size ≤ _; rw [List.size_toArray, List.length_map, sizeLine_eq]; omega)
theorem lat_meets {c : UInt8} {cs : List UInt8} {t u : Tok} (hl : (c :: cs).length ≤ 6) :
    Meets («bytes.decode» ⟨[.bytes (c :: cs).toArray t, .str lat1 u], []⟩) (fun _ R s => ∀ t' k, R (.ok (.ret (.str ⟨((c :: cs).map (·.toNat)).toArray⟩ t'))) { s with toks := k }) := by
  refine .of_wp fun prog w A R s h => ?_
  rw [lat_entry]
  refine wpAny_bind (wpAny_mkStr ?_ (by decide))
  refine wpAny_bind (wpAny_mkStr ?_ (by decide))
  refine wpAny_bind (wpAny_mkStr ?_ (by decide))
  exact wpAny_bind (call_function_meets KBd.kind_text KBd.plain_text KBd.entry_text (KBd.args_text _ _ _ _) (lat_text rfl hl) (wpAny_pure ⟨_, rfl, h _ _⟩))
section
variable {X : Cx} {k : Nat} {H : List Addr}
theorem m_decode : MethOk "bytes" "decode" "bytes.decode" := ⟨FB.plainAttrs_bytes, FB.slot_bytes_decode, FB.type_bytes_decode⟩
theorem lat_args (a b : Value) : argsOk "bytes.decode" ⟨[a, b], []⟩ := by unfold argsOk; kernel_rfl
theorem c_decode {b : List UInt8} (h0 : b ≠ []) (hl : b.length ≤ 6) : CallOk X k H (.builtin "bytes.decode") [.bytes b, .str (T "latin-1")] (.str (b.map (·.toNat))) := by
  intro A s Q E vs G i hQ
  obtain ⟨v, u, rfl, i1, i2⟩ := isAll_two.mp i
  obtain ⟨t, rfl⟩ := is_bytes.mp i1
  obtain ⟨u, rfl⟩ := is_str.mp i2
  obtain ⟨c, cs, rfl⟩ := List.exists_cons_of_ne_nil h0
  exact call_meets FB.slot_bytes_decode (typeIs_bytes _ _ _) FB.entry_bytes_decode (lat_args _ _) (lat_meets hl) fun t' k' => hQ _ _ (is_str.mpr ⟨t', rfl⟩) (StepW.toks ..)
end
end Mine
end

section
open PySem PySem.W PyProof.Rows PySem.Calls
set_option Elab.async false
set_option linter.unusedVariables false
namespace Mine
set_option maxRecDepth 100000
set_option maxHeartbeats 4000000
open Builtin Builtin.Str
noncomputable def refuseS (n m : Int) : PySem.Str := PySem.Str.ofString "expected " ++ PySem.Str.ofString (toString n) ++ PySem.Str.ofString " bytes in a string1, but only " ++ PySem.Str.ofString (toString m) ++ PySem.Str.ofString " remain"
noncomputable def fmtS : PySem.Str := PySem.Str.ofString "expected %d bytes in a string1, but only %d remain"
theorem fmtS_eq : fmtS = ⟨#[101, 120, 112, 101, 99, 116, 101, 100, 32, 37, 100, 32, 98, 121, 116, 101, 115, 32, 105, 110, 32, 97, 32, 115, 116, 114, 105, 110, 103, 49, 44, 32, 98, 117, 116, 32, 111, 110, 108, 121, 32, 37, 100, 32, 114, 101, 109, 97, 105, 110]⟩ := by decide +kernel
theorem refuse_meets {n m : Int} (n0 : 0 ≤ n) (n1 : n < 1000) (m0 : 0 ≤ m) (m1 : m < 1000) {t tn tm : Tok} {p : Addr} :
    Meets («str.__mod__» ⟨[.str ⟨#[101, 120, 112, 101, 99, 116, 101, 100, 32, 37, 100, 32, 98, 121, 116, 101, 115, 32, 105, 110, 32, 97, 32, 115, 116, 114, 105, 110, 103, 49, 44, 32, 98, 117, 116, 32, 111, 110, 108, 121, 32, 37, 100, 32, 114, 101, 109, 97, 105, 110]⟩ t, .ref p], []⟩)
      (fun _ R s => IsTup s.heap p #[.int n tn, .int m tm] ∧ ∀ t' k, R (.ok (.ret (.str (refuseS n m) t'))) { s with toks := k }) := by
  unfold refuseS
  kpt_run
section
variable {X : Cx} {k : Nat} {H : List Addr}
noncomputable def refuseF (n m : Int) : List Nat := T (refuseS n m)
theorem bin_refuse {n m : Int} (n0 : 0 ≤ n) (n1 : n < 1000) (m0 : 0 ≤ m) (m1 : m < 1000) : Bin X k H .Mod (.str (T fmtS)) (.tuple [.int n, .int m]) (.str (refuseF n m)) := by
  intro A s Q E va vb G ia ib hQ
  obtain ⟨t, rfl⟩ := is_str.mp ia
  obtain ⟨p, vs, rfl, la, iv⟩ := is_tuple.mp ib
  obtain ⟨v1, v2, rfl, i1, i2⟩ := isAll_two.mp iv
  obtain ⟨tn, rfl⟩ := is_int.mp i1
  obtain ⟨tm, rfl⟩ := is_int.mp i2
  obtain ⟨o, ho, hc, j, hd⟩ := la.heap
  have ht : IsTup s.heap p #[.int n tn, .int m tm] := ⟨o, ho, hc, j, hd⟩
  show wpAny X.M A (binaryOp .Mod (.str fmtS t) (.ref p)) Q E s
  rw [fmtS_eq]
  exact KPt.bin_left (T := "str") (U := "tuple") (op := .Mod) (by decide) (typeIs_str s _ t) ⟨o, ho, hc⟩ F.fills_str_mod KPt.fills_tuple F.slot_str_mod
    (call_meets F.slot_str_mod (typeIs_str s _ t) F.entry_str_mod (F.args_str_mod_2 _ _) (refuse_meets n0 n1 m0 m1) ⟨ht, fun t' k => ⟨(fun e => nomatch e), hQ _ _ (is_str.mpr ⟨t', rfl⟩) (StepW.toks ..)⟩⟩)
end
end Mine
end

section
open PySem PySem.W PyProof.Rows PySem.Calls
set_option Elab.async false
set_option linter.unusedVariables false
namespace Mine
set_option maxRecDepth 10000
set_option maxHeartbeats 4000000
section
variable {X : Cx} {k : Nat} {H : List Addr} {A : Around} {s : Shared} {C fI t td fr : Addr} {l : List UInt8} {p B : Nat} {m : Str → Option Value} {Q : Value → Shared → Prop} {E : Value → Shared → Prop}

theorem call_at {env : Env} {ρ : Ro} {f : Str} {pp pos : Pos} {fa : Addr} {fd : FuncData} {ps : List Str} {sc : Scope} {body : List Stmt} {e : PySem.Expr} {es : List PySem.Expr} {ds : List D} (DA : DefAt X f fa fd ps sc body) (O : EnvOk env)
    (G : Good X k H A s) (S : Sees H env s.heap ρ) (ha : EvsAll X k H env ρ (e :: es) ds) (hc : ∀ vs s1, IsAll (vis H s1.heap) ds vs → Step X s s1 → wpAny X.M A (call (.ref fa) vs) Q E s1) (hk : env.kindOf f = some .globalImplicit := by rfl) (hd : (f == ("__debug__" : Str)) = false := by decide)
    (hse : backTo pos (starEach (e :: es) env) = (false, eval e env) :: backTo pos (starEach es env) := by rfl) : wpAny X.M A (eval (.Call (.Name f pp) (e :: es) [] pos) env) Q E s := by
  refine wpAny_Call_NameR (Calls.Name_function_global O.kind hk (Calls.loadGlobal_global (by rw [O.globals]; exact G.base.g) DA.glob ?_) hd)
  obtain ⟨o, ho, hdd⟩ := DA.obj
  refine Calls.callWith_function (o := o) (fd := fd) ?_
  rw [hse]
  refine Calls.evalArgs_plain ?_
  rw [← hse]
  refine ha A s pos _ E G S fun vs s1 i t => ?_
  exact ⟨⟨(G.step t).base.K fa o ho, hdd⟩, hc vs s1 i t⟩

theorem string1_call {fa fu : Addr} {fd fdu : FuncData} (DA : DefAt X "read_string1" fa fd ["f"] (scopeAt nString1) (bodyAt nString1)) (DU : DefAt X "read_uint1" fu fdu ["f"] (scopeAt nUint1) (bodyAt nUint1)) (TC : ClsAt X C fI)
    (G : Good X (k + 4) H A s) (T0 : TapeAt X s.heap B C t td fr l p) (hp : p < l.length) (hl : l.length ≤ 7) (hn1 : 1 ≤ (l.getD p 0).toNat)
    (hQ : p + 1 + (l.getD p 0).toNat ≤ l.length → ∀ tk' s', StepW X (fun b => b = td) s s' → Q (.str ⟨(((l.drop (p + 1)).take (l.getD p 0).toNat).map (·.toNat)).toArray⟩ tk') s')
    (hE : l.length < p + 1 + (l.getD p 0).toNat → ∀ a s1 s' ls, A.frames = some ls → StepW X (fun b => b = td) s s1 → Up X ls a "ValueError" (strArg (refuseF (l.getD p 0).toNat (l.length - (p + 1) : Nat))) s1 s' → E (.ref a) s') :
    wpAny X.M A (call (.ref fa) [.ref t]) Q E s := by
  refine wpAny_call (call_def DA.toFnK G (ds := [.addr t]) (isAll_cons.mpr ⟨_, _, rfl, is_addr.mpr rfl, isAll_nil.mpr rfl⟩) rfl (fun s₁ t1 I => ?_) (by decide) (by rfl) (by rfl) (by rfl) (by rfl))
  obtain ⟨ls, hA, _⟩ := G.fr
  generalize hn : (l.getD p 0).toNat = n at *
  have hn2 : n < 256 := hn ▸ UInt8.toNat_lt _
  have hfr := Around.frames_deeper (env := fenv (scopeAt nString1) s.heap.objs.size (fd.qualname ++ ".<locals>.") fa fd.code) hA
  have O := I.fr.eok
  have out : ∀ {b}, b < B → ¬ Wr (fenv (scopeAt nString1) s.heap.objs.size (fd.qualname ++ ".<locals>.") fa fd.code) H s.heap.objs.size b := fun {b} hb ⟨h, _⟩ => Nat.lt_irrefl _ (Nat.lt_of_lt_of_le (Nat.lt_of_lt_of_le hb T0.sz) h)
  have T1 := T0.ext G.base t1.ext fun _ _ _ _ f => f
  -- n = read_uint1(f)
  refine wpAny_execs_cons (wpAny_Assign_Name (call_at DU O I.good I.sees (evs_cons (ev_name (d := .addr t) O rfl) evs_nil) fun vs s2 i2 t2 => ?_) (by rfl))
  obtain ⟨v2, _, rfl, j2, j3⟩ := isAll_cons.mp i2
  rw [isAll_nil.mp j3, is_addr.mp j2]
  have I2 := I.step t2
  have T2 := T1.ext I.good.base t2.ext fun _ _ _ _ f => f
  have dictAt : ∀ {h : Heap} {q : Nat}, TapeAt X h B C t td fr l q → ∃ o es ep, h.get? td = some o ∧ o.data = .dict es ep := fun T => by
    obtain ⟨m, tv, J, _, _⟩ := T.inst
    obtain ⟨od, des, dep, hod, hdd, _⟩ := J.ns
    exact ⟨od, des, dep, hod, hdd⟩
  have tdN : td < s.heap.objs.size := Nat.lt_of_lt_of_le T0.low.2.2.1 T0.sz
  refine uint1_call (k := k) DU TC I2.good T2 (Nat.le_of_lt hp) (by omega) (fun _ tk3 s3 t3 T3 => ?_) (fun he => absurd he (Nat.ne_of_lt hp))
  rw [hn]
  have I3 := I2.stepV t3 tdN (dictAt T2)
  refine I3.bind (d := .int n) rfl (is_int.mpr ⟨tk3, rfl⟩) fun s4 t4 I4 => ?_
  have T4 := T3.ext I3.good.base t4.ext fun b o hb _ => out hb
  -- assert n >= 0
  refine wpAny_execs_cons (wpAny_Assert_holds ((Tst.i (N := s.heap.objs.size) (μ := []) (ts_cmp (c := true) (ev_name (d := .int n) O rfl) ev_int (by have := cmp_ge_int (X := X) (k := k + 3) (H := H) (a := (n : Int)) (b := 0); rwa [show decide ((n : Int) ≥ 0) = true by simp] at this))) _ s4 _ _ I4 fun s5 t5 => ⟨rfl, ?_⟩))
  have I5 := I4.step t5
  have T5 := T4.ext I4.good.base t5.ext fun _ _ _ _ f => f
  -- data = f.read(n)
  refine wpAny_execs_cons (wpAny_Assign_Name (call_f_read (k := k + 1) (n := n) TC I5 T5 (by omega) (by omega) T0.sz rfl (ev_name O rfl) fun tk6 s6 t6 I6 T6 => ?_) (by rfl))
  refine I6.bind (d := .bytes ((l.drop (p + 1)).take n)) rfl (is_bytes.mpr ⟨tk6, rfl⟩) fun s7 t7 I7 => ?_
  have t17 : StepW X (fun b => Wr (fenv (scopeAt nString1) s.heap.objs.size (fd.qualname ++ ".<locals>.") fa fd.code) H s.heap.objs.size b ∨ b = td) s₁ s7 :=
    ((((t2.no.trans (t3.mono fun b => .inr)).trans (t4.mono fun b => .inl)).trans t5.no).trans (t6.mono fun b => .inr)).trans (t7.mono fun b => .inl)
  have hD : ((l.drop (p + 1)).take n).length = min n (l.length - (p + 1)) := by rw [List.length_take, List.length_drop]
  by_cases hle : p + 1 + n ≤ l.length
  · have hDn : ((l.drop (p + 1)).take n).length = n := by rw [hD]; omega
    generalize hb : (l.drop (p + 1)).take n = D at *
    have run : Runs X (k + 3) H (fenv (scopeAt nString1) s.heap.objs.size (fd.qualname ++ ".<locals>.") fa fd.code) s.heap.objs.size [("data", .bytes D), ("n", .int n), ("f", .addr t)] [] ((bodyAt nString1).drop 3) (Ret H (.str (D.map (·.toNat)))) :=
      r_if (b := decide ((D.length : Int) = n)) (Tst.i (ts_cmp (ev_bcall O (evs_cons (ev_name O rfl) evs_nil) (c_len_bytes (by omega))) (ev_name O rfl) cmp_eq_int))
        (fun _ => r_retV (Evs.i (ev_meth m_decode (ev_name O rfl) rfl (evs_cons ev_str evs_nil) (c_decode (fun q => by rw [q] at hDn; simp at hDn; omega) (by omega))))) (fun h => absurd (congrArg Int.ofNat hDn) (of_decide_eq_false h))
    refine run _ s7 _ _ I7 fun f s8 t8 hr => ?_
    obtain ⟨v, rfl, iv⟩ := hr
    obtain ⟨tk8, rfl⟩ := is_str.mp iv
    exact hQ hle tk8 s8 (back_tape rfl t1 (t17.trans (t8.mono fun b => .inl)))
  · have hDn : ((l.drop (p + 1)).take n).length = l.length - (p + 1) := by rw [hD]; omega
    generalize hb : (l.drop (p + 1)).take n = D at *
    have run : RunsT X (k + 3) H (fenv (scopeAt nString1) s.heap.objs.size (fd.qualname ++ ".<locals>.") fa fd.code) s.heap.objs.size [("data", .bytes D), ("n", .int n), ("f", .addr t)] [] ((bodyAt nString1).drop 3) (fun _ _ _ => False) "ValueError" (strArg (refuseF n (D.length : Nat))) (fun _ _ => True) :=
      rt_if (b := decide ((D.length : Int) = n)) (Tst.i (ts_cmp (ev_bcall O (evs_cons (ev_name O rfl) evs_nil) (c_len_bytes (by omega))) (ev_name O rfl) cmp_eq_int))
        (fun h => by have := of_decide_eq_true h; omega)
        (fun _ => rt_raise (k := k + 2) (Evs.i (ev_bin (b := .tuple [.int n, .int (D.length : Nat)]) ev_str (ev_tuple (evs_cons (ev_name O rfl) (evs_cons (ev_bcall O (evs_cons (ev_name O rfl) evs_nil) (c_len_bytes (by omega))) evs_nil)) (by show 2 ≤ sizeLine; decide)) (bin_refuse (by omega) (by omega) (by omega) (by omega)))) fun _ _ _ => trivial)
    rw [hDn] at run
    refine run _ s7 _ _ I7 (fun f s' t hr => hr.elim) fun a s8 s9 ls' hls t8 _ U => ?_
    rw [hfr] at hls; cases hls
    exact U.leaves hfr rfl fun s10 U' => hE (by omega) a s8 s10 ls hA (back_tape rfl t1 (t17.trans (t8.mono fun b => .inl))) U'
end
end Mine
end

section
open PySem PySem.W PyProof.Rows PySem.Calls
set_option Elab.async false
set_option linter.unusedVariables false
namespace Mine
set_option maxRecDepth 10000
set_option maxHeartbeats 4000000
theorem under_tc (A : Around) (C : Addr) (vals : List Value) : (A.under (.builtin "type.__call__" ⟨.ref C :: vals, []⟩)).handled = A.handled ∧ (A.under (.builtin "type.__call__" ⟨.ref C :: vals, []⟩)).depth = A.depth + 1 ∧ (A.under (.builtin "type.__call__" ⟨.ref C :: vals, []⟩)).frames = A.frames ∧ (A.under (.builtin "type.__call__" ⟨.ref C :: vals, []⟩)).units ≤ A.units + 4 := by
  refine ⟨rfl, rfl, rfl, ?_⟩
  have h : (A.under (.builtin "type.__call__" ⟨.ref C :: vals, []⟩)).units = A.units + (Code.builtin "type.__call__" ⟨.ref C :: vals, []⟩).cUnits := rfl
  have h3 : (Code.builtin "type.__call__" ⟨.ref C :: vals, []⟩).cUnits = 1 := by first | rfl | kernel_rfl
  rw [h, h3]; omega
theorem Good.under {X : Cx} {k : Nat} {H : List Addr} {A : Around} {s : Shared} (G : Good X (k + 1) H A s) (C : Addr) (vals : List Value) : Good X k H (A.under (.builtin "type.__call__" ⟨.ref C :: vals, []⟩)) s := by
  obtain ⟨h1, h2, h3, h4⟩ := under_tc A C vals
  refine ⟨⟨fun _ => by rw [h1]; exact G.ok.handled (Nat.succ_ne_zero _), ?_, ?_⟩, G.base, G.hid, ?_⟩
  · have := G.ok.depth; rw [h2]; omega
  · have := G.ok.units; omega
  · obtain ⟨ls, e, r⟩ := G.fr
    exact ⟨ls, h3.trans e, r⟩

noncomputable abbrev nExample : Nat := 4
noncomputable def initBody : List Stmt := match pw.main.body.drop nExample with | .ClassDef _ _ _ (.FunctionDef _ _ b .. :: _) .. :: _ => b | _ => []
noncomputable def initScope : Scope := match pw.main.body.drop nExample with | .ClassDef _ _ _ (.FunctionDef _ _ _ _ _ _ sc .. :: _) .. :: _ => sc | _ => default
section
variable {X : Cx} {k : Nat} {H : List Addr} {A : Around} {s : Shared} {C fI t td fr : Addr} {Q : Value → Shared → Prop} {E : Value → Shared → Prop}

/-- a new object -/
theorem make_call {fdI : FuncData} (TC : ClsAt X C fI) (FI : FnK X fI fdI ["self", "value"] initScope initBody) (G : Good X (k + 2) H A s) {n : Nat} {tk : Tok}
    (hQ : ∀ x td tk' s', Step X s s' → s.heap.objs.size ≤ x → s.heap.objs.size ≤ td → InstT s'.heap C x td (fun y => if y = "value" then some (.int n tk') else none) → Q (.ref x) s') :
    wpAny X.M A (call (.ref C) [.int n tk]) Q E s := by
  obtain ⟨hh, g, d, tt, os⟩ := s
  refine wpAny_call (make_core (makes_of G.base.K TC.makes) (looks_findIn G.base.K TC.init) (fun self => bind_fn G.base.K self TC.initFn) (.inl rfl) ?_)
  have t0 : Step X (⟨hh, g, d, tt, os⟩ : Shared) ⟨(hh.push emptyDict).push (instObj C hh.objs.size), g, d, tt, os⟩ := .ofH ((Ext.push _ _).trans (Ext.push _ _))
  have G1 := (G.step t0).under C [.int n tk]
  refine call_def FI G1 (ds := [.addr (hh.objs.size + 1), .int n]) (isAll_cons.mpr ⟨_, _, rfl, is_addr.mpr rfl, isAll_cons.mpr ⟨_, _, rfl, is_int.mpr ⟨tk, rfl⟩, isAll_nil.mpr rfl⟩⟩) rfl (fun s₁ t1 I => ?_) (by decide) (by rfl) (by rfl) (by rfl) (by rfl)
  have O := I.fr.eok
  have hx : ((hh.push emptyDict).push (instObj C hh.objs.size)).get? (hh.objs.size + 1) = some (instObj C hh.objs.size) := by
    have := Heap.get?_push_size (hh.push emptyDict) (o := instObj C hh.objs.size) rfl
    rwa [Heap.size_push] at this
  have hd : ((hh.push emptyDict).push (instObj C hh.objs.size)).get? hh.objs.size = some emptyDict := Heap.get?_push_of_some _ (Heap.get?_push_size hh rfl)
  have J0 : InstT ((hh.push emptyDict).push (instObj C hh.objs.size)) C (hh.objs.size + 1) hh.objs.size (fun _ => none) :=
    ⟨hx, Nat.ne_of_lt (Nat.lt_succ_self _), Heap.Ns1.of_empty ⟨_, #[], _, hd, rfl, fun e he => absurd he (by simp), fun _ => rfl⟩, fun y hy => absurd rfl hy⟩
  have J1 := J0.ext (G.step t0).base t1.ext (fun f => f) fun f => f
  refine wpAny_execs_cons (plainObj_wpAny_Assign_Attribute (Evs.at (d := .int n) I.good I.sees (ev_name O rfl) fun v2 s2 i2 t2 => ?_) rfl)
  have I2 := I.step t2
  refine Evs.at (d := .addr (hh.objs.size + 1)) I2.good I2.sees (ev_name O rfl) fun v3 s3 i3 t3 => ?_
  rw [is_addr.mp i3]
  obtain ⟨tk2, rfl⟩ := is_int.mp i2
  have I3 := I2.step t3
  have J3 := (J1.ext I.good.base t2.ext (fun f => f) fun f => f).ext I2.good.base t3.ext (fun f => f) fun f => f
  refine inst_set TC I3.good.base.K J3 (by decide) TC.takeV fun h4 tk4 J4 hs4 => wpAny_execs_nil ?_
  obtain ⟨od, des, dep, hod, hdd, _⟩ := J3.ns
  obtain ⟨od', des', dep', hod', hdd', _⟩ := J4.ns
  have t4 : StepW X (fun b => b = hh.objs.size) s3 { s3 with heap := h4, toks := tk4 } := .of (Ext.at hod hod' (fun vs q => by rw [hdd] at q; cases q) (fun vs q => by rw [hdd'] at q; cases q) (fun _ _ _ => ⟨_, _, hdd'⟩) G.base.size rfl fun b o hb e => by rw [hs4.2 b hb]; exact e)
  have tt : Step X (⟨hh, g, d, tt, os⟩ : Shared) { s3 with heap := h4, toks := tk4 } := ((((t0.trans t1).trans t2).trans t3).no.trans t4).monoAt fun b o e q => by
    have : b < hh.objs.size := Heap.lt_size e
    exact Nat.lt_irrefl _ (q ▸ this)
  exact ⟨rfl, hQ _ _ tk2 _ tt (Nat.le_succ _) (Nat.le_refl _) J4⟩
end
end Mine
end

section
open PySem PySem.W PyProof.Rows PySem.Calls
set_option Elab.async false
set_option linter.unusedVariables false
namespace Mine
set_option maxRecDepth 10000
set_option maxHeartbeats 4000000
/-- the module of the built-ins, as the text's top names it -/
noncomputable def BuiltK (X : Cx) : Prop := ∃ bm o, X.mg "__builtins__" = some (.ref bm) ∧ bm ≠ builtinsNs ∧ bm ≠ mainGlobals ∧ X.K.lookup bm = some o ∧ o.cls = .type "module" ∧ o.dict = some builtinsNs ∧ o.data = .plain
noncomputable def TabsApart (X : Cx) : Prop := ∀ T ∈ X.tabs, ∀ T' ∈ X.tabs, T'.t = T.t → T' = T
section
variable {X : Cx} {k : Nat} {H : List Addr} {A : Around} {s : Shared} {Q : Value → Shared → Prop} {E : Value → Shared → Prop}

theorem base_tab {h h' : Heap} {Tb : Tab} {c' : Addr} (hT : Tb ∈ X.tabs) (hap : TabsApart X) (B : Base X h) (hx : Heap.ExtBut Tb.t h h') (ht : h'.get? Tb.t = some (tabObj #[rawInt Tb.line, rawInt Tb.col, .ref c'])) (hr : h'.CodeRec (.ref c') Tb.qual) : Base X h' := by
  have nt : ∀ b o, b ∉ X.TB → h.get? b = some o → h'.get? b = some o := fun b o hb e => hx b o (fun q => hb (List.mem_map.mpr ⟨Tb, hT, q.symm⟩)) e
  refine ⟨B.free, fun b o e => nt _ _ (B.low b o e).2 (B.K b o e), ns_at B.g fun o e => nt _ _ B.low3.2.2.2.1 e, ns_at B.b fun o e => nt _ _ B.low3.2.2.2.2.1 e, B.bb, ?_, ?_, ?_, B.low, B.low3, B.lowT, ?_⟩
  · obtain ⟨mc, x, y⟩ := B.lim
    exact ⟨mc, ns_at x fun o e => nt _ _ B.low3.2.2.2.2.2 e, y⟩
  · obtain ⟨mc, x, y⟩ := B.dig
    exact ⟨mc, ns_at x fun o e => nt _ _ B.low3.2.2.2.2.2 e, y⟩
  · intro T' hT'
    obtain ⟨h1, h2⟩ := B.tabs T' hT'
    refine ⟨codeHd_at h1 fun o e => nt _ _ (B.lowT T' hT').2.2 e, ?_⟩
    by_cases q : T'.t = Tb.t
    · rw [hap Tb hT T' hT' q]; exact .inr ⟨c', ht, hr⟩
    · rcases h2 with h2 | ⟨c2, h2, c, o, vs, t, e1, e2, e3, e4⟩
      · exact .inl (hx _ _ q h2)
      · refine .inr ⟨c2, hx _ _ q h2, c, o, vs, t, e1, hx _ _ (fun q2 => ?_) e2, e3, e4⟩
        rcases (B.tabs Tb hT).2 with h3 | ⟨c3, h3, _⟩
        · rw [← q2, e2] at h3; cases h3; cases e3; simp at e4
        · rw [← q2, e2] at h3; cases h3; cases e3; simp [rawInt] at e4
  · obtain ⟨o, e⟩ := B.big
    by_cases q : X.n - 1 = Tb.t
    · exact ⟨_, q ▸ ht⟩
    · exact ⟨o, hx _ _ q e⟩
theorem ext_tab {h h' : Heap} {Tb : Tab} {c' : Addr} (hT : Tb ∈ X.tabs) (hap : TabsApart X) (hB : Base X h) (hx : Heap.ExtBut Tb.t h h') (ht : h'.get? Tb.t = some (tabObj #[rawInt Tb.line, rawInt Tb.col, .ref c'])) (hr : h'.CodeRec (.ref c') Tb.qual) : Ext X No h h' := by
  refine ⟨fun b o _ hb e => ?_, fun b o e hd => ?_, fun B => base_tab hT hap B hx ht hr⟩
  · have e' := hx b o (fun q => hb (List.mem_map.mpr ⟨Tb, hT, q.symm⟩)) e
    exact ⟨⟨o.slots, e'⟩, fun _ => e'⟩
  · have e' := hx b o (fun q => by
      obtain ⟨vs, e2⟩ := hB.tabFields (List.mem_map.mpr ⟨Tb, hT, rfl⟩)
      rw [← q, e] at e2; cases e2; exact hd _ rfl) e
    exact ⟨o, e', hd, fun es ep q => ⟨es, ep, q⟩⟩

/-- a def made inside a def -/
theorem make_fn {Tb : Tab} {env : Env} {name qual : Str} {params : Arguments} {body : List Stmt} {scope : Scope} {clos : List (Str × Addr)} {pos : Pos} {firstLine : Nat} (hT : Tb ∈ X.tabs) (hap : TabsApart X) (BK : BuiltK X) (G : Good X k H A s)
    (hcode : env.code = .ref Tb.c) (hg : env.globals = mainGlobals) (h1 : pos.line = Tb.line) (h2 : pos.col = Tb.col) (hq : qual = Tb.qual) (hcl : closureFor scope env = pure clos)
    (hQ : ∀ f cv ctv doc s', Step X s s' → s.heap.objs.size ≤ f → s'.heap.get? f = some { cls := .type "function", data := .func (fnX name qual params body scope clos .none .none doc ((X.mg "__name__").getD .none) none (.ref cv) ctv) } → s'.heap.CodeRec (.ref cv) qual → cv < f → Q (.ref f) s') :
    wpAny X.M A (makeFunction name qual params (.stmts body) scope env [] [] [] pos firstLine) Q E s := by
  have B := G.base
  obtain ⟨bm, ob, b1, b2, b3, b4, b5, b6, b7⟩ := BK
  have hP : mainGlobals ≠ Tb.t := fun q => B.low3.2.2.2.1 (q ▸ List.mem_map.mpr ⟨Tb, hT, rfl⟩)
  have hb : s.heap.BuiltinsAt X.mg Tb.t := ⟨bm, ob, b1, b2, b3, fun q => (B.low _ _ b4).2 (q ▸ List.mem_map.mpr ⟨Tb, hT, rfl⟩), B.K _ _ b4, b5, b6, b7⟩
  obtain ⟨C, hh⟩ := B.tabs Tb hT
  rcases hh with h0 | ⟨c', h0, hr⟩
  · refine makeFunction_K hcl hg B.g hcode C h0 trivial (by rfl) hP hb fun c' ctv doc h' tk hx hge hlt hrec htb => ?_
    rw [Array.empty_append, h1, h2] at htb
    have hrec' : h'.CodeRec (.ref c') Tb.qual := hq ▸ hrec
    have t : Step X s { s with heap := h'.push (fnMade name qual params body scope clos doc ((X.mg "__name__").getD .none) c' ctv), toks := tk } := .of ((ext_tab hT hap B hx htb hrec').trans (Ext.push _ _))
    exact hQ _ c' ctv doc _ t (Nat.le_of_lt (Nat.lt_of_le_of_lt hge hlt)) (Heap.get?_push_size _ rfl) (hrec.keeps fun b o e => Heap.get?_push_of_some _ e) hlt
  · refine makeFunction_hit (cv := .ref c') hcl hg B.g hcode C h0 trivial (by
      show codeAmong pos [rawInt Tb.line, rawInt Tb.col, .ref c'] = _
      rw [← h1, ← h2]
      simp [codeAmong, rawInt]) hb fun ctv doc h' tk hk hle => ?_
    have t : Step X s { s with heap := h'.push { cls := .type "function", data := .func (fnX name qual params body scope clos .none .none doc ((X.mg "__name__").getD .none) none (.ref c') ctv) }, toks := tk } := .of ((Ext.of hk).trans (Ext.push _ _))
    have hr' : h'.CodeRec (.ref c') Tb.qual := hr.keeps hk
    exact hQ _ c' ctv doc _ t hle (Heap.get?_push_size _ rfl) (hq ▸ hr'.keeps fun b o e => Heap.get?_push_of_some _ e) (by
      obtain ⟨c, o, vs, t, e1, e2, _⟩ := hr'
      cases e1
      exact Heap.lt_size e2)
end
end Mine
end

section
open PySem PySem.W PyProof.Rows PySem.Calls
set_option Elab.async false
set_option linter.unusedVariables false
namespace Mine
set_option maxRecDepth 10000
set_option maxHeartbeats 4000000
noncomputable def readPos : Pos := match (bodyAt nTape).drop 1 with | .FunctionDef _ _ _ _ _ _ _ _ _ pos :: _ => pos | _ => default
section
variable {X : Cx} {k : Nat} {H : List Addr} {A : Around} {s : Shared} {C fI : Addr} {l : List UInt8} {Q : Value → Shared → Prop} {E : Value → Shared → Prop}
theorem Inv.wr_lt {env : Env} {N : Nat} {ρ : Ro} {μ : Mu} (I : Inv X k H A env N ρ μ s) {b : Addr} (h : Wr env H N b) : b < s.heap.objs.size := by
  obtain ⟨_, q⟩ := h
  rcases q with rfl | ⟨x, q⟩ | q
  · obtain ⟨m, o, _, _, e, _⟩ := I.loc
    exact Heap.lt_size e
  · obtain ⟨v, o, e, _⟩ := I.cell x b q
    exact Heap.lt_size e
  · obtain ⟨o, e, _⟩ := I.good.hid b q
    exact Heap.lt_size e

theorem Inv.wr_nf {env : Env} {N : Nat} {ρ : Ro} {μ : Mu} (I : Inv X k H A env N ρ μ s) {b : Addr} {o : Obj} (h : Wr env H N b) (e : s.heap.get? b = some o) (vs : Array Value) : o.data ≠ .fields vs := by
  intro q2
  obtain ⟨_, q⟩ := h
  rcases q with rfl | ⟨x, q⟩ | q
  · obtain ⟨m, o', _, _, e', hd, _⟩ := I.loc
    rw [e] at e'; cases e'; rw [q2] at hd; cases hd
  · obtain ⟨v, o', e', hd⟩ := I.cell x b q
    rw [e] at e'; cases e'; rw [q2] at hd; cases hd
  · obtain ⟨o', e', hd⟩ := I.good.hid b q
    rw [e] at e'; cases e'; exact hd _ q2
/-- a cell's name -/
theorem sees_cell {env : Env} {ρ : Ro} {h : Heap} {x : Str} {d : D} {c : Addr} (S : Sees H env h ρ) (hx : ρ.lookup x = some d) (hk : env.kindOf x = some .cell) (hc : env.cells.lookup x = some c) : ∃ v, h.IsCell c (some v) ∧ Is (vis H h) d v := by
  obtain ⟨v, l, i⟩ := S x d hx
  rcases l with ⟨h1, _⟩ | ⟨_, c', h2, h3⟩ | ⟨h1, _⟩
  · rw [hk] at h1; cases h1
  · rw [hc] at h2; cases h2; exact ⟨v, h3, i⟩
  · rw [hk] at h1; cases h1
/-- a tape is made -/
theorem tape_call {Tb : Tab} {fa : Addr} {fd fdI : FuncData} (hT : Tb ∈ X.tabs) (hap : TabsApart X) (BK : BuiltK X) (DA : DefAt X "_law_tape" fa fd ["octets"] (scopeAt nTape) (bodyAt nTape)) (hcd : fd.code = .ref Tb.c)
    (h1 : readPos.line = Tb.line) (h2 : readPos.col = Tb.col) (h3 : fd.qualname ++ ".<locals>." ++ "read" = Tb.qual)
    (TC : ClsAt X C fI) (FI : FnK X fI fdI ["self", "value"] initScope initBody) (G : Good X (k + 3) H A s) {tk : Tok}
    (hQ : ∀ t td fr B s', Step X s s' → TapeAt X s'.heap B C t td fr l 0 → s.heap.get? td = none → Q (.ref t) s') : wpAny X.M A (call (.ref fa) [.bytes l.toArray tk]) Q E s := by
  refine wpAny_call (call_def DA.toFnK G (ds := [.bytes l]) (isAll_cons.mpr ⟨_, _, rfl, is_bytes.mpr ⟨tk, rfl⟩, isAll_nil.mpr rfl⟩) rfl (fun s₁ t1 I => ?_) (by decide) (by rfl) (by rfl) (by rfl) (by rfl))
  have O := I.fr.eok
  -- tape = _Example(0)
  refine wpAny_execs_cons (wpAny_Assign_Name ?_ (by rfl))
  · refine wpAny_Call_NameR (Calls.Name_function_global O.kind (by rfl) (Calls.loadGlobal_global (by rw [O.globals]; exact I.good.base.g) TC.glob ?_) (by decide))
    refine callWith_K I.good.base.K TC.keep ?_ rfl rfl
    refine (evs_cons (ev_int (i := 0)) evs_nil) _ _ _ _ _ I.good I.sees fun vs s2 i2 t2 => ⟨(I.step t2).good.base.K, ?_⟩
    obtain ⟨v2, _, rfl, j1, j2⟩ := isAll_cons.mp i2
    obtain ⟨tk2, rfl⟩ := is_int.mp j1
    rw [isAll_nil.mp j2]
    have I2 := I.step t2
    refine make_call (k := k) (n := 0) TC FI I2.good fun x td tk3 s3 t3 hxx htd J3 => ?_
    have I3 := I2.step t3
    refine I3.bind (d := .addr x) (by rfl) (is_addr.mpr rfl) fun s4 t4 I4 => ?_
    have fr2 : ∀ {b : Addr}, s2.heap.objs.size ≤ b → ¬ Wr (fenv (scopeAt nTape) s.heap.objs.size (fd.qualname ++ ".<locals>.") fa fd.code) H s.heap.objs.size b := fun {b} hb hw => Nat.lt_irrefl _ (Nat.lt_of_lt_of_le (I2.wr_lt hw) hb)
    have J4 := J3.ext I3.good.base t4.ext (fr2 hxx) (fr2 htd)
    -- def read
    refine wpAny_execs_cons (nestDef_K (by rfl) (by rfl) (by rfl) ?_)
    refine make_fn hT hap BK I4.good hcd O.globals h1 h2 h3 (clos := [("tape", s.heap.objs.size + 2), ("octets", s.heap.objs.size + 1)]) (by rfl) fun f cv ctv doc s5 t5 hf hfo hrec hcv => ?_
    have J5 := J4.ext I4.good.base t5.ext (fun f => f) fun f => f
    have I5 := I4.step t5
    refine I5.bind (d := .addr f) (by rfl) (is_addr.mpr rfl) fun s6 t6 I6 => ?_
    have J6 := J5.ext I5.good.base t6.ext (fr2 hxx) (fr2 htd)
    have fr0 : ∀ {b : Addr}, s.heap.objs.size ≤ b → ∀ o, s.heap.get? b = some o → False := fun {b} hb o e => Nat.lt_irrefl _ (Nat.lt_of_lt_of_le (Heap.lt_size e) hb)
    -- tape.read = read
    refine wpAny_execs_cons (plainObj_wpAny_Assign_Attribute (Evs.at (d := .addr f) I6.good I6.sees (ev_name O rfl) fun v7 s7 i7 t7 => ?_) rfl)
    have I7 := I6.step t7
    refine Evs.at (d := .addr x) I7.good I7.sees (ev_name O rfl) fun v8 s8 i8 t8 => ?_
    rw [is_addr.mp i7, is_addr.mp i8]
    have I8 := I7.step t8
    have J8 := (J6.ext I6.good.base t7.ext (fun f => f) fun f => f).ext I7.good.base t8.ext (fun f => f) fun f => f
    refine inst_set TC I8.good.base.K J8 (by decide) TC.takeR fun h9 tk9 J9 hs9 => ?_
    obtain ⟨od, des, dep, hod, hdd, _⟩ := J8.ns
    obtain ⟨od', des', dep', hod', hdd', _⟩ := J9.ns
    have t02 : Step X s s2 := t1.trans t2
    have hnt : X.n ≤ td := Nat.le_trans I2.good.base.size htd
    have t9 : StepW X (fun b => b = td) s8 { s8 with heap := h9, toks := tk9 } := .of (Ext.at hod hod' (fun vs q => by rw [hdd] at q; cases q) (fun vs q => by rw [hdd'] at q; cases q) (fun _ _ _ => ⟨_, _, hdd'⟩) hnt rfl fun b o hb e => by rw [hs9.2 b hb]; exact e)
    have I9 := I8.stepV2 t9 (fun q => fr2 htd ⟨q ▸ I2.fr.loc, .inl q.symm⟩) ⟨od, des, dep, hod, hdd⟩
    -- return tape
    refine wpAny_execs_cons (wpAny_Return_some (Evs.at (d := .addr x) I9.good I9.sees (ev_name O rfl) fun v10 s10 i10 t10 => ?_))
    rw [is_addr.mp i10]
    have J10 := J9.ext I9.good.base t10.ext (fun f => f) fun f => f
    have I10 := I9.step t10
    have tt : StepW X (fun b => Wr (fenv (scopeAt nTape) s.heap.objs.size (fd.qualname ++ ".<locals>.") fa fd.code) H s.heap.objs.size b ∨ b = td) s s10 :=
      (((((((((t02.trans t3).no.trans (t4.mono fun b => .inl)).trans t5.no).trans (t6.mono fun b => .inl)).trans t7.no).trans t8.no).trans (t9.mono fun b => .inr)).trans t10.no))
    have t5t : StepW X (fun b => Wr (fenv (scopeAt nTape) s.heap.objs.size (fd.qualname ++ ".<locals>.") fa fd.code) H s.heap.objs.size b ∨ b = td) s5 s10 :=
      (((((t6.mono fun b => .inl).trans t7.no).trans t8.no).trans (t9.mono fun b => .inr)).trans t10.no)
    have td4 : td < s4.heap.objs.size := by
      obtain ⟨o, _, _, e, _⟩ := J4.ns
      exact Heap.lt_size e
    have x4 : x < s4.heap.objs.size := Heap.lt_size J4.obj
    obtain ⟨vt, ct1, ct2⟩ := sees_cell (x := "tape") (d := .addr x) (c := s.heap.objs.size + 2) I10.sees rfl rfl rfl
    rw [is_addr.mp ct2] at ct1
    obtain ⟨vo, co1, co2⟩ := sees_cell (x := "octets") (d := .bytes l) (c := s.heap.objs.size + 1) I10.sees rfl rfl rfl
    obtain ⟨tko, rfl⟩ := is_bytes.mp co2
    have hcl : ∀ (y : Str) (c : Addr), (fenv (scopeAt nTape) s.heap.objs.size (fd.qualname ++ ".<locals>.") fa fd.code).cells.lookup y = some c → c < f + 1 := fun y c hc => by
      obtain ⟨v, o, e, _⟩ := I4.cell y c hc
      exact Nat.lt_succ_of_le (Nat.le_of_lt (Nat.lt_of_lt_of_le (Heap.lt_size e) hf))
    have wf : ¬ (Wr (fenv (scopeAt nTape) s.heap.objs.size (fd.qualname ++ ".<locals>.") fa fd.code) H s.heap.objs.size f ∨ f = td) := by
      rintro (q | q)
      · exact Nat.lt_irrefl _ (Nat.lt_of_lt_of_le (I4.wr_lt q) hf)
      · exact Nat.lt_irrefl _ (Nat.lt_of_lt_of_le (q ▸ td4) hf)
    obtain ⟨od5, des5, dep5, hod5, hdd5, _⟩ := J5.ns
    have hobj := (t5t.ext.keep _ _ wf (I5.good.base.notTab hfo fun vs q => by cases q) hfo).2 fun es ep q => by cases q
    have hrc := codeRec_ext hrec I5.good.base t5t.ext fun b o hb e hd q => by
      obtain ⟨vs, hd⟩ := hd
      rcases q with q | q
      · exact I5.wr_nf q e vs hd
      · rw [q, hod5] at e; cases e; rw [hdd5] at hd; cases hd
    refine hQ x td f (f + 1) s10 (tt.monoAt fun b o e q => ?_) ⟨⟨_, tk3, J10, ?_, ?_⟩, ⟨s.heap.objs.size + 2, s.heap.objs.size + 1, _, _, doc, _, .ref cv, ctv, hobj, hrc, ct1, ⟨tko, co1⟩, ?_, ?_⟩, hnt, ?_, ?_, ?_, rfl⟩ ?_
    · rcases q with q | q
      · exact Nat.lt_irrefl _ (Nat.lt_of_lt_of_le (Heap.lt_size e) q.1)
      · have := was_none (I2.good) t02 (get_none htd)
        rw [q, this] at e; cases e
    · show (if (("value" : Str) = "read") then _ else _) = _
      rw [if_neg (by decide)]; rfl
    · show (if (("read" : Str) = "read") then _ else _) = _
      rw [if_pos rfl]
    · exact Nat.succ_ne_self _
    · exact ⟨Nat.lt_succ_self _, hcl "tape" _ rfl, hcl "octets" _ rfl, cv, rfl, Nat.lt_succ_of_lt hcv⟩
    · exact Nat.le_trans I2.good.base.size hxx
    · exact Nat.lt_succ_of_lt (Nat.lt_of_lt_of_le td4 hf)
    · exact Nat.lt_succ_of_lt (Nat.lt_of_lt_of_le x4 hf)
    · exact was_none (I2.good) t02 (get_none htd)
end
end Mine
end

section
open PySem PySem.W PyProof.Rows PySem.Calls
set_option Elab.async false
set_option linter.unusedVariables false
namespace Mine
set_option maxRecDepth 10000
set_option maxHeartbeats 4000000
section
variable {X : Cx} {k : Nat} {H : List Addr} {env : Env} {N : Nat} {ρ : Ro} {μ : Mu} {rest : List Stmt} {A : Around} {s : Shared} {Q : Flow → Shared → Prop} {E : Value → Shared → Prop}
/-- a new list of the frame's own, where the state is at hand -/
theorem own_at {y : Str} {p p2 pos : Pos} (I : Inv X k H A env N ρ μ s)
    (h : ∀ a s2, a ∉ H → s.heap.get? a = none → StepW X (Wr env (a :: H) N) s s2 → Inv X k (a :: H) A env N ((y, .addr a) :: ρ) ((a, []) :: μ) s2 → wpAny X.M A (execs rest env) Q E s2) (hy : canBind env y = true := by rfl) : wpAny X.M A (execs (.Assign [.Name y p] (.List [] p2) pos :: rest) env) Q E s := by
  refine wpAny_execs_cons (wpAny_Assign_Name (wpAny_List (wpAny_items_nil ⟨by decide, ?_⟩)) rfl)
  have hfr : s.heap.objs.size ∉ H := I.good.fresh (Nat.le_refl _)
  have keep : ∀ b o, s.heap.get? b = some o → (s.heap.push { cls := .type "list", data := .seq ([] : List Value).toArray }).get? b = some o := fun b o e => Heap.get?_push_of_some _ e
  have ea : (s.heap.push { cls := .type "list", data := .seq ([] : List Value).toArray }).get? s.heap.objs.size = some { cls := .type "list", data := .seq ([] : List Value).toArray } := Heap.get?_push_size _ rfl
  have t : Step X s { s with heap := s.heap.push { cls := .type "list", data := .seq ([] : List Value).toArray } } := new_seq
  have sq : SeqSub (vis H s.heap) (vis (s.heap.objs.size :: H) (s.heap.push { cls := .type "list", data := .seq ([] : List Value).toArray })) := fun b o e _ => by
    obtain ⟨h1, h2⟩ := vis_iff.mp e
    refine vis_iff.mpr ⟨fun q => ?_, keep b o h2⟩
    rcases List.mem_cons.mp q with rfl | q
    · rw [get_size_none] at h2; cases h2
    · exact h1 q
  have I1 := I.step t
  have I2 : Inv X k (s.heap.objs.size :: H) A env N ρ ((s.heap.objs.size, []) :: μ) { s with heap := s.heap.push { cls := .type "list", data := .seq ([] : List Value).toArray } } := by
    refine ⟨I.fr, ⟨I1.good.ok, I1.good.base, fun b hb => ?_, I1.good.fr⟩, fun x d hx => ?_, I1.loc, I1.cell, I1.own, fun b ds hb => ?_⟩
    · rcases List.mem_cons.mp hb with rfl | hb
      · exact ⟨_, ea, by intro _ q; cases q⟩
      · exact I1.good.hid b hb
    · obtain ⟨v, l, i⟩ := I.sees x d hx
      exact ⟨v, l.ext I.good.base t.ext, i.mono sq⟩
    · rw [List.lookup_cons] at hb
      cases q : b == s.heap.objs.size with
      | true =>
        rw [q] at hb; cases hb
        rw [beq_iff_eq.mp q]
        refine ⟨List.mem_cons_self .., ?_, #[], ⟨_, ea⟩, isAll_nil.mpr rfl⟩
        obtain ⟨m, o, _, _, e, _⟩ := I.loc
        exact Nat.le_trans I.fr.loc (Nat.le_of_lt (Heap.lt_size e))
      | false =>
        rw [q] at hb
        obtain ⟨h1, h2, ys, ⟨n, h3⟩, h4⟩ := I.lists b ds hb
        exact ⟨List.mem_cons_of_mem _ h1, h2, ys, ⟨n, keep _ _ h3⟩, h4.mono sq⟩
  refine I2.bind (d := .addr s.heap.objs.size) hy (is_addr.mpr rfl) fun s2 t2 I3 => ?_
  exact h _ s2 hfr (get_size_none _) (t.no.trans t2) I3
theorem own_back {a : Addr} {s s' : Shared} {W : Addr → Prop} (hn : s.heap.get? a = none) (t : StepW X (fun b => Wr env (a :: H) N b ∨ W b) s s') : StepW X (fun b => Wr env H N b ∨ W b) s s' :=
  t.monoAt fun b o e hb => by
    rcases hb with ⟨h1, h2⟩ | hb
    · refine .inl ⟨h1, h2.imp id (Or.imp id fun h2 => ?_)⟩
      rcases List.mem_cons.mp h2 with rfl | h2
      · rw [hn] at e; cases e
      · exact h2
    · exact .inr hb
theorem Caught.step {a : Addr} {s s' : Shared} {w : List Nat} {W : Addr → Prop} {P : XArg} {cls : String} (B : Base X s.heap) (t : Step X s s') (C : Caught P cls a s.heap) : Caught P cls a s'.heap := by
  obtain ⟨h0, oe, vs, a0, h1, h2, h3, h4, h5⟩ := C
  have nt : a ∉ X.TB := fun q => by
    obtain ⟨us, e⟩ := B.tabFields q
    rw [h1] at e; cases e; cases h2
  refine ⟨h0, oe, vs, a0, (t.ext.keep _ _ (fun f => f) nt h1).2 (fun es ep q => by rw [h3] at q; cases q), h2, h3, h4, P.seqs _ _ _ _ (fun b o hb e ⟨xs, n, hd⟩ => ?_) h5⟩
  exact (t.ext.keep _ _ (fun f => f) (B.notTab e fun us q => by rw [hd] at q; cases q) e).1
theorem append_at {a : Addr} {y : Str} {e : PySem.Expr} {ds : List D} {p apos cpos : Pos} {Q : Value → Shared → Prop} (I : Inv X k H A env N ρ μ s) (hρ : ρ.lookup y = some (.addr a)) (hm : μ.lookup a = some ds)
    (he : ∀ s1, Step X s s1 → Inv X k H A env N ρ μ s1 → wpAny X.M A (eval e env) (fun v2 s2 => ∃ d, Inv X k H A env N ρ μ s2 ∧ Is (vis H s2.heap) d v2 ∧ ∀ s3, StepW X (Wr env H N) s2 s3 → Inv X k H A env N ρ ((a, ds ++ [d]) :: μ) s3 → Q .none s3) E s1)
    (hl : ds.length ≤ sizeLine) (hd : (y == ("__debug__" : Str)) = false := by decide)
    (hbase : attributeBase (.Name y p) "append" env (eval (.Name y p) env) = eval (.Name y p) env := by rfl) (hline : (apos.endLine == cpos.line) = true := by rfl)
    (hse : starEach [e] env = [(false, eval e env)] := by rfl) : wpAny X.M A (eval (.Call (.Attribute (.Name y p) "append" apos) [e] [] cpos) env) Q E s := by
  refine Call_method1 hbase hse hline ?_
  refine (ev_name (X := X) (k := k) (H := H) I.fr.eok hρ hd) A s _ E I.good I.sees fun v1 s1 i1 t1 => ?_
  rw [is_addr.mp i1]
  have I1 := I.step t1
  obtain ⟨_, _, ys0, ⟨n0, e0⟩, _⟩ := I1.lists a ds hm
  refine ⟨"list", "list.append", m_append.pa, m_append.slot, m_append.ty, ⟨_, e0, rfl⟩, (fun b q => by cases q; exact ⟨_, e0, rfl⟩), ?_⟩
  refine Calls.callWith_builtin rfl (Calls.evalArgs_plain (Calls.spliced_cons (wpAny_mono (he s1 t1 I1) (fun v2 s2 hq => Calls.spliced_nil ?_) fun _ _ x => x)))
  obtain ⟨d, I2, i2, hQ⟩ := hq
  obtain ⟨_, _, ys, hy, iy⟩ := I2.lists a ds hm
  refine wpAny_list_append_plain (hsz := by have := iy.length; simp at this; omega) hy fun h' hl' hs' => ?_
  have hp : h'.PlainList a (ys ++ #[v2]) := by simpa using hl'
  obtain ⟨t3, I3⟩ := I2.put (es := [d]) (tk := s2.toks) hm hy hp hs' (by simpa using iy.append (isAll_cons.mpr ⟨v2, [], rfl, i2, isAll_nil.mpr rfl⟩))
  exact hQ _ t3 I3
/-- str of a caught exception -/
theorem ev_strExc {a : Addr} {w : List Nat} {y : Str} {p p2 pos : Pos} {Q : Value → Shared → Prop} (O : EnvOk env) (G : Good X k H A s) (S : Sees H env s.heap ρ) (C : Caught (strArg w) "ValueError" a s.heap) (hy : ρ.lookup y = some (.addr a)) (hu : A.units + 2 < cLine)
    (hQ : ∀ v s', Is (vis H s'.heap) (.str w) v → Step X s s' → Q v s') (hk : env.kindOf "str" = some .globalImplicit := by rfl) (hd : (y == ("__debug__" : Str)) = false := by decide)
    (hse : starEach [PySem.Expr.Name y p2] env = [(false, eval (PySem.Expr.Name y p2) env)] := by rfl) : wpAny X.M A (eval (.Call (.Name "str" p) [.Name y p2] [] pos) env) Q E s := by
  refine wpAny_Call_NameR (bi_name O G hk (by decide) (by decide) rfl (by decide) ?_)
  refine PySem.callWith_type (by rw [hse]; rfl) ?_
  rw [hse]
  refine Calls.evalArgs_plain (Calls.spliced_cons ((ev_name (X := X) (k := k) (H := H) O hy hd) A s _ E G S fun v s1 i t => Calls.spliced_nil ?_))
  rw [is_addr.mp i]
  obtain ⟨h0, oe, vs, a0, h1, h2, h3, h4, tt, tk, rfl, h6, h7⟩ := C.step (w := w) (W := No) G.base t
  refine P.str_of_exc_one F.excStr_ValueError hu ⟨oe, vs, h1, h2, h3, h4⟩ h7 (hQ _ _ (is_str.mpr ⟨_, rfl⟩) t)
end
section
variable {X : Cx} {k : Nat} {H : List Addr} {A : Around} {s : Shared} {C fI t td fr : Addr} {l : List UInt8} {p B : Nat} {Q : Value → Shared → Prop} {E : Value → Shared → Prop}
noncomputable abbrev nOctets : Nat := 18
theorem octets_call {fa fu : Addr} {fd fdu : FuncData} (DA : DefAt X "_law_octets" fa fd ["tape"] (scopeAt nOctets) (bodyAt nOctets)) (DU : DefAt X "read_uint1" fu fdu ["f"] (scopeAt nUint1) (bodyAt nUint1)) (TC : ClsAt X C fI)
    (G : Good X (k + 4) H A s) (T0 : TapeAt X s.heap B C t td fr l 0) (hl : l.length ≤ 7)
    (hQ : ∀ v s', StepW X (fun b => b = td) s s' → Is (vis H s'.heap) (.tuple [.list (l.map fun b => .int b.toNat), .str notEnough]) v → Q v s') :
    wpAny X.M A (call (.ref fa) [.ref t]) Q E s := by
  refine wpAny_call (call_def DA.toFnK G (ds := [.addr t]) (isAll_cons.mpr ⟨_, _, rfl, is_addr.mpr rfl, isAll_nil.mpr rfl⟩) rfl (fun s₁ t1 I => ?_) (by decide) (by rfl) (by rfl) (by rfl) (by rfl))
  generalize henv : fenv (scopeAt nOctets) s.heap.objs.size (fd.qualname ++ ".<locals>.") fa fd.code = env at *
  have O := I.fr.eok
  have T1 := T0.ext G.base t1.ext fun _ _ _ _ f => f
  have out : ∀ {H' b}, b < B → ¬ Wr env H' s.heap.objs.size b := fun {H' b} hb ⟨h, _⟩ => Nat.lt_irrefl _ (Nat.lt_of_lt_of_le (Nat.lt_of_lt_of_le hb T0.sz) h)
  have tdN : td < s.heap.objs.size := Nat.lt_of_lt_of_le T0.low.2.2.1 T0.sz
  subst henv
  refine own_at I (fun a s2 ha hn t2 I2 => ?_) (by rfl)
  have T2 := T1.ext I.good.base t2.ext fun b o hb _ => out hb
  refine wpAny_execs_cons (wpAny_While ?_)
  refine codeAny_whileLoop (fun n s' => ∃ i, n = l.length - i ∧ i ≤ l.length ∧ StepW X (fun b => Wr (fenv (scopeAt nOctets) s.heap.objs.size (fd.qualname ++ ".<locals>.") fa fd.code) (a :: H) s.heap.objs.size b ∨ b = td) s₁ s' ∧
    Inv X (k + 3) (a :: H) (A.deeper (fenv (scopeAt nOctets) s.heap.objs.size (fd.qualname ++ ".<locals>.") fa fd.code)) (fenv (scopeAt nOctets) s.heap.objs.size (fd.qualname ++ ".<locals>.") fa fd.code) s.heap.objs.size [("octets", .addr a), ("tape", .addr t)] [(a, (l.take i).map fun b => .int b.toNat)] s' ∧ TapeAt X s'.heap B C t td fr l i) ?_ (l.length - 0) ⟨0, rfl, Nat.zero_le _, t2.mono fun b => .inl, I2.sub (sub_cons rfl (sub_cons rfl sub_nil)) (fun x d h => h), T2⟩
  rintro n s' ⟨i, rfl, hi, ts, Iw, Ts⟩
  refine (ts_val (X := X) (k := k + 3) (H := a :: H) (ρ := [("octets", .addr a), ("tape", .addr t)]) (ev_boolc (b := true)) tru_bool rfl) _ s' _ _ Iw.good Iw.sees fun s3 t3 => ?_
  have I3 := Iw.step t3
  have T3 := Ts.ext Iw.good.base t3.ext fun _ _ _ _ f => f
  simp only [if_true]
  refine wpAny_execs_cons (wpAny_Try_except (wpAny_execs_cons (wpAny_Expr ?_ (by rfl) (by rfl))))
  have dictAt : ∀ {h : Heap} {q : Nat}, TapeAt X h B C t td fr l q → ∃ o es ep, h.get? td = some o ∧ o.data = .dict es ep := fun T => by
    obtain ⟨m, tv, J, _, _⟩ := T.inst
    obtain ⟨od, des, dep, hod, hdd, _⟩ := J.ns
    exact ⟨od, des, dep, hod, hdd⟩
  refine append_at (ds := (l.take i).map fun b => .int b.toNat) I3 rfl mu_self (fun s4 t4 I4 => ?_) (by simp [sizeLine_eq]; omega)
  have T4 := T3.ext I3.good.base t4.ext fun _ _ _ _ f => f
  refine call_at DU O I4.good I4.sees (evs_cons (ev_name (d := .addr t) O rfl) evs_nil) fun vs s5 i5 t5 => ?_
  obtain ⟨v5, _, rfl, j1, j2⟩ := isAll_cons.mp i5
  rw [isAll_nil.mp j2, is_addr.mp j1]
  have I5 := I4.step t5
  have T5 := T4.ext I4.good.base t5.ext fun _ _ _ _ f => f
  refine uint1_call (k := k) DU TC I5.good T5 hi (by omega) (fun hlt tk6 s6 t6 T6 => ?_) (fun he x s6 s7 ls hls t6 T6 U => ?_)
  · have I6 := I5.stepV t6 tdN (dictAt T5)
    refine ⟨.int (l.getD i 0).toNat, I6, is_int.mpr ⟨tk6, rfl⟩, fun s7 t7 I7 => ?_⟩
    refine wpAny_execs_nil (wpAny_execs_nil (wpAny_execs_nil ?_))
    refine ⟨l.length - (i + 1), by omega, i + 1, rfl, hlt, ?_, I7.sub (fun x d h => h) fun x ds hx => ?_, T6.ext I6.good.base t7.ext fun b o hb _ => out hb⟩
    · exact (((((ts.trans t3.no).trans t4.no).trans t5.no).trans (t6.mono fun b => .inr)).trans (t7.mono fun b => .inl))
    · rw [List.lookup_cons] at hx ⊢
      cases q : x == a with
      | false => rw [q] at hx; cases hx
      | true =>
        rw [q] at hx; cases hx
        rw [List.take_add_one, List.map_append, show l[i]? = some (l.getD i 0) by simp [List.getD, hlt]]; rfl
  · have I6 := I5.stepV t6 tdN (dictAt T5)
    have il : l.take i = l := by rw [he]; exact List.take_length
    rw [il] at I6
    refine catch_as (n := "fault") excOk_ValueError I6 hls U (fun s8 E' t8 I8 Cc => ?_) (by rfl) (by rfl)
    refine wpAny_execs_cons (wpAny_Return_some (wpAny_Tuple ?_))
    refine wpAny_items_cons ((ev_name (X := X) (k := 0) (H := a :: H) O (ρ := [("fault", .addr x), ("octets", .addr a), ("tape", .addr t)]) (d := .addr a) rfl) _ s8 _ _ I8.good I8.sees fun v9 s9 i9 t9 => ?_) (by rfl)
    have I9 := I8.step t9
    have hu : (Around.mark (A.deeper (fenv (scopeAt nOctets) s.heap.objs.size (fd.qualname ++ ".<locals>.") fa fd.code)) (some (.ref x))).units + 2 < cLine := by
      have := I.good.ok.units
      show (A.deeper (fenv (scopeAt nOctets) s.heap.objs.size (fd.qualname ++ ".<locals>.") fa fd.code)).units + 2 < _
      omega
    refine wpAny_items_cons (ev_strExc O I9.good I9.sees (Cc.step (w := notEnough) (W := No) I8.good.base t9) (y := "fault") rfl hu (fun v10 s10 i10 t10 => ?_)) (by rfl)
    refine wpAny_items_nil ⟨by show 2 ≤ sizeLine; decide, ?_⟩
    have I10 := I9.step t10
    have hlist : Is (vis H s10.heap) (.list (l.map fun b => .int b.toNat)) v9 := by
      rw [is_addr.mp i9]
      obtain ⟨_, _, ys, ⟨n, e⟩, iy⟩ := I10.lists a _ mu_self
      exact is_list.mpr ⟨a, ys.toList, rfl, ⟨n, vis_iff.mpr ⟨ha, e⟩⟩, iy.mono (vis_open _)⟩
    have htup := new_tuple (n := 0) (I10.good.open) (ds := [.list (l.map fun b => .int b.toNat), .str notEnough]) (vs := [v9, v10]) (isAll_two.mpr ⟨_, _, rfl, hlist, i10.mono (vis_open _)⟩)
    have I11 := (I10.step (new_seq (o := { cls := .type "tuple", data := .seq [v9, v10].toArray }))).unmark I6.good.ok
    have I12 : Inv X (k + 3) H _ (fenv (scopeAt nOctets) s.heap.objs.size (fd.qualname ++ ".<locals>.") fa fd.code) s.heap.objs.size [] [] _ := ⟨I11.fr, I11.good.open, fun x d h => (by cases h), I11.loc, I11.cell, I11.own, fun b ds' hb => by cases hb⟩
    refine I12.unbind (by rfl) rfl fun s13 t13 ki I13 => ?_
    refine hQ _ s13 ?_ (ki _ _ htup)
    have tt : StepW X (fun b => Wr (fenv (scopeAt nOctets) s.heap.objs.size (fd.qualname ++ ".<locals>.") fa fd.code) (a :: H) s.heap.objs.size b ∨ b = td) s₁ s13 :=
      ((((((((ts.trans t3.no).trans t4.no).trans t5.no).trans (t6.mono fun b => .inr)).trans (t8.mono fun b => .inl)).trans t9.no).trans t10.no).trans (new_seq (X := X)).no).trans (t13.mono fun b hb => .inl ⟨hb.1, hb.2.imp id (Or.imp id (List.mem_cons_of_mem _))⟩)
    exact back_tape rfl t1 (own_back hn tt)
end
end Mine
end

section
open PySem PySem.W PyProof.Rows PySem.Calls
set_option Elab.async false
set_option linter.unusedVariables false
namespace Mine
set_option maxRecDepth 10000
set_option maxHeartbeats 4000000
/-- what the text's top holds of the tape -/
structure TapeK (X : Cx) (C fI ft : Addr) (fdT : FuncData) : Prop where
  cls : ClsAt X C fI
  init : ∃ fdI, FnK X fI fdI ["self", "value"] initScope initBody
  fn : DefAt X "_law_tape" ft fdT ["octets"] (scopeAt nTape) (bodyAt nTape)
  tab : ∃ Tb ∈ X.tabs, fdT.code = .ref Tb.c ∧ readPos.line = Tb.line ∧ readPos.col = Tb.col ∧ fdT.qualname ++ ".<locals>." ++ "read" = Tb.qual
  apart : TabsApart X
  built : BuiltK X
section
variable {X : Cx} {k : Nat} {H : List Addr} {env : Env} {ρ : Ro} {A : Around} {s : Shared} {Q : Value → Shared → Prop} {E : Value → Shared → Prop} {C fI ft : Addr} {fdT : FuncData}
theorem call_at1 {f : Str} {pp pos : Pos} {fa : Addr} {fd : FuncData} {ps : List Str} {sc : Scope} {body : List Stmt} {e : PySem.Expr} (DA : DefAt X f fa fd ps sc body) (O : EnvOk env)
    (G : Good X k H A s) (h : wpAny X.M A (eval e env) (fun v s1 => X.K.In s1.heap ∧ wpAny X.M A (call (.ref fa) [v]) Q E s1) E s) (hk : env.kindOf f = some .globalImplicit := by rfl) (hd : (f == ("__debug__" : Str)) = false := by decide)
    (hse : starEach [e] env = [(false, eval e env)] := by rfl) : wpAny X.M A (eval (.Call (.Name f pp) [e] [] pos) env) Q E s := by
  refine wpAny_Call_NameR (Calls.Name_function_global O.kind hk (Calls.loadGlobal_global (by rw [O.globals]; exact G.base.g) DA.glob ?_) hd)
  obtain ⟨o, ho, hdd⟩ := DA.obj
  refine Calls.callWith_function (o := o) (fd := fd) ?_
  rw [hse]
  refine Calls.evalArgs_plain (Calls.spliced_cons (wpAny_mono h (fun v s1 hq => Calls.spliced_nil ?_) fun _ _ x => x))
  exact ⟨⟨hq.1 fa o ho, hdd⟩, hq.2⟩
/-- _law_tape(e) -/
theorem tape_at {pp pos : Pos} {e : PySem.Expr} {l : List UInt8} (TK : TapeK X C fI ft fdT) (O : EnvOk env) (G : Good X (k + 3) H A s) (S : Sees H env s.heap ρ) (he : Evs X (k + 3) H env ρ e (.bytes l))
    (hQ : ∀ t td fr B s', Step X s s' → TapeAt X s'.heap B C t td fr l 0 → s.heap.get? td = none → Q (.ref t) s') (hk : env.kindOf "_law_tape" = some .globalImplicit := by rfl)
    (hse : starEach [e] env = [(false, eval e env)] := by rfl) : wpAny X.M A (eval (.Call (.Name "_law_tape" pp) [e] [] pos) env) Q E s := by
  refine call_at1 TK.fn O G (he A s _ E G S fun v s1 i t => ⟨(G.step t).base.K, ?_⟩) hk (by decide) hse
  obtain ⟨tk, rfl⟩ := is_bytes.mp i
  obtain ⟨fdI, FI⟩ := TK.init
  obtain ⟨Tb, hT, h0, h1, h2, h3⟩ := TK.tab
  exact tape_call hT TK.apart TK.built TK.fn h0 h1 h2 h3 TK.cls FI (G.step t) fun x td fr B s2 t2 T hn => hQ x td fr B s2 (t.trans t2) T (was_none (G.step t) t hn)
theorem td_step {s s1 s2 : Shared} {td : Addr} (t : Step X s s1) (t2 : StepW X (fun b => b = td) s1 s2) (hn : s.heap.get? td = none) : Step X s s2 :=
  (t.no.trans t2).monoAt fun b o e q => by rw [q, hn] at e; cases e
theorem ev_string1 {fs fu : Addr} {fds fdu : FuncData} {p1 p2 p3 p4 : Pos} {e : PySem.Expr} {l : List UInt8} {n : UInt8} (TK : TapeK X C fI ft fdT) (DS : DefAt X "read_string1" fs fds ["f"] (scopeAt nString1) (bodyAt nString1)) (DU : DefAt X "read_uint1" fu fdu ["f"] (scopeAt nUint1) (bodyAt nUint1)) (O : EnvOk env)
    (he : Evs X (k + 4) H env ρ e (.bytes (n :: l))) (hl : l.length ≤ 6) (hn1 : 1 ≤ n.toNat) (hn : n.toNat ≤ l.length) (hk : env.kindOf "read_string1" = some .globalImplicit := by rfl) (hk2 : env.kindOf "_law_tape" = some .globalImplicit := by rfl)
    (hse : starEach [e] env = [(false, eval e env)] := by rfl) (hse2 : starEach [PySem.Expr.Call (.Name "_law_tape" p1) [e] [] p2] env = [(false, eval (.Call (.Name "_law_tape" p1) [e] [] p2) env)] := by rfl) :
    Evs X (k + 4) H env ρ (.Call (.Name "read_string1" p3) [.Call (.Name "_law_tape" p1) [e] [] p2] [] p4) (.str ((l.take n.toNat).map (·.toNat))) := by
  intro A s Q E G S hQ
  refine call_at1 DS O G (tape_at (k := k + 1) TK O G S he (fun t td fr B s1 t1 T htd => ?_) hk2 hse) hk (by decide) hse2
  have G1 := G.step t1
  refine ⟨G1.base.K, string1_call DS DU TK.cls G1 T (Nat.succ_pos _) (Nat.succ_le_succ hl) hn1 (fun hle tk' s2 t2 => ?_) (fun hlt => ?_)⟩
  · exact hQ _ _ (is_str.mpr ⟨tk', rfl⟩) (td_step t1 t2 htd)
  · simp at hlt; omega
theorem raises_string1 {fs fu : Addr} {fds fdu : FuncData} {p1 p2 p3 p4 : Pos} {e : PySem.Expr} {l : List UInt8} {n : UInt8} (TK : TapeK X C fI ft fdT) (DS : DefAt X "read_string1" fs fds ["f"] (scopeAt nString1) (bodyAt nString1)) (DU : DefAt X "read_uint1" fu fdu ["f"] (scopeAt nUint1) (bodyAt nUint1)) (O : EnvOk env)
    (he : Evs X (k + 4) H env ρ e (.bytes (n :: l))) (hl : l.length ≤ 6) (hn1 : 1 ≤ n.toNat) (hn : l.length < n.toNat) (hk : env.kindOf "read_string1" = some .globalImplicit := by rfl) (hk2 : env.kindOf "_law_tape" = some .globalImplicit := by rfl)
    (hse : starEach [e] env = [(false, eval e env)] := by rfl) (hse2 : starEach [PySem.Expr.Call (.Name "_law_tape" p1) [e] [] p2] env = [(false, eval (.Call (.Name "_law_tape" p1) [e] [] p2) env)] := by rfl) :
    Raises X (k + 4) H env ρ (.Call (.Name "read_string1" p3) [.Call (.Name "_law_tape" p1) [e] [] p2] [] p4) "ValueError" (strArg (refuseF n.toNat l.length)) := by
  intro A s Q E G S hE
  refine call_at1 DS O G (tape_at (k := k + 1) TK O G S he (fun t td fr B s1 t1 T htd => ?_) hk2 hse) hk (by decide) hse2
  have G1 := G.step t1
  refine ⟨G1.base.K, string1_call DS DU TK.cls G1 T (Nat.succ_pos _) (Nat.succ_le_succ hl) hn1 (fun hle => ?_) (fun hlt a s2 s3 ls hls t2 U => ?_)⟩
  · simp at hle; omega
  · refine hE a s2 s3 ls hls (td_step t1 t2 htd) ?_
    have e : ((n :: l).length - (0 + 1) : Nat) = l.length := by simp
    rw [e] at U
    exact U
theorem ev_octets {fo fu : Addr} {fdo fdu : FuncData} {p1 p2 p3 p4 : Pos} {e : PySem.Expr} {l : List UInt8} (TK : TapeK X C fI ft fdT) (DO : DefAt X "_law_octets" fo fdo ["tape"] (scopeAt nOctets) (bodyAt nOctets)) (DU : DefAt X "read_uint1" fu fdu ["f"] (scopeAt nUint1) (bodyAt nUint1)) (O : EnvOk env)
    (he : Evs X (k + 4) H env ρ e (.bytes l)) (hl : l.length ≤ 7) (hk : env.kindOf "_law_octets" = some .globalImplicit := by rfl) (hk2 : env.kindOf "_law_tape" = some .globalImplicit := by rfl)
    (hse : starEach [e] env = [(false, eval e env)] := by rfl) (hse2 : starEach [PySem.Expr.Call (.Name "_law_tape" p1) [e] [] p2] env = [(false, eval (.Call (.Name "_law_tape" p1) [e] [] p2) env)] := by rfl) :
    Evs X (k + 4) H env ρ (.Call (.Name "_law_octets" p3) [.Call (.Name "_law_tape" p1) [e] [] p2] [] p4) (.tuple [.list (l.map fun b => .int b.toNat), .str notEnough]) := by
  intro A s Q E G S hQ
  refine call_at1 DO O G (tape_at (k := k + 1) TK O G S he (fun t td fr B s1 t1 T htd => ?_) hk2 hse) hk (by decide) hse2
  have G1 := G.step t1
  exact ⟨G1.base.K, octets_call DO DU TK.cls G1 T hl fun v s2 t2 i2 => hQ v s2 i2 (td_step t1 t2 htd)⟩
end
end Mine
end

section
open PySem PySem.W PyProof.Rows PySem.Calls
set_option Elab.async false
set_option linter.unusedVariables false
namespace Mine
set_option maxRecDepth 100000
set_option maxHeartbeats 4000000
theorem slot_md_get : Slot "method_descriptor" "__get__" "method_descriptor.__get__" :=
  .of (owner := "method_descriptor") (n := "__get__") (by rw [typeLookup_type, builtinLookup_eq_fast]; kernel_rfl) (by decide +kernel) (by decide +kernel) (by decide +kernel)
    (by first | exact .inl (by decide +kernel) | exact .inr (by decide +kernel)) (by rw [isSubtype_type]; kernel_rfl)
theorem entry_md_get : entryFor table "method_descriptor.__get__" = some Builtin.«method_descriptor.__get__» := entryFor_of_tree (by kernel_rfl)
theorem args_md_get (a b c : Value) : argsOk "method_descriptor.__get__" ⟨[a, b, c], []⟩ := by unfold argsOk; kernel_rfl
theorem type_la : typeOf (.builtin "list.append") = pure (.type "method_descriptor") := by show builtinType _ = _; rw [builtinType_eq_fast]; kernel_rfl
theorem md_noset : typeLookup (.type "method_descriptor") "__set__" = pure none := by rw [typeLookup_type, builtinLookup_eq_fast]; kernel_rfl
theorem md_nodel : typeLookup (.type "method_descriptor") "__delete__" = pure none := by rw [typeLookup_type, builtinLookup_eq_fast]; kernel_rfl
section
variable {prog : Program} {w : World} {A : Around} {E : Value → Shared → Prop} {s : Shared} {a : Addr}
theorem md_get {o : Obj} {Q : Fin → Shared → Prop} (hx : s.heap.get? a = some o) (hc : o.cls = .type "list") (h : Q (.done (.ret (.ref s.heap.objs.size))) { s with heap := s.heap.push (boundObj "list.append" a) }) :
    wpAny (model prog w) A (Builtin.«method_descriptor.__get__» ⟨[.builtin "list.append", .ref a, .type "list"], []⟩) Q E s := by
  have hT : s.TypeIs (.ref a) "list" := ⟨_, hx, hc⟩
  have hs : isSubtype (.type "list") (.type "list") = pure true := by rw [isSubtype_type]; kernel_rfl
  unfold Builtin.«method_descriptor.__get__»
  repeat (any_goals (first | assumption | wp_step))
  have ho : (".".intercalate ("list.append".cutAt '.').dropLast) = "list" := by decide +kernel
  rw [ho]
  repeat (any_goals (first | assumption | wp_step))
theorem ga_append (xs : Array Value) (k : Nat) (u : Tok) :
    Meets (Builtin.«object.__getattribute__» ⟨[.ref a, .str "append" u], []⟩) (fun A R s => s.heap.get? a = some { cls := .type "list", dict := none, data := .seq xs k } ∧ R (.ok (.ret (.ref s.heap.objs.size))) { s with heap := s.heap.push (boundObj "list.append" a) }) :=
  Meets.of_wp fun prog w A R s hs => by
    obtain ⟨hp, g, d, tk, os⟩ := s
    obtain ⟨hx, hs⟩ := hs
    have hT : (⟨hp, g, d, tk, os⟩ : Shared).TypeIs (.ref a) "list" := ⟨_, hx, rfl⟩
    have f1 := F.slot_list_append.lookup
    have f2 := type_la
    have f3 := slot_md_get.lookup
    have f4 := md_noset
    have f5 := md_nodel
    have hname : (["__module__", "__name__", "__qualname__", "__doc__", "__annotations__"] : List Str).contains ("append" : Str) = false := by decide
    unfold Builtin.«object.__getattribute__»
    repeat (any_goals (first | assumption | wp_step))
    have hTd : (⟨hp, g, d, tk, os⟩ : Shared).TypeIs (.builtin "list.append") "method_descriptor" := type_la
    refine codeAny_call_builtin slot_md_get.plain entry_md_get (slot_md_get.check _ _ _ _ _ _ _ _ hTd (args_md_get _ _ _) (md_get hx rfl ?_))
    exact wpAny_pure ⟨_, rfl, hs⟩
theorem getAttr_append {xs : Array Value} {k : Nat} {Q : Value → Shared → Prop} (hx : s.heap.get? a = some { cls := .type "list", dict := none, data := .seq xs k }) (h : ∀ tk, Q (.ref s.heap.objs.size) { s with heap := s.heap.push (boundObj "list.append" a), toks := tk }) :
    wpAny (model prog w) A (getAttr (.ref a) "append" true) Q E s := by
  obtain ⟨hp, g, d, tk, os⟩ := s
  have hT : ∀ tk', (⟨hp, g, d, tk', os⟩ : Shared).TypeIs (.ref a) "list" := fun _ => ⟨_, hx, rfl⟩
  have f3 := F.slot_list_getattribute.lookup
  have f4 := F.slot_list_getattribute.bind (.ref a)
  have f5 := am_list_getattr_none
  unfold getAttr getAttrBy
  repeat (any_goals (first | assumption | exact hT _ | ((with_reducible show wpAny _ _ (call (Value.builtin "list.__getattribute__") _ _) _ _ _); refine call_meets F.slot_list_getattribute (hT _) am_entry_list_getattribute (F.args_list_getattribute_2 _ _) (ga_append xs k _) ⟨hx, ?_⟩) | wp_step))
  exact wpAny_pure (h _)

theorem mro_object : mroOf (.type "object") = pure [.type "object"] := by rw [mroOf_type]; kernel_rfl
theorem lookup_object_new : typeLookup (.type "object") "__new__" = pure (some (.builtin "object.__new__")) := by rw [typeLookup_type, builtinLookup_eq_fast]; kernel_rfl
theorem slot_object_init : Slot "object" "__init__" "object.__init__" :=
  .of (owner := "object") (n := "__init__") (by rw [typeLookup_type, builtinLookup_eq_fast]; kernel_rfl) (by decide +kernel) (by decide +kernel) (by decide +kernel)
    (by first | exact .inl (by decide +kernel) | exact .inr (by decide +kernel)) (by rw [isSubtype_type]; kernel_rfl)
theorem called_object : TypeCalled "object" "object.__new__" "object.__init__" :=
  ⟨by decide +kernel, by decide +kernel, ⟨_, _, mro_object⟩, madeBy_type mro_object lookup_object_new (by decide +kernel), by decide +kernel, by rw [isSubtype_type]; kernel_rfl, slot_object_init⟩
theorem entry_object_new : entryFor table "object.__new__" = some Builtin.«object.__new__» := entryFor_of_tree (by kernel_rfl)
theorem object_new : Meets (Builtin.«object.__new__» ⟨[.type "object"], []⟩) (fun _ R s => R (.ok (.ret (.ref s.heap.objs.size))) { s with heap := s.heap.push { cls := .type "object", data := .plain } }) :=
  Meets.of_wp fun prog w A R s hs => by
    have f1 := called_object.made
    unfold Builtin.«object.__new__»
    repeat (any_goals (first | assumption | wp_step))
    exact ⟨_, rfl, hs⟩
theorem object_init0 (self : Value) : Meets (Builtin.«object.__init__» ⟨[self], []⟩) (fun _ R s => R (.ok (.ret .none)) s) :=
  Meets.of_wp fun prog w A R s hs => wpAny_pure ⟨_, rfl, hs⟩
theorem call_object {Q : Value → Shared → Prop} (h : Q (.ref s.heap.objs.size) { s with heap := s.heap.push { cls := .type "object", data := .plain } }) : wpAny (model prog w) A (call (.type "object") []) Q E s :=
  callType_meets (Q₁ := fun v s' => v = .ref s.heap.objs.size ∧ s' = { s with heap := s.heap.push { cls := .type "object", data := .plain } }) called_object (by kernel_rfl) (by kernel_rfl) entry_object_new F.entry_object_init object_new ⟨rfl, rfl⟩ fun obj s1 hq => by
    obtain ⟨rfl, rfl⟩ := hq
    exact ⟨⟨_, Heap.get?_push_size _ rfl, rfl⟩, by unfold argsOk; kernel_rfl, _, object_init0 _, rfl, h⟩
end
end Mine
end

section
open PySem PySem.W PyProof.Rows PySem.Calls
set_option Elab.async false
set_option linter.unusedVariables false
namespace Mine
set_option maxRecDepth 100000
set_option maxHeartbeats 4000000
section
variable {prog : Program} {w : World} {A : Around} {E : Value → Shared → Prop} {s : Shared} {a b : Addr}
theorem list_no_module : isSubtype (.type "list") (.type "module") = pure false := by rw [isSubtype_type]; kernel_rfl
theorem check_append {ys : Array Value} {n : Nat} {v : Value} {Q : Unit → Shared → Prop} (hx : s.heap.get? a = some { cls := .type "list", data := .seq ys n }) (h : Q () s) : wpAny (model prog w) A (checkBoundCall "list.append" ⟨[.ref a, v], []⟩) Q E s := by
  have hT : s.TypeIs (.ref a) "list" := ⟨_, hx, rfl⟩
  have f1 := list_no_module
  unfold checkBoundCall
  repeat (any_goals (first | assumption | wp_step))
theorem quiet_append {as : Args} : (Code.builtin "list.append" as).quiet = true := Code.quiet_builtin _ (by decide +kernel)
theorem call_boundAppend {v : Value} {ys : Array Value} {Q : Value → Shared → Prop} (hb : s.heap.get? b = some (boundObj "list.append" a)) (hl : s.heap.PlainList a ys)
    (hQ : ∀ h', h'.PlainList a (ys.push v) → Heap.SameBut a s.heap h' → Q .none { s with heap := h' }) (hsz : ys.size ≤ sizeLine) : wpAny (model prog w) A (call (.ref b) [v]) Q E s := by
  obtain ⟨n, ho⟩ := hl
  refine wpAny_call (codeAny_of_tree ?_)
  show wpAny _ A.in1 (callAny (.ref b) ⟨[v], []⟩) _ _ s
  simp only [callAny]
  refine wpAny_bind (wpAny_load hb ?_)
  show wpAny _ A.in1 (checkBoundCall "list.append" ⟨[.ref a, v], []⟩ >>= fun _ => _) _ _ s
  refine wpAny_bind (check_append ho ?_)
  refine wpAny_bind (wpAny_pure (wpAny_pure ⟨quiet_append, codeAny_builtin entry_list_append ?_⟩))
  show wpAny _ _ (updateSeq a (·.push v) >>= fun _ => ret .none) _ _ s
  refine wpAny_bind ?_
  refine wpAny_updateSeq ho rfl (wpAny_pure (hQ _ ⟨n + 1, ?_⟩ (Heap.SameBut.update ..)))
  rw [Heap.get?_update_self _ ho (by rw [Obj.mapSeq_push_plain]; rfl), Obj.mapSeq_push_plain]
end
end Mine
end

section
open PySem PySem.W PyProof.Rows PySem.Calls
set_option Elab.async false
set_option linter.unusedVariables false
namespace Mine
set_option maxRecDepth 100000
set_option maxHeartbeats 400000
section
variable {X : Cx} {k : Nat} {H : List Addr} {env : Env} {N : Nat} {ρ : Ro} {μ : Mu} {rest : List Stmt} {R : Post} {A : Around} {s : Shared} {a : Addr} {E : Value → Shared → Prop}

theorem callWith_boundObj {pos : Pos} {u : Addr} {id : String} {first : List Value} {args : List (Bool × Sem Value)} {Q : Value → Shared → Prop} (hplain : args.any (·.1) = false)
    (h : wpAny X.M A (evalArgs (.ref u) true args []) (fun x s₁ => s₁.heap.get? u = some (boundObj id a) ∧ wpAny X.M A (call (.ref u) (first ++ x.pos) x.kw) Q E s₁) E s) : wpAny X.M A (callWith pos (.ref u) first args []) Q E s := by
  unfold callWith
  refine wpAny_bind (wpAny_holding (wpAny_mono h (fun x s₁ h₁ => wpAny_bind (wpAny_standAt ?_)) fun _ _ x => x))
  obtain ⟨ho, hcall⟩ := h₁
  simp only [hplain, List.any_nil, Bool.or_false]
  refine wpAny_bind (m := keeperOf (.ref u)) ?_
  unfold keeperOf
  refine wpAny_bind (wpAny_load ho ?_)
  simp only [boundObj, show (Value.type "builtin_function_or_method" != Value.type "method") = true by decide, show (Value.type "builtin_function_or_method" == Value.type "builtin_function_or_method" || Value.type "builtin_function_or_method" == Value.type "method-wrapper") = true by decide, if_true]
  refine wpAny_pure ?_
  exact wpAny_bind (wpAny_mono hcall (fun r s₂ hr => wpAny_bind (wpAny_holding (wpAny_point (wpAny_pure hr)))) fun _ _ x => x)

/-- y = x.append, x an owned list -/
theorem r_bound {y x : Str} {np apos p pos : Pos} {ds : List D} (hρ : ρ.lookup x = some (.addr a)) (hm : μ.lookup a = some ds) (h : Runs X k H env N ((y, .bound "list.append" a) :: ρ) μ rest R)
    (hd : (x == ("__debug__" : Str)) = false := by decide) (hy : canBind env y = true := by rfl) (hs : swapsWith (.Attribute (.Name x np) "append" apos) (some (.Name y p)) pos.line env = pure false := by rfl) :
    Runs X k H env N ρ μ (.Assign [.Name y p] (.Attribute (.Name x np) "append" apos) pos :: rest) R := by
  intro A s Q E I hQ
  refine wpAny_execs_cons (wpAny_Assign_Name (Attribute_name ((ev_name (X := X) (k := k) (H := H) I.fr.eok hρ hd) A s _ E I.good I.sees fun v1 s1 i1 t1 => ?_)) hs)
  rw [is_addr.mp i1]
  have I1 := I.step t1
  obtain ⟨_, _, ys, ⟨n, e⟩, _⟩ := I1.lists a ds hm
  refine getAttr_append e fun tk => ?_
  have t2 : Step X s1 { s1 with heap := s1.heap.push (boundObj "list.append" a), toks := tk } := .of (Ext.push _ _)
  have hfr : s1.heap.objs.size ∉ H := I1.good.fresh (Nat.le_refl _)
  refine (I1.step t2).bind (d := .bound "list.append" a) hy (is_bound.mpr ⟨_, rfl, vis_iff.mpr ⟨hfr, Heap.get?_push_size _ rfl⟩⟩) fun s3 t3 I3 => ?_
  exact h A s3 Q E I3 fun f s4 t4 r => hQ f s4 (((t1.trans t2).no.trans t3).trans t4) r

theorem add_at {y : Str} {p pos : Pos} {e : PySem.Expr} {ds : List D} {Q : Value → Shared → Prop} (I : Inv X k H A env N ρ μ s) (hρ : ρ.lookup y = some (.bound "list.append" a)) (hm : μ.lookup a = some ds)
    (he : ∀ s1, Step X s s1 → Inv X k H A env N ρ μ s1 → wpAny X.M A (eval e env) (fun v2 s2 => ∃ d, Step X s1 s2 ∧ Is (vis H s2.heap) d v2 ∧ ∀ s3, StepW X (Wr env H N) s2 s3 → Inv X k H A env N ρ ((a, ds ++ [d]) :: μ) s3 → Q .none s3) E s1)
    (hl : ds.length ≤ sizeLine) (hd : (y == ("__debug__" : Str)) = false := by decide) (hse : starEach [e] env = [(false, eval e env)] := by rfl) : wpAny X.M A (eval (.Call (.Name y p) [e] [] pos) env) Q E s := by
  refine wpAny_Call_NameR ((ev_name (X := X) (k := k) (H := H) I.fr.eok hρ hd) A s _ E I.good I.sees fun v1 s1 i1 t1 => ?_)
  obtain ⟨u, rfl, hu⟩ := is_bound.mp i1
  have I1 := I.step t1
  rw [hse]
  refine callWith_boundObj (id := "list.append") (a := a) rfl (Calls.evalArgs_plain (Calls.spliced_cons (wpAny_mono (he s1 t1 I1) (fun v2 s2 hq => Calls.spliced_nil ?_) fun _ _ x => x)))
  obtain ⟨d, t2, i2, hQ⟩ := hq
  have I2 := I1.step t2
  obtain ⟨w, hw, hb⟩ := is_bound.mp (i1.step I1.good t2)
  cases hw
  obtain ⟨_, _, ys, hy, iy⟩ := I2.lists a ds hm
  refine ⟨(vis_iff.mp hb).2, call_boundAppend (vis_iff.mp hb).2 hy (fun h' hl' hs' => ?_) (by have := iy.length; simp at this; omega)⟩
  have hp : h'.PlainList a (ys ++ #[v2]) := by simpa using hl'
  obtain ⟨t3, I3⟩ := I2.put (es := [d]) (tk := s2.toks) hm hy hp hs' (by simpa using iy.append (isAll_cons.mpr ⟨v2, [], rfl, i2, isAll_nil.mpr rfl⟩))
  exact hQ _ t3 I3
theorem r_add {y : Str} {e : PySem.Expr} {d : D} {ds : List D} {p cpos pos : Pos} (hρ : ρ.lookup y = some (.bound "list.append" a)) (hm : μ.lookup a = some ds) (he : EvsI X k H env N ρ μ e d) (h : Runs X k H env N ρ ((a, ds ++ [d]) :: μ) rest R)
    (hl : ds.length ≤ sizeLine) (hd : (y == ("__debug__" : Str)) = false := by decide) (hse : starEach [e] env = [(false, eval e env)] := by rfl) (hi : interactive env = false := by rfl) (hs : swapsWith (.Call (.Name y p) [e] [] cpos) none pos.line env = pure false := by rfl) : Runs X k H env N ρ μ (.Expr (.Call (.Name y p) [e] [] cpos) pos :: rest) R := by
  refine r_expr (fun A s Q E I hQ => ?_) h hi hs
  refine add_at I hρ hm (fun s1 t1 I1 => he A s1 _ E I1 fun v2 s2 i2 t2 => ⟨d, t2, i2, fun s3 t3 I3 => ?_⟩) hl hd hse
  exact hQ s3 ((t1.trans t2).no.trans t3) I3
/-- y = object() -/
theorem r_object {y : Str} {fp p cpos pos : Pos} (h : ∀ a, Runs X k H env N ((y, .addr a) :: ρ) μ rest R) (hy : canBind env y = true := by rfl) (hk : env.kindOf "object" = some .globalImplicit := by rfl)
    (hs : swapsWith (.Call (.Name "object" fp) [] [] cpos) (some (.Name y p)) pos.line env = pure false := by rfl) : Runs X k H env N ρ μ (.Assign [.Name y p] (.Call (.Name "object" fp) [] [] cpos) pos :: rest) R := by
  intro A s Q E I hQ
  refine wpAny_execs_cons (wpAny_Assign_Name (wpAny_Call_NameR (bi_name I.fr.eok I.good hk (by decide) (by decide) rfl (by decide) ?_)) hs)
  refine PySem.callWith_type rfl (evalArgs_nil3 (call_object ?_))
  have t : Step X s { s with heap := s.heap.push { cls := .type "object", data := .plain } } := new_seq
  refine (I.step t).bind (d := .addr s.heap.objs.size) hy (is_addr.mpr rfl) fun s2 t2 I2 => ?_
  exact h _ A s2 Q E I2 fun f s3 t3 r => hQ f s3 ((t.no.trans t2).trans t3) r

theorem cmp_is_self {a : Addr} : Cmp X k H .Is (.addr a) (.addr a) true := by
  intro A s Q E va vb G ia ib hQ
  rw [is_addr.mp ia, is_addr.mp ib]
  exact wpAny_is_ref_self (hQ _ (StepW.refl ..))
theorem cmp_isnot_self {a : Addr} : Cmp X k H .IsNot (.addr a) (.addr a) false := by
  intro A s Q E va vb G ia ib hQ
  rw [is_addr.mp ia, is_addr.mp ib]
  exact wpAny_isNot_ref_self (hQ _ (StepW.refl ..))
theorem cmp_is_str {x : List Nat} {a : Addr} : Cmp X k H .Is (.str x) (.addr a) false := by
  intro A s Q E va vb G ia ib hQ
  obtain ⟨t, rfl⟩ := is_str.mp ia
  rw [is_addr.mp ib]
  exact wpAny_is_other rfl (fun e => by cases e) (hQ _ (StepW.refl ..))
theorem cmp_isnot_str {x : List Nat} {a : Addr} : Cmp X k H .IsNot (.str x) (.addr a) true := by
  intro A s Q E va vb G ia ib hQ
  obtain ⟨t, rfl⟩ := is_str.mp ia
  rw [is_addr.mp ib]
  exact wpAny_isNot_other rfl (fun e => by cases e) (hQ _ (StepW.refl ..))

theorem extBut_step {h' : Heap} {tk : Nat} (he : Heap.ExtBut s.heap.objs.size s.heap h') : Step X s { s with heap := h', toks := tk } := .keeps fun b o e => he b o (Nat.ne_of_lt (Heap.lt_size e)) e
/-- two names at once -/
theorem r_tup2 {x y : Str} {px py tp pos : Pos} {j : Nat} {e : PySem.Expr} {dx dy : D} (he : EvsI X (k + 1) H env N ρ μ e (.tuple [dx, dy])) (h : Runs X (k + 1) H env N ((y, dy) :: (x, dx) :: ρ) μ rest R)
    (hx : canBind env x = true := by rfl) (hy : canBind env y = true := by rfl) (hs : swapsWithSole [.Tuple [.Name x px, .Name y py] j tp] e pos.line env = pure false := by rfl) (hw : swappedStores [.Tuple [.Name x px, .Name y py] j tp] e env = pure none := by rfl) :
    Runs X (k + 1) H env N ρ μ (.Assign [.Tuple [.Name x px, .Name y py] j tp] e pos :: rest) R := by
  intro A s Q E I hQ
  refine wpAny_execs_cons (Assign_Tuple (he A s _ E I fun v s1 i t => ?_) hs hw)
  have I1 := I.step t
  obtain ⟨a, vs, rfl, la, iv⟩ := is_tuple.mp i
  obtain ⟨v1, v2, rfl, i1, i2⟩ := isAll_two.mp iv
  have e1 : assignEach [.Name x px, .Name y py] env = [(false, assign (.Name x px) env), (false, assign (.Name y py) env)] := by rfl
  have hh := I1.good.ok.handled (Nat.succ_ne_zero _)
  have la' := la.heap
  have n1 : (assignEach [.Name x px, .Name y py] env).length = ([v1, v2].toArray).size := by rw [e1]; rfl
  have n2 : (assignEach [.Name x px, .Name y py] env).findIdx? (·.1) = none := by rw [e1]; rfl
  refine wpAny_assign_Tuple hh la' n1 n2 fun h' he' => ?_
  rw [e1]
  have t2 : Step X s1 { s1 with heap := h' } := extBut_step (tk := s1.toks) he'
  have I2 := I1.step t2
  show wpAny X.M A (do holding [v2] (assign (.Name x px) env v1); (do holding [] (assign (.Name y py) env v2); pure ())) _ E _
  refine wpAny_bind (wpAny_holding (wpAny_assign_Name (I2.bind hx (i1.step I1.good t2) fun s3 t3 I3 => wpAny_bind (wpAny_holding (wpAny_assign_Name (I3.bind hy ((i2.step I1.good t2).stepW I2.good t3 I2.wok) fun s4 t4 I4 => wpAny_pure ?_))))))
  exact h A s4 Q E I4 fun f s5 t5 r => hQ f s5 ((((t.trans t2).no.trans t3).trans t4).trans t5) r
theorem r_tup2s {x y : Str} {px py tp pos : Pos} {j : Nat} {e : PySem.Expr} {dx dy : D} (he : EvsI X (k + 1) H env N ρ μ e (.tuple [dx, dy])) (h : Runs X (k + 1) H env N ((x, dx) :: (y, dy) :: ρ) μ rest R)
    (hx : canBind env x = true := by rfl) (hy : canBind env y = true := by rfl) (hs : swapsWithSole [.Tuple [.Name x px, .Name y py] j tp] e pos.line env = pure false := by rfl) (hw : swappedStores [.Tuple [.Name x px, .Name y py] j tp] e env = pure (some [x, y]) := by rfl) :
    Runs X (k + 1) H env N ρ μ (.Assign [.Tuple [.Name x px, .Name y py] j tp] e pos :: rest) R := by
  intro A s Q E I hQ
  refine wpAny_execs_cons (Assign_Tuple_swapped (he A s _ E I fun v s1 i t => ?_) hs hw)
  have I1 := I.step t
  obtain ⟨a, vs, rfl, la, iv⟩ := is_tuple.mp i
  obtain ⟨v1, v2, rfl, i1, i2⟩ := isAll_two.mp iv
  have hh := I1.good.ok.handled (Nat.succ_ne_zero _)
  have la' := la.heap
  have hn : [x, y].length = ([v1, v2] : List Value).toArray.size := by simp
  rw [hn]
  refine unpackItems_tuple hh la' fun h' he' => ?_
  have t2 : Step X s1 { s1 with heap := h' } := extBut_step (tk := s1.toks) he'
  have I2 := I1.step t2
  show wpAny X.M A (do holding [v1] (bindName env y v2); (do holding [] (bindName env x v1); pure ())) _ E _
  refine wpAny_bind (wpAny_holding (wpAny_bindName (I2.bind hy (i2.step I1.good t2) fun s3 t3 I3 => wpAny_bind (wpAny_holding (wpAny_bindName (I3.bind hx ((i1.step I1.good t2).stepW I2.good t3 I2.wok) fun s4 t4 I4 => wpAny_pure ?_))))))
  exact h A s4 Q E I4 fun f s5 t5 r => hQ f s5 ((((t.trans t2).no.trans t3).trans t4).trans t5) r
end
end Mine
end

section
open PySem PySem.W PyProof.Rows PySem.Calls
set_option Elab.async false
set_option linter.unusedVariables false
namespace Mine
set_option maxRecDepth 100000
set_option maxHeartbeats 400000
section
variable {X : Cx} {k : Nat} {H : List Addr} {env : Env} {N : Nat} {ρ : Ro} {μ : Mu} {rest : List Stmt} {R : Post} {A : Around} {s : Shared} {a : Addr} {E : Value → Shared → Prop}
/-- f'a{e}b' -/
theorem ev_fstr {x y : Str} {i j : Nat} {p1 p2 p3 pos : Pos} {e : PySem.Expr} {d : List Nat} (he : Evs X k H env ρ e (.str d)) (hz : x.length + d.length + y.length ≤ sizeLine) :
    Evs X k H env ρ (.JoinedStr [.Constant (.str x) i p1, .FormattedValue e (-1) none p2, .Constant (.str y) j p3] pos) (.str (T x ++ d ++ T y)) := by
  intro A s Q E G S0 hQ
  have e0 : Str.empty ++ x = x := Str.empty_append x
  refine JoinedStr_many (joinParts_cons (wpAny_Constant_str ?_))
  show (Str.empty ++ x).length ≤ sizeLine ∧ _
  rw [e0]
  have t0 : Step X s { s with toks := s.toks + 1 } := StepW.toks ..
  refine ⟨by omega, joinParts_cons (FormattedValue_plain (he A _ _ E (G.step t0) (S0.step G t0) fun v s1 i1 t1 => ?_))⟩
  obtain ⟨t, rfl⟩ := is_str.mp i1
  have l1 : (x ++ S d).length = x.length + d.length := by rw [Str.length_append]; congr 1
  refine formatField_str (fun t' tk => ⟨by show (x ++ S d).length ≤ _; rw [l1]; omega, ?_⟩) (by rw [S_length]; omega)
  refine joinParts_cons (wpAny_Constant_str ?_)
  have l2 : ((x ++ S d) ++ y).length = x.length + d.length + y.length := by rw [Str.length_append, l1]
  refine ⟨by show ((x ++ S d) ++ y).length ≤ _; rw [l2]; exact hz, joinParts_nil ?_ (by show ((x ++ S d) ++ y).length ≤ _; rw [l2]; exact hz)⟩
  have e3 : (x ++ S d) ++ y = S (T x ++ d ++ T y) := by
    rw [← S_append, ← S_append]
  rw [show (⟨d.toArray⟩ : Str) = S d from rfl, e3]
  exact hQ _ _ (is_str.mpr ⟨_, rfl⟩) ((t0.trans t1).trans (StepW.toks X No s1 _))
/-- isinstance(x, str), of a text -/
theorem ts_isStr {x : Str} {p1 p2 p3 pos : Pos} {d : List Nat} (O : EnvOk env) (hx : ρ.lookup x = some (.str d)) (hk : env.kindOf "isinstance" = some .globalImplicit := by rfl) (hk2 : env.kindOf "str" = some .globalImplicit := by rfl) (hd : (x == ("__debug__" : Str)) = false := by decide) :
    Tst X k H env ρ (.Call (.Name "isinstance" p1) [.Name x p2, .Name "str" p3] [] pos) true := by
  refine ts_val (a := .bool true) (fun A s Q E G S0 hQ => ?_) tru_bool rfl
  refine wpAny_Call_NameR (bi_name O G hk (by decide) (by decide) rfl (by decide) (Calls.callWith_builtin rfl (Calls.evalArgs_plain ?_)))
  refine Calls.spliced_cons ((ev_name (X := X) (k := k) (H := H) O hx hd) A s _ E G S0 fun v s1 i1 t1 => Calls.spliced_cons (bi_name O (G.step t1) hk2 (by decide) (by decide) rfl (by decide) (Calls.spliced_nil ?_)))
  obtain ⟨t, rfl⟩ := is_str.mp i1
  exact PySem.IsiPair.str_str (hQ _ _ (is_bool.mpr rfl) t1)
/-- replace where there is nothing to replace -/
theorem m_replace : MethOk "str" "replace" "str.replace" := ⟨F.plainAttrs_str, F.slot_str_replace, by rfl⟩
theorem c_replace0 {x y z : List Nat} (h : (Builtin.Str.occurrences (S x) (S y) 0 (S x).length ((S x).length + 1)).isEmpty = true) : CallOk X k H (.builtin "str.replace") [.str x, .str y, .str z] (.str x) := by
  intro A s Q E vs G i hQ
  obtain ⟨v, u, w, rfl, i1, i2, i3⟩ := isAll_three.mp i
  obtain ⟨t, rfl⟩ := is_str.mp i1
  obtain ⟨t2, rfl⟩ := is_str.mp i2
  obtain ⟨t3, rfl⟩ := is_str.mp i3
  have hc : ((Builtin.Str.occurrences (S x) (S y) 0 (S x).length ((S x).length + 1)).isEmpty || ((S y).length == 0 && (S z).length == 0)) = true := by rw [h]; rfl
  refine call_gives F.slot_str_replace (typeIs_str _ _ _) F.entry_str_replace (F.args_str_replace_3 _ _ _) (gives_str_replace (S x) (S y) (S z) t t2 t3 fun q => absurd hc (by rw [q]; decide)) ?_
  rw [if_pos hc]
  exact hQ _ _ (is_str.mpr ⟨t, rfl⟩) (StepW.refl ..)
end
end Mine
end

section
open PySem PySem.W PyProof.Rows PySem.Calls
set_option Elab.async false
set_option linter.unusedVariables false
namespace Mine
set_option maxRecDepth 100000
set_option maxHeartbeats 400000
section
variable {prog : Program} {w : World} {A : Around} {E : Value → Shared → Prop} {s : Shared} {da : Addr} {f : Int → Option Value} {c : Nat}
theorem sub_KeyError_Lookup : isSubtype (.type "KeyError") (.type "LookupError") = pure true := by rw [isSubtype_type]; kernel_rfl
theorem lookup_miss {Q : Builtin.Str.Mapped → Shared → Prop} (hm : s.heap.MapOf (intKind prog w) da f) (hd : (da == sysModules) = false) (hh : A.handled = none) (hv : f c = none)
    (h : ∀ h' tk, (∀ b o, s.heap.get? b = some o → h'.get? b = some o) → Q .keep { s with heap := h', toks := tk }) : wpAny (model prog w) A (Builtin.Str.tableLookup (.ref da) c) Q E s := by
  obtain ⟨hp, g, d, tk, os⟩ := s
  unfold Builtin.Str.tableLookup
  refine wpAny_bind (wpAny_attempt (wpAny_bind (wpAny_mkInt (wpAny_getItem_missing_of (knd := intKind prog w) (k := (c : Int)) (by simp [intKind, Value.isInt]) hd hh hm hv fun h' e he => ?_))))
  have f1 := sub_KeyError_Lookup
  obtain ⟨ob, t, h1, h2, h3⟩ := he.there
  have hT : (⟨h', g, d, tk + 1 + 1, os⟩ : Shared).TypeIs (.ref e) "KeyError" := ⟨_, h1, h2⟩
  dsimp only
  repeat (any_goals (first | assumption | wp_step))
  exact h h' _ he.keeps
theorem lookup_hit {t : Str} {tt : Tok} {Q : Builtin.Str.Mapped → Shared → Prop} (hm : s.heap.MapOf (intKind prog w) da f) (hv : f c = some (.str t tt))
    (h : ∀ tk, Q (.text t) { s with toks := tk }) : wpAny (model prog w) A (Builtin.Str.tableLookup (.ref da) c) Q E s := by
  obtain ⟨hp, g, d, tk, os⟩ := s
  unfold Builtin.Str.tableLookup
  refine wpAny_bind (wpAny_attempt (wpAny_bind (wpAny_mkInt (wpAny_getItem_of (knd := intKind prog w) (k := (c : Int)) (by simp [intKind, Value.isInt]) hm hv ?_))))
  dsimp only
  repeat (any_goals (first | assumption | wp_step))
  exact h _
noncomputable abbrev TrSpec (prog : Program) (w : World) (da : Addr) (f : Int → Option Value) (x : Str) : PySem.Spec := fun A R s => A.handled = none ∧ s.heap.MapOf (intKind prog w) da f ∧ ∀ h' tk t', (∀ b o, s.heap.get? b = some o → h'.get? b = some o) → R (.ok (.ret (.str x t'))) { s with heap := h', toks := tk }
theorem translate_miss {t : Tok} (hlow : c < 128) (hd : (da == sysModules) = false) (hv : f c = none) : MeetsIn prog w (Builtin.«str.translate» ⟨[.str (S [c]) t, .ref da], []⟩) (TrSpec prog w da f (S [c])) := by
    refine .of_wp fun A R s hs => ?_
    obtain ⟨hp, g, d, tk, os⟩ := s
    obtain ⟨hh, hm, hs⟩ := hs
    have hh' : A.in1.handled = none := hh
    unfold Builtin.«str.translate»
    repeat (any_goals (first | assumption | ((with_reducible show wpAny _ _ (Builtin.Str.tableLookup _ _) _ _ _); refine lookup_miss (c := c) hm hd hh' hv (fun h' tk hk => ?_)) | wp_step))
    exact ⟨_, rfl, hs h' _ _ hk⟩
theorem translate_high {t : Tok} (hhigh : ¬ c < 128) (hd : (da == sysModules) = false) (hv : f c = none) : MeetsIn prog w (Builtin.«str.translate» ⟨[.str (S [c]) t, .ref da], []⟩) (TrSpec prog w da f (S [c])) := by
    refine .of_wp fun A R s hs => ?_
    obtain ⟨hp, g, d, tk, os⟩ := s
    obtain ⟨hh, hm, hs⟩ := hs
    have hh' : A.in1.handled = none := hh
    unfold Builtin.«str.translate»
    repeat (any_goals (first | assumption | ((with_reducible show wpAny _ _ (Builtin.Str.tableLookup _ _) _ _ _); refine lookup_miss (c := c) hm hd hh' hv (fun h' tk hk => ?_)) | wp_step))
    exact ⟨_, rfl, hs h' _ _ hk⟩
theorem translate_hit {t tt : Tok} (hlow : c < 128) (hv : f c = some (.str (S [92, c]) tt)) : MeetsIn prog w (Builtin.«str.translate» ⟨[.str (S [c]) t, .ref da], []⟩) (TrSpec prog w da f (S [92, c])) := by
    refine .of_wp fun A R s hs => ?_
    obtain ⟨hp, g, d, tk, os⟩ := s
    obtain ⟨hh, hm, hs⟩ := hs
    unfold Builtin.«str.translate»
    repeat (any_goals (first | assumption | ((with_reducible show wpAny _ _ (Builtin.Str.tableLookup _ _) _ _ _); refine lookup_hit (c := c) hm hv (fun tk => ?_)) | wp_step))
    exact ⟨_, rfl, hs hp _ _ fun b o e => e⟩
end
noncomputable def specials : List Nat := [40, 41, 91, 93, 123, 125, 63, 42, 43, 45, 124, 94, 36, 92, 46, 38, 126, 35, 32, 9, 10, 13, 11, 12]
noncomputable def escF (c : Nat) : List Nat := if c ∈ specials then [92, c] else [c]
theorem specials_low : ∀ c ∈ specials, c < 128 := by decide
structure SpecMap (X : Cx) (da : Addr) : Prop where
  map : ∃ f, (∀ h : Heap, X.K.In h → h.MapOf (intKind X.prog X.w) da f) ∧ (∀ c : Nat, c ∈ specials → ∃ t, f (c : Int) = some (.str (S [92, c]) t)) ∧ ∀ c : Nat, c ∉ specials → f (c : Int) = none
  ne : (da == sysModules) = false
  glob : X.mg "_special_chars_map" = some (.ref da)
section
variable {X : Cx} {k : Nat} {H : List Addr} {env : Env} {ρ : Ro} {da : Addr} {c : Nat}
theorem ev_global {x : Str} {pos : Pos} {a : Addr} (O : EnvOk env) (hg : X.mg x = some (.ref a)) (hk : env.kindOf x = some .globalImplicit := by rfl) (hd : (x == ("__debug__" : Str)) = false := by decide) : Evs X k H env ρ (.Name x pos) (.addr a) :=
  fun A s Q E G S hQ => Calls.Name_function_global O.kind hk (Calls.loadGlobal_global (by rw [O.globals]; exact G.base.g) hg (hQ _ _ (is_addr.mpr rfl) (StepW.refl ..))) hd
theorem m_translate : MethOk "str" "translate" "str.translate" := ⟨F.plainAttrs_str, F.slot_str_translate, F.type_str_translate⟩
theorem c_translate (SM : SpecMap X da) : CallOk X (k + 1) H (.builtin "str.translate") [.str [c], .addr da] (.str (escF c)) := by
  intro A s Q E vs G i hQ
  obtain ⟨v, u, rfl, i1, i2⟩ := isAll_two.mp i
  obtain ⟨t, rfl⟩ := is_str.mp i1
  rw [is_addr.mp i2]
  obtain ⟨f, h1, h2, h3⟩ := SM.map
  have fin : ∀ x, x = escF c → TrSpec X.prog X.w da f (S x) A (wants Q E) s := fun x hx => ⟨G.ok.handled (Nat.succ_ne_zero _), h1 _ G.base.K, fun h' tk t' hk => hQ _ _ (is_str.mpr ⟨t', by rw [← hx]⟩) (.keeps hk)⟩
  by_cases hc : c ∈ specials
  · obtain ⟨tt, hv⟩ := h2 c hc
    exact call_meetsIn F.slot_str_translate (typeIs_str _ _ _) F.entry_str_translate (F.args_str_translate_2 _ _) (translate_hit (specials_low c hc) hv) (fin _ (by rw [escF, if_pos hc]))
  · by_cases hl : c < 128
    · exact call_meetsIn F.slot_str_translate (typeIs_str _ _ _) F.entry_str_translate (F.args_str_translate_2 _ _) (translate_miss hl SM.ne (h3 c hc)) (fin _ (by rw [escF, if_neg hc]))
    · exact call_meetsIn F.slot_str_translate (typeIs_str _ _ _) F.entry_str_translate (F.args_str_translate_2 _ _) (translate_high hl SM.ne (h3 c hc)) (fin _ (by rw [escF, if_neg hc]))
noncomputable abbrev nEscape : Nat := 10
theorem escape_runs {L : Addr} {q : Str} {fa : Addr} {cd : Value} (SM : SpecMap X da) : Runs X (k + 1) H (fenv (scopeAt nEscape) L q fa cd) L [("pattern", .str [c])] [] (bodyAt nEscape) (Ret H (.str (escF c))) := by
  have O : EnvOk (fenv (scopeAt nEscape) L q fa cd) := ⟨rfl, rfl, rfl⟩
  refine r_if (Tst.i (ts_isStr O rfl)) (fun _ => ?_) (fun h => by cases h)
  exact r_retV (Evs.i (ev_meth m_translate (ev_name O rfl) rfl (evs_cons (ev_global O SM.glob) evs_nil) (c_translate SM)))
end
end Mine
end

section
open PySem PySem.W PyProof.Rows PySem.Calls
set_option Elab.async false
set_option linter.unusedVariables false
namespace Mine
set_option maxRecDepth 100000
set_option maxHeartbeats 400000
open Builtin Builtin.Re
noncomputable def reCodes : Array Nat := #[14, 14, 4, 1, 1, 9, 0, 64, 0, 1342177280, 0, 0, 0, 0, 0, 17, 0, 13, 11, 9, 0, 64, 0, 1342177280, 0, 0, 0, 0, 0, 17, 1, 1]
noncomputable def reVals : Array Value := #[.int 14 0, .int 14 0, .int 4 0, .int 1 0, .int 1 0, .int 9 0, .int 0 0, .int 64 0, .int 0 0, .int 1342177280 0, .int 0 0, .int 0 0, .int 0 0, .int 0 0, .int 0 0, .int 17 0, .int 0 0, .int 13 0, .int 11 0, .int 9 0, .int 0 0, .int 64 0, .int 0 0, .int 1342177280 0, .int 0 0, .int 0 0, .int 0 0, .int 0 0, .int 0 0, .int 17 0, .int 1 0, .int 1 0]
noncomputable def patObj (ca : Addr) (t1 t2 t3 t4 : Tok) : Obj := { cls := .type "re.Pattern", data := .fields #[.str "([&~|])" t1, .int 32 t2, .int 1 t3, .none, .none, .ref ca, .int 0 t4] }
noncomputable def failsB (m : Sre.M) : Bool := match m.outcome with | some .failed => true | _ => false
noncomputable def failsAt (c : Nat) : Prop := failsB ((Sre.forSearch reCodes #[c] 1 0 1 false).runFor reTurnSteps) = true
theorem fails_42 : failsAt 42 := by unfold failsAt; decide +kernel
theorem fails_63 : failsAt 63 := by unfold failsAt; decide +kernel
theorem fails_91 : failsAt 91 := by unfold failsAt; decide +kernel
theorem failsB_eq {m : Sre.M} (h : failsB m = true) : m.outcome = some .failed := by
  unfold failsB at h
  split at h
  · assumption
  · cases h
section
variable {M : Model} {A : Around} {E : Value → Shared → Prop} {s : Shared}
theorem rules_run {α : Type} {body : α → PUnit → Sem (ForInStep PUnit)} (hb : ∀ i r (Q : ForInStep PUnit → Shared → Prop), Q (.yield PUnit.unit) s → wpAny M A (body i r) Q E s) {Q : PUnit → Shared → Prop} (h : Q PUnit.unit s) : ∀ l : List α, wpAny M A (forIn l PUnit.unit body) Q E s
  | [] => wpAny_pure h
  | i :: l => by
    rw [List.forIn_cons]
    exact wpAny_bind (hb _ _ _ (rules_run hb h l))
theorem run_fails {c : Nat} (hc : failsAt c) {Q : Option Sre.M → Shared → Prop} (h : Q none s) : wpAny M A (reRunToEnd (Sre.forSearch reCodes #[c] 1 0 1 false)) Q E s := by
  unfold failsAt at hc
  unfold reRunToEnd
  have h0 := failsB_eq hc
  have hd : reDrive (2 ^ 64) (Sre.forSearch reCodes #[c] 1 0 1 false) = pure ((Sre.forSearch reCodes #[c] 1 0 1 false).runFor reTurnSteps) := by
    rw [show (2 : Nat) ^ 64 = 18446744073709551615 + 1 from rfl, reDrive]
    rw [if_pos (by rw [h0]; rfl)]
  rw [hd]
  refine wpAny_bind (wpAny_pure ?_)
  generalize (Sre.forSearch reCodes #[c] 1 0 1 false).runFor reTurnSteps = m at *
  refine wpAny_bind (rules_run (fun i r Q hq => ?_) ?_ _)
  · split
    · exact wpAny_bind (wpAny_rule (wpAny_pure hq))
    · exact wpAny_pure hq
  · rw [h0]
    exact wpAny_pure h
end
theorem slot_sub : Slot "re.Pattern" "sub" "re.Pattern.sub" :=
  .of (owner := "re.Pattern") (n := "sub") (by rw [typeLookup_type, builtinLookup_eq_fast]; kernel_rfl) (by decide +kernel) (by decide +kernel) (by decide +kernel)
    (by first | exact .inl (by decide +kernel) | exact .inr (by decide +kernel)) (by rw [isSubtype_type]; kernel_rfl)
theorem entry_sub : entryFor table "re.Pattern.sub" = some Builtin.«re.Pattern.sub» := entryFor_of_tree (by kernel_rfl)
theorem entry_subloop : entryFor table "re.Pattern.sub.loop" = some Builtin.«re.Pattern.sub.loop» := entryFor_of_tree (by kernel_rfl)
theorem type_sub : typeOf (.builtin "re.Pattern.sub") = pure (.type "method_descriptor") := by show builtinType _ = _; rw [builtinType_eq_fast]; kernel_rfl
theorem args_sub (a b c : Value) : argsOk "re.Pattern.sub" ⟨[a, b, c], []⟩ := by unfold argsOk; kernel_rfl
theorem fn_call : typeLookup (.type "function") "__call__" = pure (some (.builtin "function.__call__")) := by rw [typeLookup_type, builtinLookup_eq_fast]; kernel_rfl
theorem pa_pattern : PlainAttrs "re.Pattern" := ⟨⟨"object.__getattribute__", by rw [typeLookup_type, builtinLookup_eq_fast]; kernel_rfl, by decide +kernel⟩, by rw [typeLookup_type, builtinLookup_eq_fast]; kernel_rfl⟩
section
variable {prog : Program} {w : World} {A : Around} {E : Value → Shared → Prop} {s : Shared} {pa ca f : Addr} {t1 t2 t3 t4 : Tok} {c : Nat}
theorem whole_target {t : Tok} {Q : ReTarget → Shared → Prop} (hp : s.heap.get? pa = some (patObj ca t1 t2 t3 t4)) (hc : s.heap.get? ca = some { cls := .type "tuple", data := .seq reVals })
    (h : Q { pattern := .ref pa, string := .str (S [c]) t, code := reCodes, text := #[c], kind := 0, groups := 1, pos := 0, lim := 1 } s) : wpAny (model prog w) A (reWholeTarget (.ref pa) (.str (S [c]) t)) Q E s := by
  unfold reWholeTarget
  repeat (any_goals (first | assumption | wp_step))
  have e : Array.map (fun x => x.toNat) (Array.map reRawOf ((some reVals).getD #[])) = reCodes := by decide +kernel
  rw [e]
  exact h
theorem join_code {j x : Str} {l : Addr} {n : Nat} {tj tx : Tok} {R : Result → Shared → Prop} (hl : s.heap.get? l = some { cls := .type "list", data := .seq #[.str x tx] n }) (h : R (.ok (.ret (.str x tx))) s) :
    codeAny (model prog w) A (.call (.builtin "str.join") ⟨[.str j tj, .ref l], []⟩) R s := by
  refine codeAny_call_builtin F.slot_str_join.plain F.entry_str_join (F.slot_str_join.check _ _ _ _ _ _ _ _ (typeIs_str s j tj) (F.args_str_join_2 _ _) ?_)
  have hT : s.TypeIs (.ref l) "list" := ⟨_, hl, rfl⟩
  unfold Builtin.«str.join»
  repeat (any_goals (first | assumption | wp_step))
theorem sub_loop {t : Tok} {l : Addr} (hc : failsAt c) : MeetsIn prog w (Builtin.«re.Pattern.sub.loop» ⟨[.ref pa, .str (S [c]) t, .ref f, rawInt 1, rawInt 0, rawInt 0, rawInt 0, rawInt 0, .bool false, .ref l, .bool false], []⟩)
    (fun A R s' => ∃ n, s'.heap.get? pa = some (patObj ca t1 t2 t3 t4) ∧ s'.heap.get? ca = some { cls := .type "tuple", data := .seq reVals } ∧ s'.heap.get? l = some { cls := .type "list", data := .seq #[] n } ∧
      ∀ h' tk t', (∀ b o, b ≠ l → s'.heap.get? b = some o → h'.get? b = some o) → R (.ok (.ret (.str (S [c]) t'))) { s' with heap := h', toks := tk }) := by
  refine .of_wp fun A R s' hs => ?_
  obtain ⟨n, h1, h2, h3, hs⟩ := hs
  unfold Builtin.«re.Pattern.sub.loop»
  refine wpAny_bind (whole_target h1 h2 ?_)
  repeat (any_goals (first | assumption | ((with_reducible show wpAny _ _ (reNextFound _ _ _) _ _ _); refine run_fails hc ?_) | wp_step))
  have hs3 : (s'.heap.update l (Obj.mapSeq fun x => x.push (Value.str (S [c]) s'.toks))).get? l = some { cls := .type "list", data := .seq #[.str (S [c]) s'.toks] (n + 1) } := by
    rw [Heap.get?_update_self _ h3 (by rw [Obj.mapSeq_push_plain]; rfl), Obj.mapSeq_push_plain]; rfl
  refine join_code (x := S [c]) (tx := s'.toks) (n := n + 1) hs3 ?_
  exact wpAny_pure ⟨_, rfl, hs _ _ _ fun b o hb e => ((Heap.SameBut.update (a := l) ..).2 b hb).trans e⟩
theorem quiet_loop {as : Args} : (Code.builtin "re.Pattern.sub.loop" as).quiet = true := Code.quiet_builtin _ (by decide +kernel)
theorem sub_meets {t : Tok} {of : Obj} (hc : failsAt c) : MeetsIn prog w (Builtin.«re.Pattern.sub» ⟨[.ref pa, .ref f, .str (S [c]) t], []⟩)
    (fun A R s' => s'.heap.get? pa = some (patObj ca t1 t2 t3 t4) ∧ s'.heap.get? ca = some { cls := .type "tuple", data := .seq reVals } ∧ s'.heap.get? f = some of ∧ of.cls = .type "function" ∧
      ∀ h' tk t', (∀ b o, s'.heap.get? b = some o → h'.get? b = some o) → R (.ok (.ret (.str (S [c]) t'))) { s' with heap := h', toks := tk }) := by
  intro A R s' hs
  obtain ⟨h1, h2, h3, h4, hs⟩ := hs
  have hT : s'.TypeIs (.ref f) "function" := ⟨_, h3, h4⟩
  have f1 := fn_call
  have f2 : isSubtype (.type "str") (.type "bytearray") = pure false := by rw [isSubtype_type]; kernel_rfl
  unfold Builtin.«re.Pattern.sub» reSubstitute
  repeat (any_goals (first | assumption | ((with_reducible show wpAny _ _ (reWholeTarget _ _) _ _ _); refine whole_target h1 h2 ?_) | wp_step))
  have keep : ∀ {b o}, s'.heap.get? b = some o → (s'.heap.push { cls := .type "list", data := .seq #[] }).get? b = some o := fun e => Heap.get?_push_of_some _ e
  refine ⟨quiet_loop, codeAny_builtin entry_subloop (sub_loop (ca := ca) (t1 := t1) (t2 := t2) (t3 := t3) (t4 := t4) hc A R _ ⟨0, keep h1, keep h2, Heap.get?_push_size _ rfl, fun h' tk t' hk => hs h' tk t' fun b o e => hk b o (Nat.ne_of_lt (Heap.lt_size e)) (keep e)⟩)⟩
end
section
variable {X : Cx} {k : Nat} {H : List Addr} {A : Around} {s : Shared} {Q : Value → Shared → Prop} {E : Value → Shared → Prop}
theorem make_lam {Tb : Tab} {env : Env} {qual : Str} {params : Arguments} {body : PySem.Expr} {scope : Scope} {clos : List (Str × Addr)} {pos : Pos} {firstLine : Nat} (hT : Tb ∈ X.tabs) (hap : TabsApart X) (BK : BuiltK X) (G : Good X k H A s)
    (hcode : env.code = .ref Tb.c) (hg : env.globals = mainGlobals) (h1 : pos.line = Tb.line) (h2 : pos.col = Tb.col) (hq : qual = Tb.qual) (hcl : closureFor scope env = pure clos)
    (hQ : ∀ f s' of, Step X s s' → s'.heap.get? f = some of → of.cls = .type "function" → Q (.ref f) s') :
    wpAny X.M A (makeFunction "<lambda>" qual params (.expr body) scope env [] [] [] pos firstLine) Q E s := by
  have B := G.base
  obtain ⟨bm, ob, b1, b2, b3, b4, b5, b6, b7⟩ := BK
  have hP : mainGlobals ≠ Tb.t := fun q => B.low3.2.2.2.1 (q ▸ List.mem_map.mpr ⟨Tb, hT, rfl⟩)
  have hb : s.heap.BuiltinsAt X.mg Tb.t := ⟨bm, ob, b1, b2, b3, fun q => (B.low _ _ b4).2 (q ▸ List.mem_map.mpr ⟨Tb, hT, rfl⟩), B.K _ _ b4, b5, b6, b7⟩
  obtain ⟨C, hh⟩ := B.tabs Tb hT
  rcases hh with h0 | ⟨c', h0, hr⟩
  · refine kla_makeFunction hcl hg B.g hcode C h0 trivial (by rfl) hP hb fun c' ctv h' tk hx hge hlt hrec htb => ?_
    rw [Array.empty_append, h1, h2] at htb
    have hrec' : h'.CodeRec (.ref c') Tb.qual := hq ▸ hrec
    exact hQ _ _ _ (.of ((ext_tab hT hap B hx htb hrec').trans (Ext.push _ _))) (Heap.get?_push_size _ rfl) rfl
  · refine kla_makeFunctionHit (cv := .ref c') hcl hg B.g hcode C h0 trivial (by
      show codeAmong pos [rawInt Tb.line, rawInt Tb.col, .ref c'] = _
      rw [← h1, ← h2]
      simp [codeAmong, rawInt]) hb fun ctv h' tk hk hle => ?_
    exact hQ _ _ _ (.of ((Ext.of hk).trans (Ext.push _ _))) (Heap.get?_push_size _ rfl) rfl

structure PatK (X : Cx) (pa : Addr) : Prop where
  obj : ∃ ca t1 t2 t3 t4, X.K.lookup pa = some (patObj ca t1 t2 t3 t4) ∧ X.K.lookup ca = some { cls := .type "tuple", data := .seq reVals }
  glob : X.mg "_twin_re_1" = some (.ref pa)
structure LamK (X : Cx) (env : Env) (pos : Pos) : Prop where
  tab : ∃ Tb ∈ X.tabs, env.code = .ref Tb.c ∧ pos.line = Tb.line ∧ pos.col = Tb.col ∧ env.qual ++ "<lambda>" = Tb.qual
  apart : TabsApart X
  built : BuiltK X
theorem ev_resub {env : Env} {ρ : Ro} {pa : Addr} {c : Nat} {y : Str} {p1 p2 p3 p4 p5 : Pos} {params : Arguments} {body : PySem.Expr} {scope : Scope} {clos : List (Str × Addr)} (PK : PatK X pa) (LK : LamK X env p3) (O : EnvOk env) (hc : failsAt c) (hy : ρ.lookup y = some (.str [c]))
    (hk : env.kindOf "_twin_re_1" = some .globalImplicit := by rfl) (hdef : defaultsOf params env = ([], []) := by rfl) (hcl : closureFor scope env = pure clos := by rfl) (hd : (y == ("__debug__" : Str)) = false := by decide)
    (hbase : attributeBase (.Name "_twin_re_1" p1) "sub" env (eval (.Name "_twin_re_1" p1) env) = eval (.Name "_twin_re_1" p1) env := by rfl) (hline : (p2.endLine == p5.line) = true := by rfl)
    (hse : starEach [.Lambda params body scope p3, .Name y p4] env = [(false, eval (.Lambda params body scope p3) env), (false, eval (.Name y p4) env)] := by rfl)
    (hfew : ((backTo p5 (starEach [.Lambda params body scope p3, .Name y p4] env)).all (fun x => !x.1) && (backToKw p5 (keywordEach [] env)).all (fun x => x.1.isSome)
      && decide (([.Lambda params body scope p3, .Name y p4] : List PySem.Expr).length + ([] : List Keyword).length + (if ([] : List Keyword).isEmpty then 0 else 1) < 30)) = true := by rfl) :
    Evs X k H env ρ (.Call (.Attribute (.Name "_twin_re_1" p1) "sub" p2) [.Lambda params body scope p3, .Name y p4] [] p5) (.str [c]) := by
  intro A s Q E G S0 hQ
  obtain ⟨ca, t1, t2, t3, t4, k1, k2⟩ := PK.obj
  obtain ⟨Tb, hT, l1, l2, l3, l4⟩ := LK.tab
  refine wpAny_Call_method_lateS hbase hfew hline ((ev_global (X := X) (k := k) (H := H) (ρ := ρ) O PK.glob hk) A s _ E G S0 fun v1 s1 i1 ts1 => ?_)
  rw [is_addr.mp i1]
  have G1 := G.step ts1
  have hp1 := G1.base.K _ _ k1
  refine ⟨"re.Pattern", "re.Pattern.sub", pa_pattern, slot_sub, type_sub, ⟨_, hp1, rfl⟩, (fun a e => by cases e; exact ⟨_, hp1, rfl⟩), ?_⟩
  rw [hse]
  refine Calls.callWith_builtin rfl (Calls.evalArgs_plain (Calls.spliced_cons (kla_eval hdef (make_lam hT LK.apart LK.built G1 l1 O.globals l2 l3 l4 hcl fun f s2 of ts2 hf hcf => ?_))))
  have G2 := G1.step ts2
  refine Calls.spliced_cons ((ev_name (X := X) (k := k) (H := H) O hy hd) A s2 _ E G2 ((S0.step G ts1).step G1 ts2) fun v3 s3 i3 ts3 => Calls.spliced_nil ?_)
  have G3 := G2.step ts3
  obtain ⟨t, rfl⟩ := is_str.mp i3
  have nf : f ∉ X.TB := fun q => by
    obtain ⟨us, e⟩ := G2.base.tabFields q
    rw [hf] at e; cases e; cases hcf
  obtain ⟨sl, hf3⟩ := (ts3.ext.keep _ _ (fun q => q) nf hf).1
  exact call_meetsIn slot_sub ⟨_, G3.base.K _ _ k1, rfl⟩ entry_sub (args_sub _ _ _) (sub_meets hc) ⟨G3.base.K _ _ k1, G3.base.K _ _ k2, hf3, hcf, fun h' tk t' hk => hQ _ _ (is_str.mpr ⟨t', rfl⟩) (((ts1.trans ts2).trans ts3).trans (.keeps hk))⟩
end
end Mine
end

section
open PySem PySem.W PyProof.Rows PySem.Calls
set_option Elab.async false
set_option linter.unusedVariables false
namespace Mine
set_option maxRecDepth 10000
set_option maxHeartbeats 400000

/-! a pattern's places -/
noncomputable def patL (l : List Nat) : List Nat := (l.flatMap fun c => 42 :: brk c) ++ [42]
noncomputable def off (l : List Nat) (j : Nat) : Nat := ((l.take j).flatMap fun c => 42 :: brk c).length
theorem fold_flat (l : List Nat) : ∀ a : List Nat, (l.map brk).foldl (fun acc q => acc ++ [42] ++ q) a = a ++ l.flatMap fun c => 42 :: brk c := by
  induction l with
  | nil => intro a; simp
  | cons c r ih => intro a; rw [List.map_cons, List.foldl_cons, ih]; simp
theorem patF_eq {l : List Nat} (h : l ≠ []) : patF l = patL l := by
  cases l with
  | nil => exact absurd rfl h
  | cons c r =>
    show [42] ++ (r.map brk).foldl (fun acc q => acc ++ [42] ++ q) (brk c) ++ [42] = _
    rw [fold_flat]; simp [patL]
theorem off_zero (l : List Nat) : off l 0 = 0 := by simp [off]
theorem off_succ {l : List Nat} {j c : Nat} (h : l[j]? = some c) : off l (j + 1) = off l j + 1 + (brk c).length := by
  unfold off
  rw [List.take_add_one, h]
  simp [List.flatMap_append]; omega
theorem pat_split {l : List Nat} {j c : Nat} (h : l[j]? = some c) : ∃ A B, patL l = A ++ ((42 :: brk c) ++ (42 :: B)) ∧ A.length = off l j := by
  obtain ⟨hj, hc⟩ := List.getElem?_eq_some_iff.mp h
  have e : l = l.take j ++ c :: l.drop (j + 1) := by rw [← hc, ← List.drop_eq_getElem_cons hj, List.take_append_drop]
  have e2 : ∃ B, ((l.drop (j + 1)).flatMap fun c => 42 :: brk c) ++ [42] = 42 :: B := by
    cases l.drop (j + 1) with
    | nil => exact ⟨[], rfl⟩
    | cons d r => exact ⟨_, rfl⟩
  obtain ⟨B, hB⟩ := e2
  refine ⟨(l.take j).flatMap fun c => 42 :: brk c, B, ?_, rfl⟩
  unfold patL
  conv => lhs; rw [e]
  rw [List.flatMap_append, List.flatMap_cons, List.append_assoc, List.append_assoc, hB]
theorem pat_end (l : List Nat) : patL l = (l.flatMap fun c => 42 :: brk c) ++ [42] ∧ (l.flatMap fun c => 42 :: brk c).length = off l l.length := ⟨rfl, by rw [off, List.take_length]⟩
theorem pat_star {l : List Nat} {j : Nat} (h : j ≤ l.length) : (patL l)[off l j]? = some 42 := by
  rcases Nat.lt_or_eq_of_le h with h | rfl
  · obtain ⟨A, B, e, hA⟩ := pat_split (getD_get h)
    rw [e, ← hA]; simp
  · obtain ⟨e, hA⟩ := pat_end l
    rw [e, ← hA]; simp
theorem pat_length (l : List Nat) : (patL l).length = off l l.length + 1 := by
  obtain ⟨e, hA⟩ := pat_end l
  rw [e, List.length_append, hA]; rfl
theorem pat_at {l : List Nat} {j c : Nat} (h : l[j]? = some c) (i : Nat) (hi : i ≤ (brk c).length) : (patL l)[off l j + 1 + i]? = (brk c ++ [42])[i]? := by
  obtain ⟨A, B, e, hA⟩ := pat_split h
  rw [e, ← hA, List.getElem?_append_right (by omega)]
  rw [show A.length + 1 + i - A.length = i + 1 by omega]
  simp only [List.cons_append, List.getElem?_cons_succ]
  rw [show brk c ++ 42 :: B = (brk c ++ [42]) ++ B by simp]
  rw [List.getElem?_append_left (by simp; omega)]
theorem brk_special {c : Nat} (h : c ∈ [42, 63, 91]) : brk c = [91, c, 93] := by
  have e : T "*?[" = [42, 63, 91] := rfl
  rw [brk, e, if_pos h]; rfl
theorem brk_plain {c : Nat} (h : c ∉ [42, 63, 91]) : brk c = [c] := by
  have e : T "*?[" = [42, 63, 91] := rfl
  rw [brk, e, if_neg h]
/-- a sign's text in the expression -/
noncomputable def pcF (c : Nat) : List Nat := if c = 91 then [91, 92, 91, 93] else if c ∈ [42, 63] then [91, c, 93] else escF c
theorem brk_pos (c : Nat) : 1 ≤ (brk c).length := by unfold brk; split <;> simp <;> omega
theorem pat_length_le (l : List Nat) (h : l.length ≤ 8) : (patL l).length ≤ 100 := by
  have : ∀ m : List Nat, (m.flatMap fun c => 42 :: brk c).length ≤ 4 * m.length := fun m => by
    induction m with
    | nil => simp
    | cons c r ih => have := brk_length c; simp at ih ⊢; omega
  have := this l
  unfold patL; simp at this ⊢; omega

/-- a call of a def by its body, the qualified name told -/
theorem callOk_q {X : Cx} {k : Nat} {H : List Addr} {f : Str} {fa : Addr} {fd : FuncData} {ps : List Str} {sc : Scope} {body : List Stmt} {ds : List D} {d : D} (DA : DefAt X f fa fd ps sc body) (hl : ds.length = ps.length)
    (hbody : ∀ L, X.n ≤ L → Runs X k H (fenv sc L (fd.qualname ++ ".<locals>.") fa fd.code) L (ps.zip ds) [] body (Ret H d))
    (hps : ps.Nodup := by decide) (hk : ps.all (fun x => sc.names.lookup x == some .local || sc.names.lookup x == some .cell) = true := by rfl)
    (hsk : sc.kind = .function := by rfl) (hco : sc.isCoroutine = false := by rfl) (hgen : sc.isGenerator = false := by rfl) : CallOk X (k + 1) H (.ref fa) ds d := by
  intro A s Q E vs G i hQ
  refine wpAny_call (call_def DA.toFnK G i hl (fun s₁ t1 I => ?_) hps hk hsk hco hgen)
  refine hbody _ G.base.size _ s₁ _ _ I fun f s' t2 hr => ?_
  obtain ⟨v, rfl, iv⟩ := hr
  exact hQ v s' iv (call_back (A := A) G rfl t1 t2)
end Mine
end

section
open PySem PySem.W PyProof.Rows PySem.Calls
set_option Elab.async false
set_option linter.unusedVariables false
namespace Mine
set_option maxRecDepth 10000
set_option maxHeartbeats 4000000
variable {X : Cx} {k : Nat} {H : List Addr}
noncomputable abbrev nTranslateB : Nat := 12
noncomputable def lamPos : Pos := ⟨80, 39, 80, 76⟩
/-- the parts, j signs on their way, the star behind them there or not -/
noncomputable def parts (star : Addr) (l : List Nat) (j : Nat) (b : Bool) : List D := ((l.take j).flatMap fun c => [.addr star, .str (pcF c)]) ++ (if b then [.addr star] else [])
theorem parts_star (star : Addr) (l : List Nat) (j : Nat) : parts star l j false ++ [.addr star] = parts star l j true := by simp [parts]
theorem parts_sign {star : Addr} {l : List Nat} {j c : Nat} (h : l[j]? = some c) : parts star l j true ++ [.str (pcF c)] = parts star l (j + 1) false := by
  simp [parts, List.take_add_one, h, List.flatMap_append]
theorem parts_length (star : Addr) (l : List Nat) (j : Nat) (b : Bool) : (parts star l j b).length ≤ 2 * l.length + 1 := by
  have h1 : ∀ m : List Nat, (m.flatMap fun c => ([.addr star, .str (pcF c)] : List D)).length = 2 * m.length := fun m => by
    induction m with
    | nil => rfl
    | cons c r ih => rw [List.flatMap_cons, List.length_append, ih]; simp; omega
  unfold parts
  rw [List.length_append, h1, List.length_take]
  cases b <;> simp <;> omega
theorem parts_last {star : Addr} {l : List Nat} {j c : Nat} (h : l[j]? = some c) : parts star l (j + 1) false ≠ [] ∧ (parts star l (j + 1) false)[(parts star l (j + 1) false).length - 1]? = some (.str (pcF c)) := by
  rw [← parts_sign h]
  simp

theorem tst_of {env : Env} {ρ : Ro} {e : PySem.Expr} {b c : Bool} (h : Tst X k H env ρ e b) (q : b = c) : Tst X k H env ρ e c := q ▸ h
noncomputable def posI (l : List Nat) (j : Nat) : Bool → Int
  | false => (off l j : Int)
  | true => (off l j : Int) + 1
noncomputable abbrev roT0 (star a : Addr) (l : List Nat) : Ro := [("n", .int (patL l).length), ("add", .bound "list.append" a), ("res", .addr a), ("pat", .str (patL l)), ("STAR", .addr star), ("QUESTION_MARK", .str [46])]
noncomputable abbrev roT (star a : Addr) (l : List Nat) (i : Int) : Ro := ("i", .int i) :: roT0 star a l
theorem mu_sub1 {a : Addr} {ds : List D} {μ : Mu} (h : μ.lookup a = some ds) : ∀ x d, ([(a, ds)] : Mu).lookup x = some d → μ.lookup x = some d := fun x d e => by
  rw [List.lookup_cons] at e
  cases hb : x == a with
  | true => rw [hb] at e; cases e; rw [beq_iff_eq.mp hb]; exact h
  | false => rw [hb] at e; cases e
theorem sub_roT0 {star a : Addr} {l : List Nat} {ρ : Ro} (h1 : ρ.lookup (Str.ofString "n") = some (.int (patL l).length)) (h2 : ρ.lookup (Str.ofString "add") = some (.bound "list.append" a)) (h3 : ρ.lookup (Str.ofString "res") = some (.addr a)) (h4 : ρ.lookup (Str.ofString "pat") = some (.str (patL l)))
    (h5 : ρ.lookup (Str.ofString "STAR") = some (.addr star)) (h6 : ρ.lookup (Str.ofString "QUESTION_MARK") = some (.str [46])) : ∀ x d, (roT0 star a l).lookup x = some d → ρ.lookup x = some d :=
  sub_cons h1 (sub_cons h2 (sub_cons h3 (sub_cons h4 (sub_cons h5 (sub_cons h6 sub_nil)))))
theorem sub_roT {star a : Addr} {l : List Nat} {i i' : Int} {ρ : Ro} (h : i' = i) (h1 : ρ.lookup (Str.ofString "i") = some (.int i')) (h2 : ∀ x d, (roT0 star a l).lookup x = some d → ρ.lookup x = some d) : ∀ x d, (roT star a l i).lookup x = some d → ρ.lookup x = some d := by
  subst h; exact sub_cons h1 h2

theorem translate_runs {L : Addr} {fa pa da fe : Addr} {fd fde : FuncData} {star : Addr} {l : List Nat} (hl : l.length ≤ 8) (PK : PatK X pa) (SM : SpecMap X da) (DE : DefAt X "escape" fe fde ["pattern"] (scopeAt nEscape) (bodyAt nEscape))
    (LK : LamK X (fenv (scopeAt nTranslateB) L (fd.qualname ++ ".<locals>.") fa fd.code) lamPos) :
    Runs X (k + 3) H (fenv (scopeAt nTranslateB) L (fd.qualname ++ ".<locals>.") fa fd.code) L [("pat", .str (patL l)), ("STAR", .addr star), ("QUESTION_MARK", .str [46])] [] (bodyAt nTranslateB) (Ret H (.list (parts star l l.length true))) := by
  have O : EnvOk (fenv (scopeAt nTranslateB) L (fd.qualname ++ ".<locals>.") fa fd.code) := ⟨rfl, rfl, rfl⟩
  have hp := pat_length_le l hl
  refine r_own fun a ha => ?_
  refine r_bound rfl mu_self ?_
  refine r_tup2s (Evs.i (ev_tuple (evs_cons ev_int (evs_cons (ev_bcall O (evs_cons (ev_name O rfl) evs_nil) c_len_str) evs_nil)) (by show 2 ≤ sizeLine; decide))) ?_
  refine r_while (σ := Nat × Bool) (fun x => roT star a l (posI l x.1 x.2)) (fun x => [(a, parts star l x.1 x.2)]) (fun x => x.1 ≤ l.length) (fun x => 2 * (l.length - x.1) + (if x.2 then 0 else 1)) (0, false) (Nat.zero_le _) ?_ (fun x d h => h) ?_
  · show ∀ z d, (roT star a l (off l 0)).lookup z = some d → _
    rw [off_zero]
    exact fun z d h => h
  rintro ⟨j, b⟩ (hj : j ≤ l.length)
  have hlen := pat_length l
  cases b with
  | false =>
    have hstar := pat_star hj
    have hlt : off l j < (patL l).length := (List.getElem?_eq_some_iff.mp hstar).1
    refine ⟨decide ((off l j : Int) < (patL l).length), Tst.i (ts_cmp (ev_name O rfl) (ev_name O rfl) cmp_lt_int), fun _ => ?_, fun h => absurd (of_decide_eq_false h) (by omega)⟩
    refine r_assign (Evs.i (ev_char (ev_name O rfl) (ev_name O rfl) (seq_nat hlt) hstar)) ?_
    refine r_assign (Evs.i (ev_bin (ev_name O rfl) ev_int bin_add)) ?_
    refine r_if (Tst.i (ts_cmp (ev_name O rfl) ev_str cmp_eq_str)) (fun _ => ?_) (fun h => absurd (of_decide_eq_false h) (by decide))
    have hpl := parts_length star l j false
    have hgo : (!(!(parts star l j false).isEmpty) || (decide (j ≠ 0) || false)) = true := by
      cases j with
      | zero => rfl
      | succ j => simp
    refine r_if (b := !(!(parts star l j false).isEmpty) || (decide (j ≠ 0) || false)) (tst_open (y := "res") ha rfl mu_self ?_) (fun _ => ?_) (fun h => by rw [hgo] at h; cases h)
    · refine ts_or (ts_not (ts_val (ev_name O rfl) (tru_list (l := parts star l j false) (by omega)))) (fun hc => ts_or ?_ fun _ => ts_or_nil)
      cases j with
      | zero => simp [parts] at hc
      | succ j =>
        obtain ⟨h1, h2⟩ := parts_last (star := star) (getD_get (l := l) (j := j) (by omega))
        have : decide (j + 1 ≠ 0) = true := by simp
        rw [this]
        exact ts_cmp (ev_item (l := parts star l (j + 1) false) (ev_name O rfl) (ev_una ev_int una_neg) (seq_last (List.length_pos_iff.mpr h1)) h2) (ev_name O rfl) cmp_isnot_str
    · refine r_add (ds := parts star l j false) (d := .addr star) rfl mu_self (Evs.i (ev_name O rfl)) ?_ (by rw [sizeLine_eq]; omega)
      refine r_nil fun A s I => .inl ⟨.inl rfl, (j, true), hj, by simp, I.sub ?_ ?_⟩
      · exact sub_roT (i' := (off l j : Int) + 1) rfl rfl (sub_roT0 rfl rfl rfl rfl rfl rfl)
      · exact mu_sub1 (by rw [← parts_star]; exact mu_self)
  | true =>
    rcases Nat.lt_or_eq_of_le hj with hjl | rfl
    · have hc : l[j]? = some (l.getD j 0) := getD_get hjl
      generalize hcc : l.getD j 0 = c at hc
      have at0 := pat_at hc 0 (Nat.zero_le _)
      have hos := off_succ hc
      have hpl := parts_length star l j true
      have hlt : off l j + 1 < (patL l).length := by
        have := (List.getElem?_eq_some_iff.mp (pat_star (l := l) (j := j + 1) hjl)).1
        have := brk_pos c
        omega
      refine ⟨decide ((off l j : Int) + 1 < (patL l).length), Tst.i (ts_cmp (ev_name O rfl) (ev_name O rfl) cmp_lt_int), fun _ => ?_, fun h => absurd (of_decide_eq_false h) (by omega)⟩
      have e1 : ((off l j : Int) + 1) = ((off l j + 1 : Nat) : Int) := by omega
      by_cases hs : c ∈ [42, 63, 91]
      · have hb := brk_special hs
        have at1 := pat_at hc 1 (by simp [hb])
        have at2 := pat_at hc 2 (by simp [hb])
        rw [hb] at at0 at1 at2 hos
        have at0 : (patL l)[off l j + 1]? = some 91 := by simpa using at0
        have at1 : (patL l)[off l j + 2]? = some c := by simpa using at1
        have at2 : (patL l)[off l j + 3]? = some 93 := by simpa using at2
        have hos : off l (j + 1) = off l j + 4 := by rw [hos]; rfl
        have lt3 : off l j + 3 < (patL l).length := (List.getElem?_eq_some_iff.mp at2).1
        have hcs : c = 42 ∨ c = 63 ∨ c = 91 := by simpa using hs
        have c33 : c ≠ 33 := by rcases hcs with rfl | rfl | rfl <;> decide
        have c93 : c ≠ 93 := by rcases hcs with rfl | rfl | rfl <;> decide
        have c45 : c ≠ 45 := by rcases hcs with rfl | rfl | rfl <;> decide
        have c94 : c ≠ 94 := by rcases hcs with rfl | rfl | rfl <;> decide
        have n33 : decide ([c] = T "!") = false := decide_eq_false (by show ¬ [c] = [33]; simp [c33])
        have n93 : decide ([c] = T "]") = false := decide_eq_false (by show ¬ [c] = [93]; simp [c93])
        have cf : failsAt c := by
          rcases hcs with rfl | rfl | rfl
          · exact fails_42
          · exact fails_63
          · exact fails_91
        have co : (Builtin.Str.occurrences (S [c]) (S [92]) 0 (S [c]).length ((S [c]).length + 1)).isEmpty = true := by
          rcases hcs with rfl | rfl | rfl <;> decide +kernel
        have e2 : ((off l j : Int) + 1 + 1) = ((off l j + 2 : Nat) : Int) := by omega
        have e3 : ((off l j : Int) + 1 + 1 + 1) = ((off l j + 3 : Nat) : Int) := by omega
        have s2 : seqIndex? ((off l j : Int) + 1 + 1) (patL l).length = some (off l j + 2) := by rw [e2]; exact seq_nat (by omega)
        have s3 : seqIndex? ((off l j : Int) + 1 + 1 + 1) (patL l).length = some (off l j + 3) := by rw [e3]; exact seq_nat (by omega)
        have t92 : T "\\" = [92] := rfl
        refine r_assign (d := .str [91]) (Evs.i (ev_char (j := off l j + 1) (ev_name O rfl) (ev_name O rfl) (by show seqIndex? ((off l j : Int) + 1) _ = _; rw [e1]; exact seq_nat hlt) at0)) ?_
        refine r_assign (Evs.i (ev_bin (ev_name O rfl) ev_int bin_add)) ?_
        refine r_if (Tst.i (ts_cmp (ev_name O rfl) ev_str cmp_eq_str)) (fun h => absurd (of_decide_eq_true h) (by decide)) (fun _ => ?_)
        refine r_if (Tst.i (ts_cmp (ev_name O rfl) ev_str cmp_eq_str)) (fun h => absurd (of_decide_eq_true h) (by decide)) (fun _ => ?_)
        refine r_if (Tst.i (ts_cmp (ev_name O rfl) ev_str cmp_eq_str)) (fun _ => ?_) (fun h => absurd (of_decide_eq_false h) (by decide))
        -- j = i
        refine r_assign (d := .int ((off l j : Int) + 1 + 1)) (Evs.i (ev_name O rfl)) ?_
        refine r_if (b := false) (Tst.i (tst_of (ts_and (ts_cmp (ev_name O rfl) (ev_name O rfl) cmp_lt_int) fun _ => ts_and (ts_cmp (ev_char (ev_name O rfl) (ev_name O rfl) s2 at1) ev_str cmp_eq_str) fun _ => ts_and_nil) (by rw [n33]; simp))) (fun h => by cases h) (fun _ => ?_)
        refine r_if (b := false) (Tst.i (tst_of (ts_and (ts_cmp (ev_name O rfl) (ev_name O rfl) cmp_lt_int) fun _ => ts_and (ts_cmp (ev_char (ev_name O rfl) (ev_name O rfl) s2 at1) ev_str cmp_eq_str) fun _ => ts_and_nil) (by rw [n93]; simp))) (fun h => by cases h) (fun _ => ?_)
        -- while pat[j] != ']'
        refine r_while (σ := Bool) (fun y => ("j", .int (if y then (off l j : Int) + 1 + 1 + 1 else (off l j : Int) + 1 + 1)) :: roT star a l ((off l j : Int) + 1 + 1)) (fun _ => [(a, parts star l j true)]) (fun _ => True) (fun y => if y then 0 else 1) false trivial (sub_cons rfl (sub_roT rfl rfl (sub_roT0 rfl rfl rfl rfl rfl rfl))) (mu_sub1 mu_self) ?_
        intro y _
        cases y with
        | false =>
          refine ⟨true, Tst.i (tst_of (ts_and (ts_cmp (ev_name O rfl) (ev_name O rfl) cmp_lt_int) fun _ => ts_and (ts_cmp (ev_char (ev_name O rfl) (ev_name O rfl) s2 at1) ev_str cmp_ne_str) fun _ => ts_and_nil) ?_), fun _ => ?_, (fun h => by cases h)⟩
          · rw [n93]; simp; omega
          · refine r_assign (Evs.i (ev_bin (ev_name O rfl) ev_int bin_add)) ?_
            exact r_nil fun A s I => .inl ⟨.inl rfl, true, trivial, by decide, I.sub (sub_cons rfl (sub_roT rfl rfl (sub_roT0 rfl rfl rfl rfl rfl rfl))) (mu_sub1 mu_self)⟩
        | true =>
          refine ⟨false, Tst.i (tst_of (ts_and (ts_cmp (ev_name O rfl) (ev_name O rfl) cmp_lt_int) fun _ => ts_and (ts_cmp (ev_char (ev_name O rfl) (ev_name O rfl) s3 at2) ev_str cmp_ne_str) fun _ => ts_and_nil) ?_), (fun h => by cases h), fun _ => ?_⟩
          · rw [show decide ([93] = T "]") = true from by decide]; simp
          refine r_if (Tst.i (ts_cmp (ev_name O rfl) (ev_name O rfl) cmp_ge_int)) (fun h => absurd (of_decide_eq_true h) (by simp; omega)) (fun _ => ?_)
          have ecut : cut (patL l) (some ((off l j : Int) + 1 + 1)) (some ((off l j : Int) + 1 + 1 + 1)) = [c] := by
            rw [e3, e2]
            unfold cut
            simp only [Option.elim]
            rw [clipAt_nat, clipAt_nat, Nat.min_eq_left (by omega), Nat.min_eq_left (by omega)]
            rw [List.drop_eq_getElem_cons (by omega), show off l j + 3 - (off l j + 2) = 1 by omega, List.take_succ_cons, List.take_zero]
            rw [List.getElem?_eq_getElem (by omega)] at at1
            exact congrArg (fun x => [x]) (Option.some.inj at1)
          refine r_assign (d := .str [c]) (Evs.i (by rw [← ecut]; exact ev_cutS (ev_name O rfl) (.some (ev_name O rfl)) (.some (ev_name O rfl)) (by rw [sizeLine_eq]; omega))) ?_
          refine r_if (Tst.i (ts_cmp ev_str (ev_name O rfl) cmp_notin_str)) (fun _ => ?_) (fun h => ?_)
          · refine r_assign (d := .str [c]) (Evs.i (ev_meth m_replace (ev_name O rfl) rfl (evs_cons ev_str (evs_cons ev_str evs_nil)) (c_replace0 co))) ?_
            refine r_assign (d := .str [c]) (Evs.i (ev_resub PK LK O cf rfl)) ?_
            refine r_assign (Evs.i (ev_bin (ev_name O rfl) ev_int bin_add)) ?_
            refine r_if (b := false) (Tst.i (ts_not (c := true) (ts_val (ev_name O rfl) (tru_str (l := [c]) (by simp))))) (fun h => by cases h) (fun _ => ?_)
            refine r_if (Tst.i (ts_cmp (ev_name O rfl) ev_str cmp_eq_str)) (fun h => by rw [n33] at h; cases h) (fun _ => ?_)
            refine r_if (Tst.i (ts_cmp (ev_char (l := [c]) (i := 0) (j := 0) (c := c) (ev_name O rfl) ev_int rfl rfl (by simp)) ev_str cmp_eq_str)) (fun h => by rw [n33] at h; cases h) (fun _ => ?_)
            have hin : decide ([c] ∈ [T "^", T "["]) = decide (c = 91) := by
              have : T "^" = [94] ∧ T "[" = [91] := ⟨rfl, rfl⟩
              rw [this.1, this.2]; simp [c94]
            refine r_if (b := decide (c = 91)) (Tst.i (tst_of (ts_cmp (ev_char (l := [c]) (i := 0) (j := 0) (c := c) (ev_name O rfl) ev_int rfl rfl (by simp)) (ev_tuple (evs_cons ev_str (evs_cons ev_str evs_nil)) (by show 2 ≤ sizeLine; decide)) (cmp_in_tuple (l := [T "^", T "["]))) hin)) (fun h => ?_) (fun h => ?_)
            · have h91 := of_decide_eq_true h
              refine r_assign (Evs.i (ev_bin (a := .str (T "\\")) (b := .str [c]) ev_str (ev_name O rfl) (bin_cat (by rw [sizeLine_eq, t92]; simp)))) ?_
              refine r_add (ds := parts star l j true) rfl mu_self (Evs.i (ev_fstr (d := T "\\" ++ [c]) (ev_name O rfl) (by rw [t92]; show 4 ≤ sizeLine; decide))) ?_ (by rw [sizeLine_eq]; omega)
              refine r_nil fun A s I => .inl ⟨.inl rfl, (j + 1, false), hjl, by simp; omega, I.sub ?_ ?_⟩
              · exact sub_roT (i' := (off l j : Int) + 1 + 1 + 1 + 1) (by show _ = ((off l (j + 1) : Nat) : Int); rw [hos]; omega) rfl (sub_roT0 rfl rfl rfl rfl rfl rfl)
              · have hpc : pcF c = T "[" ++ (T "\\" ++ [c]) ++ T "]" := by rw [h91]; rfl
                exact mu_sub1 (by rw [← parts_sign hc, hpc]; exact mu_self)
            · have h91 := of_decide_eq_false h
              refine r_add (ds := parts star l j true) rfl mu_self (Evs.i (ev_fstr (d := [c]) (ev_name O rfl) (by show 3 ≤ sizeLine; decide))) ?_ (by rw [sizeLine_eq]; omega)
              refine r_nil fun A s I => .inl ⟨.inl rfl, (j + 1, false), hjl, by simp; omega, I.sub ?_ ?_⟩
              · exact sub_roT (i' := (off l j : Int) + 1 + 1 + 1 + 1) (by show _ = ((off l (j + 1) : Nat) : Int); rw [hos]; omega) rfl (sub_roT0 rfl rfl rfl rfl rfl rfl)
              · have hpc : pcF c = T "[" ++ [c] ++ T "]" := by
                  have hm : c ∈ [42, 63] := by rcases hcs with q | q | q <;> simp [q] at h91 ⊢
                  rw [pcF, if_neg h91, if_pos hm]; rfl
                exact mu_sub1 (by rw [← parts_sign hc, hpc]; exact mu_self)
          · rw [show T "-" = [45] from rfl, within_one] at h
            have : ¬ (45 ∈ [c]) := by simp; exact fun q => c45 q.symm
            rw [decide_eq_false this] at h
            cases h
      · rw [brk_plain hs] at at0 hos
        have n42 : c ≠ 42 := fun q => hs (by simp [q])
        have n63 : c ≠ 63 := fun q => hs (by simp [q])
        have n91 : c ≠ 91 := fun q => hs (by simp [q])
        have hpc : pcF c = escF c := by rw [pcF, if_neg n91, if_neg (by simp [n42, n63])]
        refine r_assign (d := .str [c]) (Evs.i (ev_char (j := off l j + 1) (ev_name O rfl) (ev_name O rfl) (by show seqIndex? ((off l j : Int) + 1) _ = _; rw [e1]; exact seq_nat hlt) (by simpa using at0))) ?_
        refine r_assign (Evs.i (ev_bin (ev_name O rfl) ev_int bin_add)) ?_
        refine r_if (Tst.i (ts_cmp (ev_name O rfl) ev_str cmp_eq_str)) (fun h => absurd (of_decide_eq_true h) (by show ¬ [c] = [42]; simp [n42])) (fun _ => ?_)
        refine r_if (Tst.i (ts_cmp (ev_name O rfl) ev_str cmp_eq_str)) (fun h => absurd (of_decide_eq_true h) (by show ¬ [c] = [63]; simp [n63])) (fun _ => ?_)
        refine r_if (Tst.i (ts_cmp (ev_name O rfl) ev_str cmp_eq_str)) (fun h => absurd (of_decide_eq_true h) (by show ¬ [c] = [91]; simp [n91])) (fun _ => ?_)
        refine r_add (ds := parts star l j true) (d := .str (escF c)) rfl mu_self (Evs.i (ev_call DE O (evs_cons (ev_name O rfl) evs_nil) (callOk_of DE rfl fun L q _ => escape_runs SM))) ?_ (by rw [sizeLine_eq]; omega)
        refine r_nil fun A s I => .inl ⟨.inl rfl, (j + 1, false), hjl, by simp; omega, I.sub ?_ ?_⟩
        · exact sub_roT (i' := (off l j : Int) + 1 + 1) (by show _ = ((off l (j + 1) : Nat) : Int); rw [hos]; simp) rfl (sub_roT0 rfl rfl rfl rfl rfl rfl)
        · exact mu_sub1 (by rw [← parts_sign hc, hpc]; exact mu_self)
    · refine ⟨decide ((off l l.length : Int) + 1 < (patL l).length), Tst.i (ts_cmp (ev_name O rfl) (ev_name O rfl) cmp_lt_int), fun h => absurd (of_decide_eq_true h) (by omega), fun _ => ?_⟩
      refine r_assert (Tst.i ?_) (r_disown (y := "res") ha rfl mu_self (r_retV (Evs.i (ev_name O rfl))))
      exact tst_of (b := decide ((off l l.length : Int) + 1 = ((patL l).length : Int))) (ts_cmp (ev_name O rfl) (ev_name O rfl) cmp_eq_int) (by rw [hlen]; simp)
end Mine
end

section
open PySem PySem.W PyProof.Rows PySem.Calls
set_option Elab.async false
set_option linter.unusedVariables false
namespace Mine
set_option maxRecDepth 10000
set_option maxHeartbeats 4000000
variable {X : Cx} {k : Nat} {H : List Addr}
noncomputable abbrev nJoin : Nat := 13
theorem glue_nil (l : List (List Nat)) : glue [] l = l.flatten := by
  have h : ∀ (r : List (List Nat)) (p : List Nat), r.foldl (fun acc q => acc ++ [] ++ q) p = p ++ r.flatten := fun r => by
    induction r with
    | nil => intro p; simp
    | cons q r ih => intro p; rw [List.foldl_cons, ih]; simp
  cases l with
  | nil => rfl
  | cons p r => show r.foldl (fun acc q => acc ++ [] ++ q) p = _; rw [h]; rfl
theorem parts_all (star : Addr) (l : List Nat) : parts star l l.length true = (l.flatMap fun c => [.addr star, .str (pcF c)]) ++ [.addr star] := by
  unfold parts; rw [List.take_length]; rfl
theorem parts_len (star : Addr) (l : List Nat) : (parts star l l.length true).length = 2 * l.length + 1 := by
  rw [parts_all]
  have h1 : ∀ m : List Nat, (m.flatMap fun c => ([.addr star, .str (pcF c)] : List D)).length = 2 * m.length := fun m => by
    induction m with
    | nil => rfl
    | cons c r ih => rw [List.flatMap_cons, List.length_append, ih]; simp; omega
  rw [List.length_append, h1]; rfl
theorem parts_even {star : Addr} : ∀ {l : List Nat} {j : Nat}, j ≤ l.length → (parts star l l.length true)[2 * j]? = some (.addr star)
  | [], j, h => by rw [parts_all]; have : j = 0 := by simpa using h
                   subst this; rfl
  | c :: r, 0, h => by rw [parts_all]; rfl
  | c :: r, j + 1, h => by
    have := parts_even (star := star) (l := r) (j := j) (by simpa using h)
    rw [parts_all] at this ⊢
    rw [List.flatMap_cons, show 2 * (j + 1) = 2 * j + 2 by omega]
    simpa using this
theorem parts_odd {star : Addr} : ∀ {l : List Nat} {j c : Nat}, l[j]? = some c → (parts star l l.length true)[2 * j + 1]? = some (.str (pcF c))
  | c :: r, 0, d, h => by
    rw [parts_all]; simp at h; subst h; rfl
  | c :: r, j + 1, d, h => by
    have := parts_odd (star := star) (l := r) (j := j) (c := d) (by simpa using h)
    rw [parts_all] at this ⊢
    rw [List.flatMap_cons, show 2 * (j + 1) + 1 = 2 * j + 1 + 2 by omega]
    simpa using this
/-- a group of the expression -/
noncomputable def grpF (c : Nat) : List Nat := T "(?>.*?" ++ pcF c ++ T ")"
noncomputable def joinF (l : List Nat) : List Nat := T "(?s:" ++ ((l.map grpF).flatten ++ T ".*") ++ T ")\\Z"
theorem pcF_length (c : Nat) : (pcF c).length ≤ 4 := by
  unfold pcF escF
  split
  · simp
  · split
    · simp
    · split <;> simp
theorem outs_get {l : List Nat} {j c : Nat} (h : l[j]? = some c) : (l.take (j + 1)).map (fun c => D.str (grpF c)) = (l.take j).map (fun c => D.str (grpF c)) ++ [.str (grpF c)] := by
  rw [List.take_add_one, h]; simp
theorem mu_ne {a b : Addr} {ds : List D} {μ : Mu} (h : a ≠ b) : ((b, ds) :: μ : Mu).lookup a = μ.lookup a := by rw [List.lookup_cons, beq_eq_false_iff_ne.mpr h]
theorem mu_sub2 {a b : Addr} {ds es : List D} {μ : Mu} (h : μ.lookup b = some ds) (h2 : μ.lookup a = some es) : ∀ x d, ([(b, ds), (a, es)] : Mu).lookup x = some d → μ.lookup x = some d := fun x d e => by
  rw [List.lookup_cons] at e
  cases hb : x == b with
  | true => rw [hb] at e; cases e; rw [beq_iff_eq.mp hb]; exact h
  | false => rw [hb] at e; exact mu_sub1 h2 x d e
noncomputable abbrev roJ (star a : Addr) (l : List Nat) (i : Int) : Ro := [("i", .int i), ("n", .int (parts star l l.length true).length), ("add", .bound "list.append" a), ("res", .addr a), ("inp", .list (parts star l l.length true)), ("STAR", .addr star)]
theorem sub_roJ {star a : Addr} {l : List Nat} {i i' : Int} {ρ : Ro} (h : i' = i) (h0 : ρ.lookup (Str.ofString "i") = some (.int i')) (h1 : ρ.lookup (Str.ofString "n") = some (.int (parts star l l.length true).length)) (h2 : ρ.lookup (Str.ofString "add") = some (.bound "list.append" a)) (h3 : ρ.lookup (Str.ofString "res") = some (.addr a)) (h4 : ρ.lookup (Str.ofString "inp") = some (.list (parts star l l.length true)))
    (h5 : ρ.lookup (Str.ofString "STAR") = some (.addr star)) : ∀ x d, (roJ star a l i).lookup x = some d → ρ.lookup x = some d := by
  subst h; exact sub_cons h0 (sub_cons h1 (sub_cons h2 (sub_cons h3 (sub_cons h4 (sub_cons h5 sub_nil)))))

theorem join_runs {L : Addr} {fa : Addr} {cd : Value} {q : Str} {star : Addr} {l : List Nat} (hl : l.length ≤ 8) :
    Runs X (k + 2) H (fenv (scopeAt nJoin) L q fa cd) L [("inp", .list (parts star l l.length true)), ("STAR", .addr star)] [] (bodyAt nJoin) (Ret H (.str (joinF l))) := by
  have O : EnvOk (fenv (scopeAt nJoin) L q fa cd) := ⟨rfl, rfl, rfl⟩
  have hlen := parts_len star l
  refine r_own fun a ha => ?_
  refine r_bound rfl mu_self ?_
  refine r_tup2s (Evs.i (ev_tuple (evs_cons ev_int (evs_cons (ev_bcall O (evs_cons (ev_name O rfl) evs_nil) c_len_list) evs_nil)) (by show 2 ≤ sizeLine; decide))) ?_
  refine r_while (σ := Unit) (fun _ => roJ star a l 0) (fun _ => [(a, [])]) (fun _ => True) (fun _ => 0) () trivial (fun z d h => h) (mu_sub1 mu_self) ?_
  rintro ⟨⟩ _
  have z0 : seqIndex? (0 : Int) (parts star l l.length true).length = some (2 * 0) := by rw [hlen]; exact seq_nat (j := 0) (by omega)
  refine ⟨false, Tst.i (tst_of (ts_and (ts_cmp (ev_name O rfl) (ev_name O rfl) cmp_lt_int) fun _ => ts_and (ts_cmp (ev_item (ev_name O rfl) (ev_name O rfl) z0 (parts_even (Nat.zero_le _)) (by omega)) (ev_name O rfl) cmp_isnot_self) fun _ => ts_and_nil) (by simp)), (fun h => by cases h), fun _ => ?_⟩
  have hn : ((parts star l l.length true).length : Int) = 2 * (l.length : Int) + 1 := by rw [hlen]; simp
  refine r_while (σ := Nat) (fun j => roJ star a l (2 * (j : Int))) (fun j => [(a, (l.take j).map fun c => D.str (grpF c))]) (fun j => j ≤ l.length) (fun j => l.length - j) 0 (Nat.zero_le _) (fun z d h => h) (mu_sub1 mu_self) ?_
  intro j hj
  have se : seqIndex? (2 * (j : Int)) (parts star l l.length true).length = some (2 * j) := by
    rw [hlen, show (2 * (j : Int)) = ((2 * j : Nat) : Int) by omega]; exact seq_nat (by omega)
  refine ⟨true, Tst.i (tst_of (ts_cmp (ev_name O rfl) (ev_name O rfl) cmp_lt_int) (by rw [hn]; simp; omega)), fun _ => ?_, (fun h => by cases h)⟩
  refine r_assert (Tst.i (ts_cmp (ev_item (ev_name O rfl) (ev_name O rfl) se (parts_even hj) (by omega)) (ev_name O rfl) cmp_is_self)) ?_
  refine r_aug (a := 2 * (j : Int)) rfl (Evs.i ev_int) ?_
  rcases Nat.lt_or_eq_of_le hj with hjl | rfl
  · have hc : l[j]? = some (l.getD j 0) := getD_get hjl
    generalize hcc : l.getD j 0 = c at hc
    have hpl := pcF_length c
    refine r_if (Tst.i (ts_cmp (ev_name O rfl) (ev_name O rfl) cmp_eq_int)) (fun h => absurd (of_decide_eq_true h) (by rw [hn]; omega)) (fun _ => ?_)
    have so : seqIndex? (2 * (j : Int) + 1) (parts star l l.length true).length = some (2 * j + 1) := by
      rw [hlen, show (2 * (j : Int) + 1) = ((2 * j + 1 : Nat) : Int) by omega]; exact seq_nat (by omega)
    have s2 : seqIndex? (2 * (j : Int) + 1 + 1) (parts star l l.length true).length = some (2 * (j + 1)) := by
      rw [hlen, show (2 * (j : Int) + 1 + 1) = ((2 * (j + 1) : Nat) : Int) by omega]; exact seq_nat (by omega)
    refine r_assert (Tst.i (ts_cmp (ev_item (ev_name O rfl) (ev_name O rfl) so (parts_odd hc) (by omega)) (ev_name O rfl) cmp_isnot_str)) ?_
    refine r_own fun b hb => ?_
    have hab : a ≠ b := fun q => hb (q ▸ List.mem_cons_self ..)
    refine r_while (σ := Bool) (fun y => ("fixed", .addr b) :: roJ star a l (if y then 2 * (j : Int) + 1 + 1 else 2 * (j : Int) + 1)) (fun y => [(b, if y then [.str (pcF c)] else []), (a, (l.take j).map fun c => D.str (grpF c))]) (fun _ => True) (fun y => if y then 0 else 1) false trivial (sub_cons rfl (sub_roJ rfl rfl rfl rfl rfl rfl rfl)) ?_ ?_
    · exact fun x d h => h
    intro y _
    cases y with
    | false =>
      refine ⟨true, Tst.i (tst_of (ts_and (ts_cmp (ev_name O rfl) (ev_name O rfl) cmp_lt_int) fun _ => ts_and (ts_cmp (ev_item (ev_name O rfl) (ev_name O rfl) so (parts_odd hc) (by omega)) (ev_name O rfl) cmp_isnot_str) fun _ => ts_and_nil) ?_), fun _ => ?_, (fun h => by cases h)⟩
      · rw [hn]; simp; omega
      · refine r_append (ds := []) rfl mu_self (Evs.i (ev_item (ev_name O rfl) (ev_name O rfl) so (parts_odd hc) (by omega))) ?_ (by decide)
        refine r_aug (a := 2 * (j : Int) + 1) rfl (Evs.i ev_int) ?_
        refine r_nil fun A s I => .inl ⟨.inl rfl, true, trivial, by decide, I.sub (sub_cons rfl (sub_roJ rfl rfl rfl rfl rfl rfl rfl)) ?_⟩
        exact mu_sub2 mu_self (by rw [mu_ne hab, mu_ne hab]; exact mu_self)
    | true =>
      refine ⟨false, Tst.i (tst_of (ts_and (ts_cmp (ev_name O rfl) (ev_name O rfl) cmp_lt_int) fun _ => ts_and (ts_cmp (ev_item (ev_name O rfl) (ev_name O rfl) s2 (parts_even hjl) (by omega)) (ev_name O rfl) cmp_isnot_self) fun _ => ts_and_nil) (by simp)), (fun h => by cases h), fun _ => ?_⟩
      refine r_disown1 (y := "fixed") (b := a) (ds := [.str (pcF c)]) (es := (l.take j).map fun c => D.str (grpF c)) hb hab rfl mu_self ?_ ?_
      · rw [mu_ne hab]; exact mu_self
      refine r_assign (d := .str (pcF c)) (Evs.i ?_) ?_
      · have := c_join (X := X) (k := k + 2) (H := a :: H) (x := []) (l := [pcF c]) (by simp; omega) (by simp)
        rw [glue_nil] at this
        have e : [pcF c].flatten = pcF c := by simp
        rw [e] at this
        exact ev_meth (a := .str (T "")) (ds := [texts [pcF c]]) m_join ev_str rfl (evs_cons (ev_name O rfl) evs_nil) this
      refine r_if (Tst.i (ts_cmp (ev_name O rfl) (ev_name O rfl) cmp_eq_int)) (fun h => absurd (of_decide_eq_true h) (by rw [hn]; simp; omega)) (fun _ => ?_)
      refine r_add (ds := (l.take j).map fun c => D.str (grpF c)) (d := .str (grpF c)) rfl mu_self (Evs.i (ev_fstr (d := pcF c) (ev_name O rfl) ?_)) ?_ ?_
      · show 6 + (pcF c).length + 1 ≤ sizeLine; rw [sizeLine_eq]; omega
      · refine r_nil fun A s I => .inl ⟨.inl rfl, j + 1, hjl, by omega, I.sub (sub_roJ (i' := 2 * (j : Int) + 1 + 1) (by omega) rfl rfl rfl rfl rfl rfl) (mu_sub1 (by rw [outs_get hc]; exact mu_self))⟩
      · rw [List.length_map, List.length_take, sizeLine_eq]; omega
  · refine r_if (Tst.i (ts_cmp (ev_name O rfl) (ev_name O rfl) cmp_eq_int)) (fun _ => ?_) (fun h => absurd (of_decide_eq_false h) (by rw [hn]; simp))
    refine r_add (ds := (l.take l.length).map fun c => D.str (grpF c)) (d := .str (T ".*")) rfl mu_self (Evs.i ev_str) ?_ (by rw [List.length_map, List.length_take, sizeLine_eq]; omega)
    rw [List.take_length]
    refine r_break fun A s I => .inr (.inl ⟨rfl, _, _, I, ?_⟩)
    refine r_assert (Tst.i (tst_of (ts_cmp (ev_name O rfl) (ev_name O rfl) cmp_eq_int) (by rw [hn]; simp))) ?_
    refine r_disown (y := "res") ha rfl mu_self ?_
    have hsum : ∀ m : List Nat, ((m.map grpF).map List.length).sum ≤ 11 * m.length := fun m => by
      induction m with
      | nil => simp
      | cons c r ih =>
        have h4 := pcF_length c
        have : (grpF c).length ≤ 11 := by unfold grpF; rw [List.length_append, List.length_append]; show 6 + _ + 1 ≤ _; omega
        simp only [List.map_cons, List.sum_cons, List.length_cons] at ih ⊢; omega
    have hs := hsum l
    have hd2 : (T ".*").length = 2 := rfl
    refine r_assign (d := .str ((l.map grpF).flatten ++ T ".*")) (Evs.i ?_) ?_
    · have := c_join (X := X) (k := k + 2) (H := H) (x := []) (l := l.map grpF ++ [T ".*"]) (by simp only [List.map_append, List.sum_append, List.map_cons, List.map_nil, List.sum_cons, List.sum_nil, List.length_append, List.length_map, List.length_cons, List.length_nil, hd2]; omega) (by simp)
      rw [glue_nil, List.flatten_append] at this
      have e : [T ".*"].flatten = T ".*" := by simp
      rw [e] at this
      have e2 : texts (l.map grpF ++ [T ".*"]) = .list ((l.map fun c => D.str (grpF c)) ++ [.str (T ".*")]) := by rw [texts, List.map_append, List.map_map]; rfl
      rw [e2] at this
      exact ev_meth (a := .str (T "")) m_join ev_str rfl (evs_cons (ev_name O rfl) evs_nil) this
    · refine r_retV (Evs.i (ev_fstr (ev_name O rfl) ?_))
      have : (l.map grpF).flatten.length ≤ 11 * l.length := by rw [List.length_flatten]; exact hs
      rw [List.length_append, hd2]
      show 4 + _ + 3 ≤ sizeLine
      rw [sizeLine_eq]; omega
end Mine
end

section
open PySem PySem.W PyProof.Rows PySem.Calls
set_option Elab.async false
set_option linter.unusedVariables false
namespace Mine
set_option maxRecDepth 10000
set_option maxHeartbeats 4000000
variable {X : Cx} {k : Nat} {H : List Addr}
noncomputable abbrev nTransTop : Nat := 7
/-- what the text's top holds of the translation -/
structure TransK (X : Cx) (ft fb fj fe pa da : Addr) (fdt fdb fdj fde : FuncData) : Prop where
  top : DefAt X "translate" ft fdt ["pat"] (scopeAt nTransTop) (bodyAt nTransTop)
  body : DefAt X "_translate" fb fdb ["pat", "STAR", "QUESTION_MARK"] (scopeAt nTranslateB) (bodyAt nTranslateB)
  join : DefAt X "_join_translated_parts" fj fdj ["inp", "STAR"] (scopeAt nJoin) (bodyAt nJoin)
  esc : DefAt X "escape" fe fde ["pattern"] (scopeAt nEscape) (bodyAt nEscape)
  pat : PatK X pa
  map : SpecMap X da
  tab : ∃ Tb ∈ X.tabs, fdb.code = .ref Tb.c ∧ lamPos.line = Tb.line ∧ lamPos.col = Tb.col ∧ fdb.qualname ++ ".<locals>." ++ "<lambda>" = Tb.qual
  apart : TabsApart X
  built : BuiltK X
theorem trans_runs {L : Addr} {fa ft fb fj fe pa da : Addr} {fdt fdb fdj fde : FuncData} {cd : Value} {q : Str} {l : List Nat} (hl : l.length ≤ 8) (TR : TransK X ft fb fj fe pa da fdt fdb fdj fde) :
    Runs X (k + 4) H (fenv (scopeAt nTransTop) L q fa cd) L [("pat", .str (patL l))] [] (bodyAt nTransTop) (Ret H (.str (joinF l))) := by
  have O : EnvOk (fenv (scopeAt nTransTop) L q fa cd) := ⟨rfl, rfl, rfl⟩
  refine r_object fun star => ?_
  refine r_assign (Evs.i (ev_call TR.body O (evs_cons (ev_name O rfl) (evs_cons (ev_name O rfl) (evs_cons ev_str evs_nil))) (callOk_q TR.body rfl fun L _ => translate_runs (star := star) hl TR.pat TR.map TR.esc ⟨TR.tab, TR.apart, TR.built⟩))) ?_
  exact r_retV (Evs.i (ev_call TR.join O (evs_cons (ev_name O rfl) (evs_cons (ev_name O rfl) evs_nil)) (callOk_of (k := k + 3) TR.join rfl fun L q _ => join_runs hl)))
end Mine
end

section
open PySem PySem.W PyProof.Rows PySem.Calls
set_option Elab.async false
set_option linter.unusedVariables false
namespace Mine
set_option maxRecDepth 10000
set_option maxHeartbeats 400000

/-! exceptions that are let go: what their way turns -/
theorem Base.loose {X : Cx} {h h' : Heap} (B : Base X h) (k : ∀ b o, h.get? b = some o → (b < X.n ∨ ∃ vs q t, o.data = .fields vs ∧ vs[1]? = some (Value.str q t)) → h'.get? b = some o) : Base X h' := by
  have lo : ∀ b o, b < X.n → h.get? b = some o → h'.get? b = some o := fun b o hb e => k b o e (.inl hb)
  refine ⟨B.free, fun b o e => lo _ _ (B.low b o e).1 (B.K b o e), ns_at B.g fun o e => lo _ _ B.low3.1 e, ns_at B.b fun o e => lo _ _ B.low3.2.1 e, B.bb, ?_, ?_, ?_, B.low, B.low3, B.lowT, ?_⟩
  · obtain ⟨mc, x, y⟩ := B.lim
    exact ⟨mc, ns_at x fun o e => lo _ _ B.low3.2.2.1 e, y⟩
  · obtain ⟨mc, x, y⟩ := B.dig
    exact ⟨mc, ns_at x fun o e => lo _ _ B.low3.2.2.1 e, y⟩
  · intro T hT
    obtain ⟨h1, h2⟩ := B.tabs T hT
    have lT := B.lowT T hT
    refine ⟨codeHd_at h1 fun o e => lo _ _ lT.2.1 e, ?_⟩
    rcases h2 with h2 | ⟨c', h2, c, o, vs, t, e1, e2, e3, e4⟩
    · exact .inl (lo _ _ lT.1 h2)
    · exact .inr ⟨c', lo _ _ lT.1 h2, c, o, vs, t, e1, k _ _ e2 (.inr ⟨_, _, _, e3, e4⟩), e3, e4⟩
  · obtain ⟨o, e⟩ := B.big
    have h0 : 0 < X.n := Nat.lt_of_le_of_lt (Nat.zero_le _) B.low3.1
    exact ⟨o, lo _ _ (by omega) e⟩

/-- a record of an exception's way: the exception, an entry of its trace -/
noncomputable def Rec (X : Cx) (h0 : Heap) (b : Addr) (o : Obj) : Prop := h0.get? b = none ∧ X.n ≤ b ∧ ∃ vs, o.data = .fields vs ∧ 6 ≤ vs.size ∧ ∀ q t, vs[1]? ≠ some (Value.str q t)
noncomputable def Tn (X : Cx) (h0 h h' : Heap) : Prop := ∀ b o, h.get? b = some o → (Rec X h0 b o ∧ ∃ o', h'.get? b = some o' ∧ Rec X h0 b o') ∨
  ((∃ sl, h'.get? b = some { o with slots := sl }) ∧ ((b < X.n ∨ ∀ es ep, o.data ≠ .dict es ep) → h'.get? b = some o))
theorem Rec.slots {X : Cx} {h0 : Heap} {b : Addr} {o : Obj} {sl : Array (Option Value)} (r : Rec X h0 b o) : Rec X h0 b { o with slots := sl } := r
section
variable {X : Cx} {h0 h h' h'' : Heap}
theorem Tn.refl (X : Cx) (h0 h : Heap) : Tn X h0 h h := fun b o e => .inr ⟨⟨o.slots, e⟩, fun _ => e⟩
theorem Tn.of (k : ∀ b o, h.get? b = some o → h'.get? b = some o) : Tn X h0 h h' := fun b o e => .inr ⟨⟨o.slots, k b o e⟩, fun _ => k b o e⟩
theorem Tn.trans (x : Tn X h0 h h') (y : Tn X h0 h' h'') : Tn X h0 h h'' := fun b o e => by
  rcases x b o e with ⟨r, o', e', r'⟩ | ⟨⟨sl, e1⟩, e2⟩
  · rcases y b o' e' with ⟨_, o'', e'', r''⟩ | ⟨⟨sl, e1⟩, _⟩
    · exact .inl ⟨r, o'', e'', r''⟩
    · exact .inl ⟨r, _, e1, r'.slots⟩
  · rcases y b _ e1 with ⟨r', o'', e'', r''⟩ | ⟨⟨sl', e3⟩, e4⟩
    · exact .inl ⟨r'.slots (sl := o.slots), o'', e'', r''⟩
    · refine .inr ⟨⟨sl', e3⟩, fun hc => ?_⟩
      have e5 := e2 hc
      have e6 : some { o with slots := sl } = some o := e1.symm.trans e5
      rcases hc with hc | hc
      · exact (e4 (.inl hc)).trans e6
      · exact (e4 (.inr hc)).trans e6
theorem Tn.base (x : Tn X h0 h h') (B : Base X h) : Base X h' := B.loose fun b o e hc => by
  rcases x b o e with ⟨⟨_, hn, vs, hd, _, hs⟩, _⟩ | ⟨_, e2⟩
  · rcases hc with hc | ⟨us, q, t, hd', hq⟩
    · exact absurd hc (Nat.not_lt.mpr hn)
    · rw [hd] at hd'; cases hd'; exact absurd hq (hs q t)
  · refine e2 (hc.imp id fun ⟨us, q, t, hd', hq⟩ es ep q' => ?_)
    rw [hd'] at q'; cases q'
theorem Tn.ext (x : Tn X h0 h h') : Ext X (fun b => h0.get? b = none ∧ X.n ≤ b) h h' := by
  refine ⟨fun b o hw _ e => ?_, fun b o e hd => ?_, x.base⟩
  · rcases x b o e with ⟨r, _⟩ | ⟨e1, e2⟩
    · exact absurd ⟨r.1, r.2.1⟩ hw
    · exact ⟨e1, fun hc => e2 (.inr hc)⟩
  · rcases x b o e with ⟨⟨_, _, vs, hd', _⟩, _⟩ | ⟨⟨sl, e1⟩, e2⟩
    · exact absurd hd' (hd vs)
    · exact ⟨_, e1, hd, fun es ep q => ⟨es, ep, q⟩⟩
theorem Tn.stepW {s : Shared} {tk : Nat} (x : Tn X h0 s.heap h') : StepW X (fun b => h0.get? b = none ∧ X.n ≤ b) s { s with heap := h', toks := tk } := .of x.ext
/-- data in sight stay -/
theorem Tn.seq {H : List Addr} (x : Tn X h0 h h') : SeqSub (vis H h) (vis H h') := fun b o e hf => by
  obtain ⟨h1, h2⟩ := vis_iff.mp e
  refine vis_iff.mpr ⟨h1, ?_⟩
  rcases x b o h2 with ⟨⟨_, _, vs, hd, hz, _⟩, _⟩ | ⟨_, e2⟩
  · rw [hd] at hf; cases hf; simp at hz
  · exact e2 (.inr fun es ep q => by rw [q] at hf; cases hf)
theorem Tn.ns (x : Tn X h0 h h') {a : Addr} {m : Str → Option Value} (n : h.Ns a m) : h'.Ns a m := by
  obtain ⟨o, es, ep, e, hd, r⟩ := n
  rcases x a o e with ⟨⟨_, _, vs, hd', _⟩, _⟩ | ⟨⟨sl, e1⟩, _⟩
  · rw [hd] at hd'; cases hd'
  · exact ⟨_, es, ep, e1, hd, r⟩
theorem Tn.cell (x : Tn X h0 h h') {a : Addr} {m : Option Value} (n : h.IsCell a m) : h'.IsCell a m := by
  obtain ⟨o, e, hd⟩ := n
  rcases x a o e with ⟨⟨_, _, vs, hd', _⟩, _⟩ | ⟨⟨sl, e1⟩, _⟩
  · rw [hd] at hd'; cases hd'
  · exact ⟨_, e1, hd⟩
theorem Tn.plain (x : Tn X h0 h h') {a : Addr} {ys : Array Value} (n : h.PlainList a ys) : h'.PlainList a ys := by
  obtain ⟨n, e⟩ := n
  rcases x a _ e with ⟨⟨_, _, vs, hd', _⟩, _⟩ | ⟨_, e2⟩
  · cases hd'
  · exact ⟨n, e2 (.inr fun es ep q => by cases q)⟩
variable {k : Nat} {H : List Addr} {A : Around} {env : Env} {N : Nat} {ρ : Ro} {μ : Mu} {s : Shared} {tk : Nat}
theorem Tn.frl (x : Tn X h0 s.heap h') (F : FrL X A s.heap) : FrL X A h' := F.ext x.ext
theorem Tn.good (x : Tn X h0 s.heap h') (G : Good X k H A s) : Good X k H A { s with heap := h', toks := tk } := G.step (x.stepW (tk := tk))
theorem Tn.sees (x : Tn X h0 s.heap h') (S : Sees H env s.heap ρ) : Sees H env h' ρ := fun y d hy => by
  obtain ⟨v, l, i⟩ := S y d hy
  refine ⟨v, ?_, i.mono x.seq⟩
  rcases l with ⟨h1, m, h2, h3⟩ | ⟨h1, c, h2, h3⟩ | ⟨h1, hc, c, h2, h3⟩
  · exact .inl ⟨h1, m, x.ns h2, h3⟩
  · exact .inr (.inl ⟨h1, c, h2, x.cell h3⟩)
  · exact .inr (.inr ⟨h1, hc, c, h2, x.cell h3⟩)
theorem Tn.inv (x : Tn X h0 s.heap h') (I : Inv X k H A env N ρ μ s) : Inv X k H A env N ρ μ { s with heap := h', toks := tk } :=
  ⟨I.fr, x.good I.good, x.sees I.sees, let ⟨m, h⟩ := I.loc; ⟨m, x.ns h⟩, fun y c hc => let ⟨v, h⟩ := I.cell y c hc; ⟨v, x.cell h⟩, I.own, fun a ds ha => let ⟨h1, h2, ys, h3, h4⟩ := I.lists a ds ha; ⟨h1, h2, ys, x.plain h3, h4.mono x.seq⟩⟩
end
end Mine
end

section
open PySem PySem.W PyProof.Rows PySem.Calls
set_option Elab.async false
set_option linter.unusedVariables false
namespace Mine
set_option maxRecDepth 10000
set_option maxHeartbeats 400000
noncomputable def Old (h0 h : Heap) : Prop := ∀ b o, h0.get? b = some o → ∃ o', h.get? b = some o'
theorem Old.none {h0 h : Heap} (x : Old h0 h) {a : Addr} (e : h.get? a = none) : h0.get? a = none := by
  cases q : h0.get? a with
  | none => rfl
  | some o => obtain ⟨o', e'⟩ := x a o q; rw [e] at e'; cases e'
theorem Old.tn {X : Cx} {h0 h1 h h' : Heap} (x : Old h0 h) (t : Tn X h1 h h') : Old h0 h' := fun b o e => by
  obtain ⟨o', e'⟩ := x b o e
  rcases t b o' e' with ⟨_, o'', e'', _⟩ | ⟨⟨sl, e1⟩, _⟩
  · exact ⟨_, e''⟩
  · exact ⟨_, e1⟩
theorem Old.step {X : Cx} {W : Addr → Prop} {h0 : Heap} {s s' : Shared} (x : Old h0 s.heap) (B : Base X s.heap) (t : StepW X W s s') (hW : ∀ b, W b → ∀ o, s.heap.get? b = some o → ∀ vs, o.data ≠ .fields vs) : Old h0 s'.heap := fun b o e => by
  obtain ⟨o', e'⟩ := x b o e
  by_cases hw : W b
  · obtain ⟨o2, e2, _⟩ := t.ext.live b o' e' (hW b hw o' e')
    exact ⟨_, e2⟩
  · by_cases hT : b ∈ X.TB
    · obtain ⟨vs, e2⟩ := (t.ext.base B).tabFields hT
      exact ⟨_, e2⟩
    · obtain ⟨sl, e2⟩ := (t.ext.keep b o' hw hT e').1
      exact ⟨_, e2⟩

noncomputable def TbOk (X : Cx) (h0 : Heap) (a : Addr) (tb : Value) : Option (Addr × Value) → Heap → Prop
  | none, _ => tb = .none
  | some (T, fl), h => tb = .ref T ∧ T ≠ a ∧ h0.get? T = none ∧ X.n ≤ T ∧ ∃ oT ts, h.get? T = some oT ∧ oT.data = .fields ts ∧ 6 ≤ ts.size ∧ ts[3]? = some fl ∧ ∃ L, ts[1]? = some (.ref L)
/-- an IndexError of this call's, c its context, noted or not -/
structure Exc (X : Cx) (h0 : Heap) (a : Addr) (c : Value) (st : Option (Addr × Value)) (h : Heap) : Prop where
  new : h0.get? a = none
  low : X.n ≤ a
  obj : ∃ oe t tb, h.get? a = some oe ∧ oe.cls = .type "IndexError" ∧ oe.data = .fields #[t, tb, c, .none, .bool false, .none] ∧ TbOk X h0 a tb st h
section
variable {X : Cx} {h0 : Heap} {a : Addr} {c : Value} {M : Model} {A : Around} {E : Value → Shared → Prop} {s : Shared} {env : Env} {outer : List Env} {L : Addr} {Q : Unit → Shared → Prop}
theorem exc_again {T : Addr} (hf : env.frame = some L) (x : Exc X h0 a c (some (T, rawInt L)) s.heap) (h : Q () s) : wpAny M A (noteFrame (.ref a) env) Q E s := by
  obtain ⟨oe, t, tb, he, hc, hd, rfl, hTa, hT0, hTn, oT, ts, hT, hdT, hz, h3, h1⟩ := x.obj
  unfold noteFrame
  simp only [hf]
  refine wpAny_bind (wpAny_field he hd (i := 1) (x := .ref T) rfl ?_)
  rw [if_pos (show (Value.ref T != Value.none) = true from by simp)]
  refine wpAny_bind (wpAny_field hT hdT h3 ?_)
  rw [if_pos (show (rawInt L == rawInt L) = true from by simp)]
  exact wpAny_pure h
theorem exc_flight {T : Addr} {fl : Value} {fr : Option Addr} (x : Exc X h0 a c (some (T, fl)) s.heap)
    (h : ∀ h', Tn X h0 s.heap h' → Exc X h0 a c (some (T, fr.elim .none fun f => rawInt f)) h' → Q () { s with heap := h' }) : wpAny M A (setFlight (.ref a) fr) Q E s := by
  obtain ⟨oe, t, tb, he, hc, hd, rfl, hTa, hT0, hTn, oT, ts, hT, hdT, hz, h3, L, h1⟩ := x.obj
  unfold setFlight
  refine wpAny_bind (wpAny_field he hd (i := 1) (x := .ref T) rfl ?_)
  rw [if_pos (show (Value.ref T != Value.none) = true from by simp)]
  have hd' := Obj.data_mapFields hdT (·.setIfInBounds 3 (fr.elim Value.none fun f => rawInt f))
  have hs := Heap.get?_update_self (Obj.mapFields (·.setIfInBounds 3 (fr.elim Value.none fun f => rawInt f))) hT (Obj.isFreed_of_fields hd')
  have ho : ∀ b, b ≠ T → (s.heap.update T (Obj.mapFields (·.setIfInBounds 3 (fr.elim Value.none fun f => rawInt f)))).get? b = s.heap.get? b := fun b hb => Heap.get?_update_other _ _ (Ne.symm hb)
  refine wpAny_setField hT hdT (by omega) (h _ (fun b o e => ?_) ⟨x.new, x.low, oe, t, .ref T, ?_, hc, hd, rfl, hTa, hT0, hTn, _, _, hs, hd', ?_, ?_, L, ?_⟩)
  · by_cases hb : b = T
    · subst hb
      rw [hT] at e; cases e
      refine .inl ⟨⟨hT0, hTn, ts, hdT, hz, fun q t => by rw [h1]; simp⟩, _, hs, hT0, hTn, _, hd', by simpa using hz, fun q t => ?_⟩
      rw [Array.getElem?_setIfInBounds_ne (by decide), h1]; simp
    · exact .inr ⟨⟨o.slots, by rw [ho b hb]; exact e⟩, fun _ => by rw [ho b hb]; exact e⟩
  · rw [ho a (Ne.symm hTa)]; exact he
  · simpa using hz
  · rw [Array.getElem?_setIfInBounds_self_of_lt (by omega)]
  · rw [Array.getElem?_setIfInBounds_ne (by decide)]; exact h1
theorem exc_note (hfr : A.frames = some (env :: outer)) (hf : env.frame = some L) (F : FrL X A s.heap) (B : Base X s.heap) (old : Old h0 s.heap) (x : Exc X h0 a c none s.heap)
    (h : ∀ h' T, Tn X h0 s.heap h' → Exc X h0 a c (some (T, rawInt L)) h' → Q () { s with heap := h' }) : wpAny M A (noteFrame (.ref a) env) Q E s := by
  obtain ⟨oe, t, tb, he, hc, hd, rfl⟩ := x.obj
  obtain ⟨l, hl, hff, hfs⟩ := frames_of F
  rw [hfr] at hl; cases hl
  unfold noteFrame
  simp only [hf]
  refine wpAny_bind (wpAny_field he hd (i := 1) (x := .none) rfl ?_)
  rw [if_neg (by decide)]
  have hene : a ∉ (env :: outer).filterMap (·.frame) := fun hm => by
    obtain ⟨_, o, es, ep, ho, hdo⟩ := hfs a hm
    rw [he] at ho; cases ho; rw [hd] at hdo; cases hdo
  refine wpAny_bind (wpAny_frameOf_fun hfr hff hf fun h₁ hs₁ => ?_)
  refine wpAny_bind (wpAny_entryPlaceOf fun pl hpl => ?_)
  unfold EntryCells.newEntry newFields
  refine wpAny_bind (wpAny_newObj_type ?_ (hpl.sizeOk5 _ _ _ _ _))
  have he₁ : h₁.get? a = some oe := (hs₁.2.1 a hene).trans he
  generalize hts : (([Value.none, .ref L, .none, rawInt L, .none] ++ (if pl.isEmpty then List.replicate 6 Value.none else pl)).toArray : Array Value) = ts
  have hz : 6 ≤ ts.size := by
    rw [← hts]
    rcases hpl with rfl | ⟨_, _, _, _, _, _, _, rfl⟩ <;> simp
  have h3 : ts[3]? = some (rawInt L) := by rw [← hts]; simp
  have h1 : ts[1]? = some (.ref L) := by rw [← hts]; simp
  have he₂ := Heap.get?_push_of_some (h := h₁) { cls := .type "traceback", dict := none, data := .fields ts } he₁
  have hsz : h₁.objs.size = s.heap.objs.size := hs₁.1
  have hTa : h₁.objs.size ≠ a := fun q => by rw [← q, hsz, get_size_none] at he; cases he
  have hT0 : h0.get? h₁.objs.size = none := old.none (by rw [hsz]; exact get_size_none _)
  have hTn : X.n ≤ h₁.objs.size := by rw [hsz]; exact B.size
  have hd' := Obj.data_mapFields hd (·.setIfInBounds 1 (Value.ref h₁.objs.size))
  have hsa := Heap.get?_update_self (Obj.mapFields (·.setIfInBounds 1 (Value.ref h₁.objs.size))) he₂ (Obj.isFreed_of_fields hd')
  have ho : ∀ b, b ≠ a → ((h₁.push { cls := .type "traceback", dict := none, data := .fields ts }).update a (Obj.mapFields (·.setIfInBounds 1 (Value.ref h₁.objs.size)))).get? b = (h₁.push { cls := .type "traceback", dict := none, data := .fields ts }).get? b := fun b hb => Heap.get?_update_other _ _ (Ne.symm hb)
  refine wpAny_setField he₂ hd (by simp) (h _ h₁.objs.size (fun b o e => ?_) ⟨x.new, x.low, _, t, .ref h₁.objs.size, hsa, (Obj.cls_mapFields _ _).trans hc, ?_, rfl, hTa, hT0, hTn, _, ts, (ho _ hTa).trans (Heap.get?_push_size _ rfl), rfl, hz, h3, L, h1⟩)
  · by_cases hb : b = a
    · subst hb
      rw [he] at e; cases e
      refine .inl ⟨⟨x.new, x.low, _, hd, by simp, fun q t => by simp⟩, _, hsa, x.new, x.low, _, hd', by simp, fun q t => by simp⟩
    · refine .inr ⟨?_, fun hcc => ?_⟩
      · obtain ⟨sl, e1⟩ := hs₁.2.2 b o e
        exact ⟨sl, (ho b hb).trans (Heap.get?_push_of_some _ e1)⟩
      · refine (ho b hb).trans (Heap.get?_push_of_some _ ((hs₁.2.1 b fun hm => ?_).trans e))
        obtain ⟨hn, o', es, ep, ho', hdo⟩ := hfs b hm
        rw [e] at ho'; cases ho'
        rcases hcc with hcc | hcc
        · exact Nat.lt_irrefl _ (Nat.lt_of_lt_of_le hcc hn)
        · exact hcc _ _ hdo
  · rw [hd']; simp
end
end Mine
end

section
open PySem PySem.W PyProof.Rows PySem.Calls
set_option Elab.async false
set_option linter.unusedVariables false
namespace Mine
set_option maxRecDepth 100000
set_option maxHeartbeats 400000
theorem entry_unchain : entryFor table "proto.unchain" = some Builtin.«proto.unchain» := entryFor_of_tree (by kernel_rfl)
section
variable {X : Cx} {h0 : Heap} {a : Addr} {st : Option (Addr × Value)} {prog : Program} {w : World} {A : Around} {E : Value → Shared → Prop} {s : Shared}
/-- what may be raised now: nothing is in hand, or one whose context is none -/
noncomputable def Can (X : Cx) (h0 : Heap) (A : Around) (h : Heap) : Prop := A.handled = none ∨ ∃ a st, A.handled = some (.ref a) ∧ Exc X h0 a .none st h
theorem raise_in {α : Type} {msg : String} {Q : α → Shared → Prop} (hA : Can X h0 A s.heap) (B : Base X s.heap) (old : Old h0 s.heap)
    (h : ∀ h' tk e c, (∀ b o, s.heap.get? b = some o → h'.get? b = some o) → Exc X h0 e c none h' → (A.handled = none → c = .none) → E (.ref e) { s with heap := h', toks := tk }) : wpAny (model prog w) A (raiseErrorWords "IndexError" msg : Sem α) Q E s := by
  unfold raiseErrorWords
  refine wpAny_bind (wpAny_mkText (wpAny_bind ?_))
  unfold newExc newTuple
  refine wpAny_bind (wpAny_newObj_type ?_)
  refine wpAny_bind (m := firstArgMember _ _) (wpAny_of_eq (a := Value.none) (by simp only [firstArgMember, plainExc_IndexError.first]; rfl) ?_)
  rw [plainExc_IndexError.own]
  refine wpAny_newObj_type ?_
  unfold raiseNew
  refine wpAny_bind (wpAny_handled ?_)
  have k1 : ∀ {ob : Obj} {b o}, s.heap.get? b = some o → ((s.heap.push { cls := .type "tuple", data := .seq [Value.str (Str.ofString msg) s.toks].toArray }).push ob).get? b = some o := fun e => Heap.get?_push_of_some _ (Heap.get?_push_of_some _ e)
  have hz : (s.heap.push { cls := .type "tuple", data := .seq [Value.str (Str.ofString msg) s.toks].toArray }).objs.size = s.heap.objs.size + 1 := Heap.size_push ..
  have hnew : s.heap.get? (s.heap.objs.size + 1) = none := get_none (Nat.le_succ _)
  have hlow : X.n ≤ s.heap.objs.size + 1 := Nat.le_succ_of_le B.size
  rcases hA with hA | ⟨a, st, hA, x⟩
  · rw [hA]
    first
      | refine wpAny_throw ?_
      | refine wpAny_bind (wpAny_pure (wpAny_throw ?_))
    rw [hz]
    exact h _ _ _ .none (fun b o e => k1 e) ⟨old.none hnew, hlow, _, .ref s.heap.objs.size, .none, by rw [← hz]; exact Heap.get?_push_size _ rfl, rfl, by simp, rfl⟩ fun _ => rfl
  · rw [hA]
    obtain ⟨oe, t, tb, he, hc, hd, htb⟩ := x.obj
    rw [hz]
    have hne : (Value.ref a != Value.ref (s.heap.objs.size + 1)) = true := by
      simp only [bne_iff_ne, ne_eq, Value.ref.injEq]
      intro q
      rw [q, hnew] at he; cases he
    simp only [hne, if_true]
    generalize hob : ({ cls := .type "IndexError", dict := none, data := .fields (#[Value.ref s.heap.objs.size, .none, .none, .none, .bool false, .none] ++ #[]) } : Obj) = ob
    generalize hh1 : (s.heap.push { cls := .type "tuple", dict := none, data := .seq [Value.str (Str.ofString msg) s.toks].toArray }) = h1 at *
    have hd1 : ob.data = .fields #[Value.ref s.heap.objs.size, .none, .none, .none, .bool false, .none] := by rw [← hob]; simp
    have hc1 : ob.cls = .type "IndexError" := by rw [← hob]
    have hfr : ob.isFreed = false := Obj.isFreed_of_fields hd1
    have hsz : h1.objs.size = s.heap.objs.size + 1 := hz
    have hown : (h1.push ob).get? (s.heap.objs.size + 1) = some ob := by rw [← hsz]; exact Heap.get?_push_size _ hfr
    have hea : (h1.push ob).get? a = some oe := k1 he
    have hd' := Obj.data_mapFields hd1 (·.setIfInBounds 2 (Value.ref a))
    have hs := Heap.get?_update_self (Obj.mapFields (·.setIfInBounds 2 (Value.ref a))) hown (Obj.isFreed_of_fields hd')
    refine wpAny_bind (wpAny_holding (wpAny_runValue (codeAny_builtin entry_unchain ?_)))
    show wpAny _ _ (field (.ref a) 2 >>= fun context => _) _ _ _
    refine wpAny_bind (wpAny_field hea hd (i := 2) (x := .none) rfl ?_)
    refine wpAny_pure ?_
    show wpAny (model prog w) A (updateField (s.heap.objs.size + 1) 2 (Value.ref a) >>= fun _ => throw (Value.ref (s.heap.objs.size + 1))) Q E _
    refine wpAny_bind ?_
    show wpAny _ _ (setField (.ref (s.heap.objs.size + 1)) 2 (Value.ref a)) _ _ _
    refine wpAny_setField hown hd1 (by simp) (wpAny_throw ?_)
    refine h _ _ _ (.ref a) (fun b o e => ?_) ⟨old.none hnew, hlow, _, .ref s.heap.objs.size, .none, hs, (Obj.cls_mapFields _ _).trans hc1, by rw [hd']; simp, rfl⟩ (fun q => by rw [hA] at q; cases q)
    rw [Heap.get?_update_other _ _ (fun q => by rw [← q, hnew] at e; cases e)]
    exact k1 e
theorem item_out {l : Addr} {items : Array Value} {i : Int} {t : Tok} {Q : Value → Shared → Prop} (hA : Can X h0 A s.heap) (B : Base X s.heap) (old : Old h0 s.heap) (hl : s.heap.IsList l items) (h0i : 0 ≤ i) (hout : (items.size : Int) ≤ i) (hhi : i < 2 ^ 63)
    (h : ∀ h' tk e c, (∀ b o, s.heap.get? b = some o → h'.get? b = some o) → Exc X h0 e c none h' → (A.handled = none → c = .none) → E (.ref e) { s with heap := h', toks := tk }) : wpAny (model prog w) A (getItem (.ref l) (.int i t)) Q E s := by
  obtain ⟨o, ho, hc, ne, hd⟩ := id hl
  unfold getItem
  try with_reducible refine wpAny_holding ?_
  first | refine wpAny_bind (wpAny_pure ?_) | skip
  refine wpAny_bind (wpAny_sequenceKey hl.typeIs (by decide) ?_)
  refine wpAny_bind (wpAny_callSpecial?_slot (name := Str.ofString "__getitem__") hl.typeIs slot_list_getitem
    (wpAny_call_entry slot_list_getitem hl.typeIs entry_list_getitem ?_ (args_list_getitem _ _)))
  show wpAny _ _ (Builtin.List.listSubscript? (.int i t) >>= _) _ _ s
  refine wpAny_bind (wpAny_listSubscript_int (fitsIndex_of h0i hhi) ?_)
  clear hhi
  obtain ⟨j, rfl⟩ := Int.eq_ofNat_of_zero_le h0i
  have hx : items[j]? = none := Array.getElem?_eq_none (Int.ofNat_le.mp hout)
  show wpAny _ _ ((seqItemAt l j >>= fun r => pure (r.map (j, ·))) >>= _) _ _ s
  refine wpAny_bind (wpAny_bind (wpAny_seqItemAt ho hd (wpAny_pure ?_)))
  rw [hx]
  first
    | exact wpAny_bind (wpAny_rule (raise_in hA B old h))
    | exact wpAny_bind (wpAny_rule (wpAny_bind (raise_in hA B old h)))
    | exact wpAny_bind (wpAny_bind (wpAny_rule (raise_in hA B old h)))
    | exact wpAny_rule (raise_in hA B old h)
end
section
variable {X : Cx} {h0 : Heap} {k : Nat} {H : List Addr} {env : Env} {ρ : Ro}
/-- the expression raises an IndexError -/
noncomputable def Outs (X : Cx) (h0 : Heap) (k : Nat) (H : List Addr) (env : Env) (ρ : Ro) (e : PySem.Expr) : Prop :=
  ∀ (A : Around) (s : Shared) (Q : Value → Shared → Prop) (E : Value → Shared → Prop), Good X k H A s → Sees H env s.heap ρ → Old h0 s.heap → Can X h0 A s.heap →
    (∀ a c s1 h' tk, Step X s s1 → Tn X h0 s1.heap h' → Exc X h0 a c none h' → (A.handled = none → c = .none) → E (.ref a) { s1 with heap := h', toks := tk }) → wpAny X.M A (eval e env) Q E s
noncomputable def OutsT (X : Cx) (h0 : Heap) (k : Nat) (H : List Addr) (env : Env) (ρ : Ro) (e : PySem.Expr) : Prop :=
  ∀ (A : Around) (s : Shared) (Q : Bool → Shared → Prop) (E : Value → Shared → Prop), Good X k H A s → Sees H env s.heap ρ → Old h0 s.heap → Can X h0 A s.heap →
    (∀ a c s1 h' tk, Step X s s1 → Tn X h0 s1.heap h' → Exc X h0 a c none h' → (A.handled = none → c = .none) → E (.ref a) { s1 with heap := h', toks := tk }) → wpAny X.M A (isTrue e env (eval e env)) Q E s
end
end Mine
end

section
open PySem PySem.W PyProof.Rows PySem.Calls
set_option Elab.async false
set_option linter.unusedVariables false
namespace Mine
set_option maxRecDepth 10000
set_option maxHeartbeats 400000
/-- what is younger than the call -/
noncomputable abbrev F0 (X : Cx) (h0 : Heap) : Addr → Prop := fun b => h0.get? b = none ∧ X.n ≤ b
noncomputable def Held (env : Env) (st : Option (Addr × Value)) : Prop := st = none ∨ ∃ T L, env.frame = some L ∧ st = some (T, rawInt L)
noncomputable def RunsX (X : Cx) (h0 : Heap) (k : Nat) (H : List Addr) (env : Env) (N : Nat) (ρ : Ro) (μ : Mu) (ss : List Stmt) (R : Post) (T : Around → Shared → Prop) (nc : Bool := false) : Prop :=
  ∀ (A : Around) (s : Shared) (Q : Flow → Shared → Prop) (E : Value → Shared → Prop), Inv X k H A env N ρ μ s → Old h0 s.heap → Can X h0 A s.heap →
    (∀ f s', StepW X (Wr env H N) s s' → R A f s' → Q f s') →
    (∀ a c st s', StepW X (F0 X h0) s s' → Old h0 s'.heap → Exc X h0 a c st s'.heap → (nc = true → A.handled = none → c = .none) → Held env st → T A s' → E (.ref a) s') → wpAny X.M A (execs ss env) Q E s
section
variable {X : Cx} {h0 : Heap} {k : Nat} {H : List Addr} {env : Env} {N : Nat} {ρ : Ro} {μ : Mu} {rest : List Stmt} {R : Post} {T : Around → Shared → Prop} {nc : Bool}
theorem wr_f0 (hN : h0.objs.size ≤ N) {A : Around} (F : FrOk X A env N) {b : Addr} (h : Wr env H N b) : F0 X h0 b := ⟨get_none (Nat.le_trans hN h.1), Nat.le_trans F.low h.1⟩
theorem Inv.wr_nf' {A : Around} {s : Shared} (I : Inv X k H A env N ρ μ s) : ∀ b, Wr env H N b → ∀ o, s.heap.get? b = some o → ∀ vs, o.data ≠ .fields vs := fun b h o e vs => I.wr_nf h e vs
/-- what a run of one's own statements leaves of the exceptions -/
theorem Exc.step {A : Around} {s s' : Shared} {a : Addr} {c : Value} {st : Option (Addr × Value)} {W : Addr → Prop} (x : Exc X h0 a c st s.heap) (B : Base X s.heap) (t : StepW X W s s') (hW : ∀ b, W b → ∀ o, s.heap.get? b = some o → ∀ vs, o.data ≠ .fields vs) : Exc X h0 a c st s'.heap := by
  obtain ⟨oe, tt, tb, he, hc, hd, htb⟩ := x.obj
  have nt : ∀ {b o vs}, s.heap.get? b = some o → o.data = .fields vs → 6 ≤ vs.size → b ∉ X.TB := fun {b o vs} e hd hz q => by
    obtain ⟨T, hT, rfl⟩ := List.mem_map.mp q
    rcases (B.tabs T hT).2 with h2 | ⟨c', h2, _⟩ <;> rw [e] at h2 <;> cases h2 <;> cases hd <;> simp at hz
  have kp : ∀ {b o vs}, s.heap.get? b = some o → o.data = .fields vs → 6 ≤ vs.size → s'.heap.get? b = some o := fun {b o vs} e hd hz =>
    (t.ext.keep b o (fun w => hW b w o e vs hd) (nt e hd hz) e).2 fun es ep q => by rw [hd] at q; cases q
  refine ⟨x.new, x.low, oe, tt, tb, kp he hd (by simp), hc, hd, ?_⟩
  cases st with
  | none => exact htb
  | some p =>
    obtain ⟨T, fl⟩ := p
    obtain ⟨h1, h2, h3, h4, oT, ts, h5, h6, h7, h8⟩ := htb
    exact ⟨h1, h2, h3, h4, oT, ts, kp h5 h6 h7, h6, h7, h8⟩
theorem Can.step {A : Around} {s s' : Shared} {W : Addr → Prop} (x : Can X h0 A s.heap) (B : Base X s.heap) (t : StepW X W s s') (hW : ∀ b, W b → ∀ o, s.heap.get? b = some o → ∀ vs, o.data ≠ .fields vs) : Can X h0 A s'.heap :=
  x.imp id fun ⟨a, st, h1, h2⟩ => ⟨a, st, h1, h2.step (A := A) B t hW⟩
theorem no_nf {s : Shared} : ∀ b, No b → ∀ o, s.heap.get? b = some o → ∀ vs, o.data ≠ .fields vs := fun _ f => f.elim

theorem x_of (h : Runs X k H env N ρ μ rest R) : RunsX X h0 k H env N ρ μ rest R T nc := fun A s Q E I old can hQ hE => h A s Q E I hQ
theorem x_assign {e : PySem.Expr} {d : D} {y : Str} {p pos : Pos} (hN : h0.objs.size ≤ N) (he : EvsI X k H env N ρ μ e d) (h : RunsX X h0 k H env N ((y, d) :: ρ) μ rest R T nc)
    (hy : canBind env y = true := by rfl) (hs : swapsWith e (some (.Name y p)) pos.line env = pure false := by rfl) : RunsX X h0 k H env N ρ μ (.Assign [.Name y p] e pos :: rest) R T nc := by
  intro A s Q E I old can hQ hE
  refine wpAny_execs_cons (wpAny_Assign_Name (he A s _ E I fun v s1 i t => ?_) hs)
  have I1 := I.step t
  refine I1.bind hy i fun s2 t2 I2 => ?_
  have t' := t.no.trans t2
  refine h A s2 Q E I2 ((old.step I.good.base t no_nf).step I1.good.base t2 I1.wr_nf') ((can.step I.good.base t no_nf).step I1.good.base t2 I1.wr_nf') (fun f s3 t3 r => hQ f s3 (t'.trans t3) r) fun a c st s3 t3 => ?_
  exact hE a c st s3 ((t'.mono fun b => wr_f0 hN I.fr).trans t3)
theorem x_if {test : PySem.Expr} {body orelse : List Stmt} {pos : Pos} {b : Bool} (ht : TstI X k H env N ρ μ test b) (h1 : b = true → RunsX X h0 k H env N ρ μ (body ++ rest) R T nc) (h2 : b = false → RunsX X h0 k H env N ρ μ (orelse ++ rest) R T nc) :
    RunsX X h0 k H env N ρ μ (.If test body orelse pos :: rest) R T nc := by
  intro A s Q E I old can hQ hE
  have e : execs (.If test body orelse pos :: rest) env = (standAt pos >>= fun _ => isTrue test env (eval test env) >>= fun c => if c = true then execs (body ++ rest) env else execs (orelse ++ rest) env) := by
    rw [execs_cons, exec_If, bind_assoc]
    refine congrArg (standAt pos >>= ·) (funext fun _ => ?_)
    rw [bind_assoc]
    refine congrArg (isTrue test env (eval test env) >>= ·) (funext fun c => ?_)
    cases c <;> simp only [if_true, Bool.false_eq_true, if_false] <;> rw [execs_append_eq] <;> refine congrArg (_ >>= ·) (funext fun f => ?_) <;> cases f <;> rfl
  rw [e]
  refine wpAny_bind (wpAny_standAt (wpAny_bind (ht A s _ E I fun s1 t => ?_)))
  have o1 := old.step I.good.base t no_nf
  have c1 := can.step I.good.base t no_nf
  cases b with
  | true => exact h1 rfl A s1 Q E (I.step t) o1 c1 (fun f s2 t2 r => hQ f s2 (t.no.trans t2) r) fun a c st s3 t3 => hE a c st s3 (t.no.trans t3)
  | false => exact h2 rfl A s1 Q E (I.step t) o1 c1 (fun f s2 t2 r => hQ f s2 (t.no.trans t2) r) fun a c st s3 t3 => hE a c st s3 (t.no.trans t3)
/-- one statement that does not raise, then the others -/
theorem x_seq {ss : List Stmt} {ρ' : Ro} {μ' : Mu} (hN : h0.objs.size ≤ N) (h : Runs X k H env N ρ μ ss (fun A f s => f = .next ∧ Inv X k H A env N ρ' μ' s)) (h2 : RunsX X h0 k H env N ρ' μ' rest R T nc) : RunsX X h0 k H env N ρ μ (ss ++ rest) R T nc := by
  intro A s Q E I old can hQ hE
  rw [execs_append_eq]
  refine wpAny_bind (h A s _ E I fun f s1 t r => ?_)
  obtain ⟨rfl, I1⟩ := r
  exact h2 A s1 Q E I1 (old.step I.good.base t I.wr_nf') (can.step I.good.base t I.wr_nf') (fun f s2 t2 r => hQ f s2 (t.trans t2) r) fun a c st s3 t3 => hE a c st s3 ((t.mono fun b => wr_f0 hN I.fr).trans t3)

/-! what raises -/
theorem outs_item {value slice : PySem.Expr} {pos : Pos} {l : List D} {i : Nat} (hv : Evs X k H env ρ value (.list l)) (hs : Evs X k H env ρ slice (.int (i : Int))) (hout : l.length ≤ i) (hi : i < 2 ^ 62) (hp : plainSub slice = true := by rfl) : Outs X h0 k H env ρ (.Subscript value slice pos) := by
  intro A s Q E G S0 old can hE
  refine Subscript_ (hv A s _ E G S0 fun v1 s1 i1 t1 => hs A s1 _ E (G.step t1) (S0.step G t1) fun v2 s2 i2 t2 => ?_)
  have G1 := G.step t1
  have G2 := G1.step t2
  obtain ⟨a, vs, rfl, la, iv⟩ := is_list.mp (i1.step G1 t2)
  obtain ⟨t, rfl⟩ := is_int.mp i2
  have hn := iv.length
  have o2 := (old.step G.base t1 no_nf).step G1.base t2 no_nf
  have c2 := (can.step G.base t1 no_nf).step G1.base t2 no_nf
  refine tail_any la.heap.typeIs slot_list_getitem.lookup ?_ (sub_plain hp _ _)
  exact item_out c2 G2.base o2 la.heap (by omega) (by simp; omega) (by omega) fun h' tk e c hk hx hc => hE e c s2 h' tk (t1.trans t2) (.of hk) hx hc
theorem outs_cmp {l r : PySem.Expr} {op : CmpOp} {pos : Pos} (hl : Outs X h0 k H env ρ l) (hm : behindInMarks op r = false := by with_unfolding_all rfl) : OutsT X h0 k H env ρ (.Compare l [op] [r] pos) := by
  intro A s Q E G S0 old can hE
  exact wpAny_isTrue_Compare1 (hl A s _ E G S0 old can hE) hm

theorem x_assignOut {e : PySem.Expr} {y : Str} {p pos : Pos} (he : Outs X h0 k H env ρ e) (hT : ∀ A s, Inv X k H A env N ρ μ s → T A s)
    (hs : swapsWith e (some (.Name y p)) pos.line env = pure false := by rfl) : RunsX X h0 k H env N ρ μ (.Assign [.Name y p] e pos :: rest) R T nc := by
  intro A s Q E I old can hQ hE
  refine wpAny_execs_cons (wpAny_Assign_Name (he A s _ E I.good I.sees old can fun a c s1 h' tk t1 tn x hc => ?_) hs)
  have I1 := I.step t1
  have o1 := old.step I.good.base t1 no_nf
  exact hE a c none _ (t1.no.trans tn.stepW) (o1.tn tn) x (fun _ => hc) (.inl rfl) (hT A _ (tn.inv I1))
/-- noted: whether it was before or not -/
theorem note_any {A : Around} {s : Shared} {a : Addr} {c : Value} {st : Option (Addr × Value)} {Q : Unit → Shared → Prop} {E : Value → Shared → Prop} (I : Inv X k H A env N ρ μ s) (old : Old h0 s.heap) (x : Exc X h0 a c st s.heap) (hst : Held env st)
    (h : ∀ h' T, Tn X h0 s.heap h' → Exc X h0 a c (some (T, rawInt env.locals)) h' → Q () { s with heap := h' }) : wpAny X.M A (noteFrame (.ref a) env) Q E s := by
  obtain ⟨hf, outer, hfr⟩ := I.fr.top
  rcases hst with rfl | ⟨T, L, hL, rfl⟩
  · exact exc_note hfr hf I.good.fr I.good.base old x h
  · rw [hf] at hL; cases hL
    exact exc_again hf x (h _ T (Tn.refl _ _ _) x)
/-- a while whose test raises at once -/
theorem x_whileOut {test : PySem.Expr} {body : List Stmt} {pos : Pos} (he : OutsT X h0 k H env ρ test) (hT : ∀ A s, Inv X k H A env N ρ μ s → T A s) : RunsX X h0 k H env N ρ μ (.While test body [] pos :: rest) R T nc := by
  intro A s Q E I old can hQ hE
  refine wpAny_execs_cons (wpAny_While (codeAny_whileLoop (fun n s' => n = 0 ∧ s' = s) ?_ 0 ⟨rfl, rfl⟩))
  rintro n s' ⟨rfl, rfl⟩
  refine he A s' _ _ I.good I.sees old can fun a c s1 h' tk t1 tn x hc => ?_
  have I1 := tn.inv (tk := tk) (I.step t1)
  have o1 := (old.step I.good.base t1 no_nf).tn tn
  show wpAny X.M A (noteFrame (.ref a) env) _ _ _
  refine note_any I1 o1 x (.inl rfl) fun h2 T2 tn2 x2 => ?_
  have I2 := tn2.inv (tk := tk) I1
  have o2 := o1.tn tn2
  obtain ⟨hf, outer, hfr⟩ := I.fr.top
  obtain ⟨oe, tt, tb, he', hc', hd, rfl, _⟩ := x2.obj
  show wpAny X.M A (do
    if (← field (.ref a) 1) == .none then unsupported "frame.own-activation:exception-without-traceback"
    setFlight (.ref a) env.frame) _ _ _
  refine wpAny_bind (wpAny_field he' hd (i := 1) (x := .ref T2) rfl ?_)
  rw [if_neg (by simp)]
  rw [hf]
  refine exc_flight x2 fun h3 tn3 x3 => ?_
  have tt : StepW X (F0 X h0) s' { s1 with heap := h3, toks := tk } := ((t1.no.trans (tn.stepW (tk := tk))).trans (tn2.stepW (tk := tk))).trans (tn3.stepW (tk := tk))
  exact hE a c _ _ tt (o2.tn tn3) x3 (fun _ => hc) (.inr ⟨T2, env.locals, hf, rfl⟩) (hT A _ (tn3.inv (tk := tk) I2))
end
end Mine
end

section
open PySem PySem.W PyProof.Rows PySem.Calls
set_option Elab.async false
set_option linter.unusedVariables false
namespace Mine
set_option maxRecDepth 10000
set_option maxHeartbeats 400000
section
variable {X : Cx} {h0 : Heap} {k : Nat} {H : List Addr} {env : Env} {N : Nat} {ρ : Ro} {μ : Mu} {rest : List Stmt} {R : Post} {T : Around → Shared → Prop} {nc : Bool}
theorem x_whileF {test : PySem.Expr} {body : List Stmt} {pos : Pos} (hN : h0.objs.size ≤ N) (ht : TstI X k H env N ρ μ test false) (h : RunsX X h0 k H env N ρ μ rest R T nc) : RunsX X h0 k H env N ρ μ (.While test body [] pos :: rest) R T nc :=
  x_seq (ss := [.While test body [] pos]) hN (r_while (σ := Unit) (fun _ => ρ) (fun _ => μ) (fun _ => True) (fun _ => 0) () trivial (fun _ _ h => h) (fun _ _ h => h) fun _ _ => ⟨false, ht, (fun q => by cases q), fun _ => r_nil fun A s I => ⟨rfl, I⟩⟩) h
theorem x_aug {e : PySem.Expr} {a b : Int} {y : Str} {p pos : Pos} (hN : h0.objs.size ≤ N) (hρ : ρ.lookup y = some (.int a)) (he : EvsI X k H env N ρ μ e (.int b)) (h : RunsX X h0 k H env N ((y, .int (a + b)) :: ρ) μ rest R T nc)
    (hy : canBind env y = true := by rfl) : RunsX X h0 k H env N ρ μ (.AugAssign (.Name y p) .Add e pos :: rest) R T nc :=
  x_seq (ss := [.AugAssign (.Name y p) .Add e pos]) hN (r_aug hρ he (r_nil fun A s I => ⟨rfl, I⟩) hy) h
theorem x_append {a : Addr} {y : Str} {e : PySem.Expr} {d : D} {ds : List D} {p apos cpos pos : Pos} (hN : h0.objs.size ≤ N) (hρ : ρ.lookup y = some (.addr a)) (hm : μ.lookup a = some ds) (he : EvsI X k H env N ρ μ e d) (h : RunsX X h0 k H env N ρ ((a, ds ++ [d]) :: μ) rest R T nc)
    (hl : ds.length ≤ sizeLine) (hd : (y == ("__debug__" : Str)) = false := by decide)
    (hbase : attributeBase (.Name y p) "append" env (eval (.Name y p) env) = eval (.Name y p) env := by rfl) (hline : (apos.endLine == cpos.line) = true := by rfl)
    (hse : starEach [e] env = [(false, eval e env)] := by rfl) (hi : interactive env = false := by rfl) : RunsX X h0 k H env N ρ μ (.Expr (.Call (.Attribute (.Name y p) "append" apos) [e] [] cpos) pos :: rest) R T nc :=
  x_seq (ss := [.Expr (.Call (.Attribute (.Name y p) "append" apos) [e] [] cpos) pos]) hN (r_append hρ hm he (r_nil fun A s I => ⟨rfl, I⟩) hl hd hbase hline hse hi) h
theorem x_sub {ρ' : Ro} {μ' : Mu} {ss : List Stmt} (h : RunsX X h0 k H env N ρ' μ' ss R T nc) (q : ∀ x d, ρ'.lookup x = some d → ρ.lookup x = some d) (q' : ∀ x d, μ'.lookup x = some d → μ.lookup x = some d) : RunsX X h0 k H env N ρ μ ss R T nc :=
  fun A s Q E I old can hQ hE => h A s Q E (I.sub q q') old can hQ hE

/-- what holds where it is raised stays while it is noted -/
structure TOk (X : Cx) (h0 : Heap) (k : Nat) (H : List Addr) (env : Env) (N : Nat) (T : Around → Shared → Prop) : Prop where
  inv : ∀ A s, T A s → ∃ ρ μ, Inv X k H A env N ρ μ s
  tn : ∀ A s h' tk, T A s → Tn X h0 s.heap h' → T A { s with heap := h', toks := tk }
theorem TOk.ofInv {σ : Type} {J : σ → Ro} {Jm : σ → Mu} {P : σ → Prop} : TOk X h0 k H env N (fun A s => ∃ x, P x ∧ Inv X k H A env N (J x) (Jm x) s) :=
  ⟨fun A s ⟨x, _, I⟩ => ⟨_, _, I⟩, fun A s h' tk ⟨x, p, I⟩ t => ⟨x, p, t.inv I⟩⟩
/-- noted and given back to the frame that is there -/
theorem back_up {A A' : Around} {s : Shared} {a : Addr} {c : Value} {st : Option (Addr × Value)} {E : Value → Shared → Prop} {k' : Nat} (I : Inv X k' H A env N ρ μ s) (old : Old h0 s.heap) (x : Exc X h0 a c st s.heap) (hst : Held env st)
    (h : ∀ h' T, Tn X h0 s.heap h' → Exc X h0 a c (some (T, rawInt env.locals)) h' → E (.ref a) { s with heap := h' }) : notedBy X.M A env (cameBackBy X.M A' env E) (.ref a) s := by
  obtain ⟨hf, outer, hfr⟩ := I.fr.top
  show wpAny X.M A (noteFrame (.ref a) env) _ _ _
  refine note_any I old x hst fun h2 T2 tn2 x2 => ?_
  obtain ⟨oe, tt, tb, he', hc', hd, rfl, _⟩ := x2.obj
  show wpAny X.M A' (do
    if (← field (.ref a) 1) == .none then unsupported "frame.own-activation:exception-without-traceback"
    setFlight (.ref a) env.frame) _ _ _
  refine wpAny_bind (wpAny_field he' hd (i := 1) (x := .ref T2) rfl ?_)
  rw [if_neg (by simp)]
  rw [hf]
  exact exc_flight x2 fun h3 tn3 x3 => h h3 T2 (tn2.trans tn3) x3

/-- try: while .. finally: .., the while done at once -/
theorem x_finF {test : PySem.Expr} {wb fs : List Stmt} {f0 : Stmt} {wp pos : Pos} {ρ3 : Ro} {μ3 : Mu} (hN : h0.objs.size ≤ N) (TO : TOk X h0 k H env N T) (ht : TstI X k H env N ρ μ test false)
    (hf : RunsX X h0 k H env N ρ μ (f0 :: fs) (fun A f s => f = .next ∧ Inv X k H A env N ρ3 μ3 s) T nc) (h : Runs X k H env N ρ3 μ3 rest R) : RunsX X h0 k H env N ρ μ (.Try [.While test wb [] wp] [] [] (f0 :: fs) pos :: rest) R T nc := by
  intro A s Q E I old can hQ hE
  have hw : Runs X k H env N ρ μ [.While test wb [] wp] (fun A f s => f = .next ∧ Inv X k H A env N ρ μ s) :=
    r_while (σ := Unit) (fun _ => ρ) (fun _ => μ) (fun _ => True) (fun _ => 0) () trivial (fun _ _ h => h) (fun _ _ h => h) fun _ _ => ⟨false, ht, (fun q => by cases q), fun _ => r_nil fun A s I => ⟨rfl, I⟩⟩
  refine wpAny_execs_cons (wpAny_Try_finally (hw A s _ _ I fun f s1 t r => ?_))
  obtain ⟨rfl, I1⟩ := r
  refine wpAny_execs_nil (hf A s1 _ _ I1 (old.step I.good.base t I.wr_nf') (can.step I.good.base t I.wr_nf') (fun f s2 t2 r => ?_) fun a c st s2 t2 o2 x2 hc hst hT => ?_)
  · obtain ⟨rfl, I2⟩ := r
    exact h A s2 Q E I2 fun f s3 t3 r => hQ f s3 ((t.trans t2).trans t3) r
  · obtain ⟨ρ', μ', I2⟩ := TO.inv A s2 hT
    refine back_up I2 o2 x2 hst fun h' T' tn x3 => ?_
    exact hE a c _ _ (((t.mono fun b => wr_f0 hN I.fr).trans t2).trans (tn.stepW (tk := s2.toks))) (o2.tn tn) x3 hc (.inr ⟨T', env.locals, I.fr.top.1, rfl⟩) (TO.tn A s2 h' s2.toks hT tn)
/-- try: while .. finally: .., the while's test raising at once -/
theorem x_finOut {test : PySem.Expr} {wb fs : List Stmt} {f0 : Stmt} {wp pos : Pos} {ρ4 ρ5 : Ro} {μ4 μ5 : Mu} (hN : h0.objs.size ≤ N) (he : OutsT X h0 (k + 1) H env ρ test)
    (hf : RunsX X h0 0 H env N ρ μ (f0 :: fs) (fun A f s => f = .next ∧ Inv X 0 H A env N ρ4 μ4 s) (fun A s => Inv X 0 H A env N ρ5 μ5 s))
    (hT4 : ∀ A s, Inv X (k + 1) H A env N ρ4 μ4 s → T A s) (hT5 : ∀ A s, Inv X (k + 1) H A env N ρ5 μ5 s → T A s) : RunsX X h0 (k + 1) H env N ρ μ (.Try [.While test wb [] wp] [] [] (f0 :: fs) pos :: rest) R T false := by
  intro A s Q E I old can hQ hE
  have hh := I.good.ok.handled (Nat.succ_ne_zero _)
  obtain ⟨hfr, outer, hfs⟩ := I.fr.top
  refine wpAny_execs_cons (wpAny_Try_finally ?_)
  refine x_whileOut (rest := []) (nc := true) (R := fun _ _ _ => False) (T := fun A s => Inv X (k + 1) H A env N ρ μ s) he (fun A s I => I) A s _ _ I old can (fun f s1 t r => r.elim) fun a c st s1 t1 o1 x1 hc hst I1 => ?_
  have hc := hc rfl hh
  subst hc
  refine note_any I1 o1 x1 hst fun h2 T2 tn2 x2 => ⟨ref_ne_byPass a, ?_⟩
  have I2 := tn2.inv (tk := s1.toks) I1
  have o2 := o1.tn tn2
  refine note_any I2 o2 x2 (.inr ⟨T2, env.locals, hfr, rfl⟩) fun h3 T3 tn3 x3 => ?_
  have I3 := tn3.inv (tk := s1.toks) I2
  have o3 := o2.tn tn3
  refine exc_flight (fr := none) x3 fun h4 tn4 x4 => ?_
  have I4 := tn4.inv (tk := s1.toks) I3
  have o4 := o3.tn tn4
  have t4 : StepW X (F0 X h0) s { s1 with heap := h4 } := ((t1.trans (tn2.stepW (tk := s1.toks))).trans (tn3.stepW (tk := s1.toks))).trans (tn4.stepW (tk := s1.toks))
  refine hf (A.mark (some (.ref a))) { s1 with heap := h4 } _ _ (I4.mark (.ref a)) o4 (.inr ⟨a, _, rfl, x4⟩) (fun f s5 t5 r => ?_) fun a6 c6 st6 s6 t6 o6 x6 _ hst6 I6 => ?_
  · obtain ⟨rfl, I5⟩ := r
    have x5 := x4.step (A := A) I4.good.base t5 I4.wr_nf'
    have o5 := o4.step I4.good.base t5 I4.wr_nf'
    obtain ⟨oe, tt, tb, he', hc', hd, rfl, _⟩ := x5.obj
    show wpAny X.M A (PySem.passOn "try.finally" (.ref a) env) _ E s5
    unfold PySem.passOn
    refine wpAny_bind (wpAny_field he' hd (i := 1) (x := .ref T3) rfl ?_)
    rw [if_neg (by simp)]
    rw [hfr]
    refine wpAny_bind (exc_flight x5 fun h6 tn6 x6 => wpAny_throw ?_)
    exact hE a .none _ _ ((t4.trans (t5.mono fun b => wr_f0 hN I.fr)).trans (tn6.stepW (tk := s5.toks))) (o5.tn tn6) x6 (fun q => by cases q) (.inr ⟨T3, env.locals, hfr, rfl⟩) (hT4 A _ (tn6.inv (tk := s5.toks) (I5.unmark I.good.ok)))
  · refine back_up I6 o6 x6 hst6 fun h' T' tn x7 => ?_
    exact hE a6 c6 _ _ ((t4.trans t6).trans (tn.stepW (tk := s6.toks))) (o6.tn tn) x7 (fun q => by cases q) (.inr ⟨T', env.locals, hfr, rfl⟩) (hT5 A _ (tn.inv (tk := s6.toks) (I6.unmark I.good.ok)))
end
end Mine
end

section
open PySem PySem.W PyProof.Rows PySem.Calls
set_option Elab.async false
set_option linter.unusedVariables false
namespace Mine
set_option maxRecDepth 10000
set_option maxHeartbeats 400000
section
variable {X : Cx} {k : Nat} {H : List Addr} {env : Env} {N : Nat} {ρ : Ro} {μ : Mu} {rest : List Stmt} {R : Post} {A : Around} {s : Shared} {Q : Flow → Shared → Prop} {E : Value → Shared → Prop}
theorem seq_at {ss : List Stmt} {ρ' : Ro} {μ' : Mu} (h : Runs X k H env N ρ μ ss (fun A f s => f = .next ∧ Inv X k H A env N ρ' μ' s)) (I : Inv X k H A env N ρ μ s)
    (hn : ∀ s1, StepW X (Wr env H N) s s1 → Inv X k H A env N ρ' μ' s1 → wpAny X.M A (execs rest env) Q E s1) : wpAny X.M A (execs (ss ++ rest) env) Q E s := by
  rw [execs_append_eq]
  refine wpAny_bind (h A s _ E I fun f s1 t r => ?_)
  obtain ⟨rfl, I1⟩ := r
  exact hn s1 t I1
theorem r_two {e : PySem.Expr} {d : D} {x y : Str} {p1 p2 pos : Pos} (he : EvsI X k H env N ρ μ e d) (h : Runs X k H env N ((y, d) :: (x, d) :: ρ) μ rest R) (hf : d.flat = true := by rfl)
    (hx : canBind env x = true := by rfl) (hy : canBind env y = true := by rfl) (hq : (assignEach [.Name x p1, .Name y p2] env).map (·.2) = [assign (.Name x p1) env, assign (.Name y p2) env] := by rfl)
    (hw : swappedStores [.Name x p1, .Name y p2] e env = pure none := by rfl) : Runs X k H env N ρ μ (.Assign [.Name x p1, .Name y p2] e pos :: rest) R := by
  intro A s Q E I hQ
  refine wpAny_execs_cons (wpAny_Assign_two (he A s _ E I fun v s1 i t => ?_) hq hw)
  refine wpAny_assign_Name ((I.step t).bind hx i fun s2 t2 I2 => wpAny_assign_Name (I2.bind hy (i.flat hf) fun s3 t3 I3 => ?_))
  exact h A s3 Q E I3 fun f s4 t4 r => hQ f s4 (((t.no.trans t2).trans t3).trans t4) r
theorem m_extend : MethOk "list" "extend" "list.extend" := ⟨F.plainAttrs_list, F.slot_list_extend, F.type_list_extend⟩
theorem r_extend {a : Addr} {y : Str} {e : PySem.Expr} {ds es : List D} {p apos cpos pos : Pos} (hρ : ρ.lookup y = some (.addr a)) (hm : μ.lookup a = some ds) (he : EvsI X k H env N ρ μ e (.list es)) (h : Runs X k H env N ρ ((a, ds ++ es) :: μ) rest R)
    (hl : ds.length + es.length ≤ sizeLine) (hd : (y == ("__debug__" : Str)) = false := by decide)
    (hbase : attributeBase (.Name y p) "extend" env (eval (.Name y p) env) = eval (.Name y p) env := by rfl) (hline : (apos.endLine == cpos.line) = true := by rfl)
    (hse : starEach [e] env = [(false, eval e env)] := by rfl) (hi : interactive env = false := by rfl) : Runs X k H env N ρ μ (.Expr (.Call (.Attribute (.Name y p) "extend" apos) [e] [] cpos) pos :: rest) R := by
  refine r_expr (fun A s Q E I hQ => ?_) h hi
  refine Call_method1 hbase hse hline ?_
  refine (ev_name (X := X) (k := k) (H := H) I.fr.eok hρ hd) A s _ E I.good I.sees fun v1 s1 i1 t1 => ?_
  rw [is_addr.mp i1]
  have I1 := I.step t1
  obtain ⟨_, _, ys0, ⟨n0, e0⟩, _⟩ := I1.lists a ds hm
  refine ⟨"list", "list.extend", m_extend.pa, m_extend.slot, m_extend.ty, ⟨_, e0, rfl⟩, (fun b q => by cases q; exact ⟨_, e0, rfl⟩), ?_⟩
  refine Calls.callWith_builtin rfl (Calls.evalArgs_plain (Calls.spliced_cons (he A s1 _ E I1 fun v2 s2 i2 t2 => Calls.spliced_nil ?_)))
  have I2 := I1.step t2
  obtain ⟨haH, _, ys, ⟨n, hy⟩, iy⟩ := I2.lists a ds hm
  obtain ⟨b, vs, rfl, ⟨nb, hb⟩, iv⟩ := is_list.mp i2
  have hb' := (vis_iff.mp hb).2
  have l1 := iy.length
  have l2 := iv.length
  have lz : ys.size + vs.toArray.size ≤ sizeLine := by simp at l1 ⊢; omega
  refine call_meets F.slot_list_extend (T := "list") ⟨_, hy, rfl⟩ F.entry_list_extend (F.args_list_extend_2 _ _) (PySem.AutoSeq1.list_extend_list_list_0 a ys n b vs.toArray nb ?_ (by omega) (by omega)) ⟨hy, hb', ?_⟩
  · unfold Builtin.List.listTooLong
    simp only [Bool.and_eq_true, not_and]
    intro _
    simp; simp at lz; omega
  · have hp : (s2.heap.update a (Obj.mapSeq fun x => x ++ vs.toArray)).PlainList a (ys ++ vs.toArray) := by
      exact ⟨if (ys ++ vs.toArray).size == ys.size then n else n + 1, Heap.get?_update_self _ hy rfl⟩
    obtain ⟨t3, I3⟩ := I2.put (es := es) (zs := vs.toArray) (tk := s2.toks) hm ⟨n, hy⟩ hp (Heap.SameBut.update ..) (by simpa using iy.append iv)
    exact hQ _ ((t1.trans t2).no.trans t3) I3
end
end Mine
end

section
open PySem PySem.W PyProof.Rows PySem.Calls
set_option Elab.async false
set_option linter.unusedVariables false
namespace Mine
set_option maxRecDepth 10000
set_option maxHeartbeats 400000
noncomputable abbrev Words := List (List Nat)
/-- what a list has alone -/
noncomputable def lone (l m : Words) : Words := l.filter fun x => decide (x ∉ m)
noncomputable def Rises (l : Words) : Prop := l.Pairwise (· < ·)
theorem lone_nil (l : Words) : lone l [] = l := by simp [lone]
theorem lt_asymm' {a b : List Nat} (h : a < b) : ¬ b < a := fun q => List.lt_irrefl _ (List.lt_trans h q)
theorem eq_of_not_lt {a b : List Nat} (h : ¬ a < b) (h2 : ¬ b < a) : a = b := List.le_antisymm (List.not_lt.mp h2) (List.not_lt.mp h)
theorem lone_lt {e a : List Nat} {l m : Words} (hm : Rises (a :: m)) (h : e < a) : lone (e :: l) (a :: m) = e :: lone l (a :: m) ∧ lone (a :: m) (e :: l) = lone (a :: m) l := by
  have ne : ∀ x ∈ a :: m, e < x := fun x hx => by
    rcases List.mem_cons.mp hx with rfl | hx
    · exact h
    · exact List.lt_trans h ((List.pairwise_cons.mp hm).1 x hx)
  have hn : e ∉ a :: m := fun q => List.lt_irrefl _ (ne e q)
  refine ⟨?_, ?_⟩
  · unfold lone; rw [List.filter_cons, if_pos (by simpa using hn)]
  · unfold lone
    refine List.filter_congr fun x hx => ?_
    have : x ≠ e := fun q => List.lt_irrefl _ (q ▸ ne x hx)
    simp [this]
theorem lone_eq {e : List Nat} {l m : Words} (hl : Rises (e :: l)) : lone (e :: l) (e :: m) = lone l m := by
  have hn : ∀ x ∈ l, x ≠ e := fun x hx q => List.lt_irrefl _ (q ▸ (List.pairwise_cons.mp hl).1 x hx)
  unfold lone
  rw [List.filter_cons, if_neg (by simp)]
  refine List.filter_congr fun x hx => ?_
  simp [hn x hx]
structure Pos2 (l m : Words) (i j : Nat) (ms us : Words) : Prop where
  hi : i ≤ l.length
  hj : j ≤ m.length
  h1 : ms ++ lone (l.drop i) (m.drop j) = lone l m
  h2 : us ++ lone (m.drop j) (l.drop i) = lone m l
  l1 : ms.length ≤ i
  l2 : us.length ≤ j
section
variable {l m ms us : Words} {i j : Nat} {e a : List Nat}
theorem Pos2.zero (l m : Words) : Pos2 l m 0 0 [] [] := ⟨Nat.zero_le _, Nat.zero_le _, rfl, rfl, Nat.le_refl _, Nat.le_refl _⟩
theorem drop_cons (h : l[i]? = some e) : l.drop i = e :: l.drop (i + 1) := by
  obtain ⟨hi, he⟩ := List.getElem?_eq_some_iff.mp h
  rw [← he]; exact List.drop_eq_getElem_cons hi
theorem rises_drop (hl : Rises l) (i : Nat) : Rises (l.drop i) := hl.sublist (List.drop_sublist i l)
theorem Pos2.lt (x : Pos2 l m i j ms us) (hm : Rises m) (he : l[i]? = some e) (ha : m[j]? = some a) (h : e < a) : Pos2 l m (i + 1) j (ms ++ [e]) us := by
  obtain ⟨hi, _⟩ := List.getElem?_eq_some_iff.mp he
  have h1 := x.h1
  have h2 := x.h2
  have hr := rises_drop hm j
  rw [drop_cons he, drop_cons ha] at h1 h2
  rw [drop_cons ha] at hr
  obtain ⟨q1, q2⟩ := lone_lt (l := l.drop (i + 1)) hr h
  refine ⟨hi, x.hj, ?_, ?_, by simp; have := x.l1; omega, x.l2⟩
  · rw [drop_cons ha, ← h1, q1]; simp
  · rw [drop_cons ha, ← h2, q2]
theorem Pos2.swap (x : Pos2 l m i j ms us) : Pos2 m l j i us ms := ⟨x.hj, x.hi, x.h2, x.h1, x.l2, x.l1⟩
theorem Pos2.gt (x : Pos2 l m i j ms us) (hl : Rises l) (he : l[i]? = some e) (ha : m[j]? = some a) (h : a < e) : Pos2 l m i (j + 1) ms (us ++ [a]) := (x.swap.lt hl ha he h).swap
theorem Pos2.eq (x : Pos2 l m i j ms us) (hl : Rises l) (hm : Rises m) (he : l[i]? = some e) (ha : m[j]? = some e) : Pos2 l m (i + 1) (j + 1) ms us := by
  obtain ⟨hi, _⟩ := List.getElem?_eq_some_iff.mp he
  obtain ⟨hj, _⟩ := List.getElem?_eq_some_iff.mp ha
  have h1 := x.h1
  have h2 := x.h2
  have hr := rises_drop hm j
  have hs := rises_drop hl i
  rw [drop_cons he, drop_cons ha] at h1 h2
  rw [drop_cons ha] at hr
  rw [drop_cons he] at hs
  rw [lone_eq hs] at h1
  rw [lone_eq hr] at h2
  exact ⟨hi, hj, h1, h2, Nat.le_succ_of_le x.l1, Nat.le_succ_of_le x.l2⟩
theorem Pos2.done (x : Pos2 l m i j ms us) (h : l.length ≤ i ∨ m.length ≤ j) : ms ++ l.drop i = lone l m ∧ us ++ m.drop j = lone m l := by
  have h1 := x.h1
  have h2 := x.h2
  rcases h with h | h
  · rw [List.drop_eq_nil_of_le h] at h1 h2 ⊢
    rw [lone_nil] at h2
    exact ⟨h1, h2⟩
  · rw [List.drop_eq_nil_of_le h] at h1 h2 ⊢
    rw [lone_nil] at h1
    exact ⟨h1, h2⟩
theorem rises_next (hl : Rises l) (h : l[i]? = some e) {b : List Nat} (h2 : l[i + 1]? = some b) : b ≠ e := by
  have hs := rises_drop hl i
  rw [drop_cons h] at hs
  have : b ∈ l.drop (i + 1) := by
    rw [drop_cons h2]; exact List.mem_cons_self ..
  exact fun q => List.lt_irrefl _ (q ▸ (List.pairwise_cons.mp hs).1 b this)
end
end Mine
end

section
open PySem PySem.W PyProof.Rows PySem.Calls
set_option Elab.async false
set_option linter.unusedVariables false
namespace Mine
set_option maxRecDepth 100000
set_option maxHeartbeats 400000
noncomputable abbrev nDiff : Nat := 15
noncomputable def ro8 (am au : Addr) (l m : Words) (i j : Nat) : Ro := [("i", .int i), ("j", .int j), ("missing", .addr am), ("unexpected", .addr au), ("expected", texts l), ("actual", texts m)]
noncomputable def mu8 (am au : Addr) (ms us : Words) : Mu := [(am, ms.map .str), (au, us.map .str)]
structure P8 where
  i : Nat
  j : Nat
  ms : Words
  us : Words
noncomputable def tryB : List Stmt := match bodyAt nDiff with | [_, _, _, .While _ [.Try b _ _ _ _] _ _, _] => b | _ => []
noncomputable def T8 (X : Cx) (k : Nat) (H : List Addr) (env : Env) (N : Nat) (am au : Addr) (l m : Words) : Around → Shared → Prop :=
  fun A s => ∃ x : P8, (Pos2 l m x.i x.j x.ms x.us ∧ (l.length ≤ x.i ∨ m.length ≤ x.j)) ∧ Inv X k H A env N (ro8 am au l m x.i x.j) (mu8 am au x.ms x.us) s
noncomputable def R8 (X : Cx) (k : Nat) (H : List Addr) (env : Env) (N : Nat) (am au : Addr) (l m : Words) (i j : Nat) : Post :=
  fun A f s => f = .next ∧ ∃ x : P8, Pos2 l m x.i x.j x.ms x.us ∧ i + j < x.i + x.j ∧ Inv X k H A env N (ro8 am au l m x.i x.j) (mu8 am au x.ms x.us) s
section
variable {X : Cx} {h0 : Heap} {k : Nat} {H : List Addr} {N : Nat} {am au L fa : Addr} {q : Str} {cd : Value} {l m ms us : Words} {i j : Nat}
theorem sub_ro8 {ρ : Ro} {i' j' : Nat} (h1 : ρ.lookup (Str.ofString "i") = some (.int i')) (h2 : ρ.lookup (Str.ofString "j") = some (.int j')) (h3 : ρ.lookup (Str.ofString "missing") = some (.addr am)) (h4 : ρ.lookup (Str.ofString "unexpected") = some (.addr au)) (h5 : ρ.lookup (Str.ofString "expected") = some (texts l)) (h6 : ρ.lookup (Str.ofString "actual") = some (texts m)) :
    ∀ x d, (ro8 am au l m i' j').lookup x = some d → ρ.lookup x = some d := sub_cons h1 (sub_cons h2 (sub_cons h3 (sub_cons h4 (sub_cons h5 (sub_cons h6 sub_nil)))))
theorem text_at (h : l[i]? = some x) : (l.map D.str)[i]? = some (.str x) := by rw [List.getElem?_map, h]; rfl
theorem mu8_a {μ : Mu} (h1 : μ.lookup am = some (ms.map .str)) (h2 : μ.lookup au = some (us.map .str)) : ∀ x d, (mu8 am au ms us).lookup x = some d → μ.lookup x = some d := mu_sub2 h1 h2
theorem evx {env : Env} {ρ : Ro} {value slice : PySem.Expr} {pos : Pos} {x : List Nat} (hv : Evs X k H env ρ value (texts l)) (hs : Evs X k H env ρ slice (.int (i : Int))) (h : l[i]? = some x) (hb : l.length ≤ 1000) (hp : plainSub slice = true := by rfl) : Evs X k H env ρ (.Subscript value slice pos) (.str x) :=
  ev_item hv hs (j := i) (by rw [List.length_map]; exact seq_nat (List.getElem?_eq_some_iff.mp h).1) (text_at h) (by rw [List.length_map]; omega) hp
theorem outx {env : Env} {ρ : Ro} {value slice : PySem.Expr} {pos : Pos} (hv : Evs X k H env ρ value (texts l)) (hs : Evs X k H env ρ slice (.int (i : Int))) (h : l.length ≤ i) (hb : i ≤ 2000) (hp : plainSub slice = true := by rfl) : Outs X h0 k H env ρ (.Subscript value slice pos) :=
  outs_item hv hs (by rw [List.length_map]; exact h) (by omega) hp
noncomputable def finB : List Stmt := match tryB with | [_, _, .If _ _ [.If _ _ [_, .Try _ _ _ f _] _] _] => f | _ => []
theorem diff_fin {ρ : Ro} {μ : Mu} {T : Around → Shared → Prop} {nc : Bool} {e : List Nat} (hN : h0.objs.size ≤ N) (bm : m.length ≤ 1000) (hj : j ≤ m.length) (hm : Rises m) (ha : m[j]? = some e) (h2 : ρ.lookup (Str.ofString "j") = some (.int j)) (h6 : ρ.lookup (Str.ofString "actual") = some (texts m)) (h7 : ρ.lookup (Str.ofString "a") = some (.str e))
    (hT : ∀ A s, Inv X k H A (fenv (scopeAt nDiff) L q fa cd) N (("j", .int (j + 1 : Nat)) :: ρ) μ s → m.length ≤ j + 1 → T A s) :
    RunsX X h0 k H (fenv (scopeAt nDiff) L q fa cd) N ρ μ finB (fun A f s => f = .next ∧ Inv X k H A (fenv (scopeAt nDiff) L q fa cd) N (("j", .int (j + 1 : Nat)) :: ρ) μ s) T nc := by
  have O : EnvOk (fenv (scopeAt nDiff) L q fa cd) := ⟨rfl, rfl, rfl⟩
  have ej : (j : Int) + 1 = ((j + 1 : Nat) : Int) := by omega
  refine x_aug (a := j) (b := 1) hN h2 (Evs.i ev_int) ?_
  rw [ej]
  have l6 : (("j", .int (j + 1 : Nat)) :: ρ : Ro).lookup (Str.ofString "actual") = some (texts m) := by rw [List.lookup_cons]; exact h6
  have l7 : (("j", .int (j + 1 : Nat)) :: ρ : Ro).lookup (Str.ofString "a") = some (.str e) := by rw [List.lookup_cons]; exact h7
  rcases Nat.lt_or_ge (j + 1) m.length with hi2 | hi2
  case inr => exact x_whileOut (outs_cmp (outx (ev_name O l6) (ev_name O rfl) hi2 (by omega))) fun A s I => hT A s I hi2
  have hb := List.getElem?_eq_getElem hi2
  generalize m[j + 1] = b at hb
  refine x_whileF hN (Tst.i (tst_of (ts_cmp (evx (ev_name O l6) (ev_name O rfl) hb bm) (ev_name O l7) cmp_eq_str) (decide_eq_false (rises_next hm ha hb)))) ?_
  exact x_of (r_nil fun A s I => ⟨rfl, I⟩)
theorem diff_body (hN : h0.objs.size ≤ N) (hne : am ≠ au) (hl : Rises l) (hm : Rises m) (bl : l.length ≤ 1000) (bm : m.length ≤ 1000) (P : Pos2 l m i j ms us) :
    RunsX X h0 (k + 1) H (fenv (scopeAt nDiff) L q fa cd) N (ro8 am au l m i j) (mu8 am au ms us) tryB (R8 X (k + 1) H (fenv (scopeAt nDiff) L q fa cd) N am au l m i j) (T8 X (k + 1) H (fenv (scopeAt nDiff) L q fa cd) N am au l m) false := by
  have O : EnvOk (fenv (scopeAt nDiff) L q fa cd) := ⟨rfl, rfl, rfl⟩
  have hi := P.hi
  have hj := P.hj
  have q1 := P.l1
  have q2 := P.l2
  have ei : (i : Int) + 1 = ((i + 1 : Nat) : Int) := by omega
  have ej : (j : Int) + 1 = ((j + 1 : Nat) : Int) := by omega
  rcases Nat.lt_or_ge i l.length with hil | hil
  case inr => exact x_assignOut (outx (ev_name O rfl) (ev_name O rfl) hil (by omega)) fun A s I => ⟨⟨i, j, ms, us⟩, ⟨P, .inl hil⟩, I⟩
  have he := List.getElem?_eq_getElem hil
  generalize l[i] = e at he
  refine x_assign (d := .str e) hN (Evs.i (evx (ev_name O rfl) (ev_name O rfl) he bl)) ?_
  rcases Nat.lt_or_ge j m.length with hjl | hjl
  case inr => exact x_assignOut (outx (ev_name O rfl) (ev_name O rfl) hjl (by omega)) fun A s I => ⟨⟨i, j, ms, us⟩, ⟨P, .inr hjl⟩, I.sub (sub_ro8 rfl rfl rfl rfl rfl rfl) fun x d h => h⟩
  have ha := List.getElem?_eq_getElem hjl
  generalize m[j] = a at ha
  refine x_assign (d := .str a) hN (Evs.i (evx (ev_name O rfl) (ev_name O rfl) ha bm)) ?_
  refine x_if (Tst.i (ts_cmp (ev_name O rfl) (ev_name O rfl) cmp_lt_str)) (fun h => ?_) (fun h => ?_)
  · -- e < a
    have hlt := of_decide_eq_true h
    have P' := P.lt hm he ha hlt
    refine x_append (ds := ms.map .str) hN rfl mu_self (Evs.i (ev_name (d := .str e) O rfl)) ?_ (by rw [List.length_map, sizeLine_eq]; omega)
    refine x_aug (a := i) (b := 1) hN rfl (Evs.i ev_int) ?_
    rw [ei]
    have em : ms.map D.str ++ [.str e] = (ms ++ [e]).map D.str := by simp
    rw [em]
    have hM : ∀ x d, (mu8 am au (ms ++ [e]) us).lookup x = some d → ((am, (ms ++ [e]).map D.str) :: mu8 am au ms us : Mu).lookup x = some d := mu8_a mu_self (by rw [mu_ne hne.symm]; exact (mu_ne hne.symm).trans mu_self)
    rcases Nat.lt_or_ge (i + 1) l.length with hi2 | hi2
    case inr => exact x_whileOut (outs_cmp (outx (ev_name O rfl) (ev_name O rfl) hi2 (by omega))) fun A s I => ⟨⟨i + 1, j, ms ++ [e], us⟩, ⟨P', .inl hi2⟩, I.sub (sub_ro8 rfl rfl rfl rfl rfl rfl) hM⟩
    have hb := List.getElem?_eq_getElem hi2
    generalize l[i + 1] = b at hb
    refine x_whileF hN (Tst.i (tst_of (ts_cmp (evx (ev_name O rfl) (ev_name O rfl) hb bl) (ev_name O rfl) cmp_eq_str) (decide_eq_false (rises_next hl he hb)))) ?_
    exact x_of (r_nil fun A s I => ⟨rfl, ⟨i + 1, j, ms ++ [e], us⟩, P', by show i + j < i + 1 + j; omega, I.sub (sub_ro8 rfl rfl rfl rfl rfl rfl) hM⟩)
  refine x_if (Tst.i (ts_cmp (ev_name O rfl) (ev_name O rfl) cmp_gt_str)) (fun h2 => ?_) (fun h2 => ?_)
  · have hlt := of_decide_eq_true h2
    have P' := P.gt hl he ha hlt
    refine x_append (ds := us.map .str) hN rfl ((mu_ne hne.symm).trans mu_self) (Evs.i (ev_name (d := .str a) O rfl)) ?_ (by rw [List.length_map, sizeLine_eq]; omega)
    refine x_aug (a := j) (b := 1) hN rfl (Evs.i ev_int) ?_
    rw [ej]
    have em : us.map D.str ++ [.str a] = (us ++ [a]).map D.str := by simp
    rw [em]
    have hM : ∀ x d, (mu8 am au ms (us ++ [a])).lookup x = some d → ((au, (us ++ [a]).map D.str) :: mu8 am au ms us : Mu).lookup x = some d := mu8_a ((mu_ne hne).trans mu_self) mu_self
    rcases Nat.lt_or_ge (j + 1) m.length with hi2 | hi2
    case inr => exact x_whileOut (outs_cmp (outx (ev_name O rfl) (ev_name O rfl) hi2 (by omega))) fun A s I => ⟨⟨i, j + 1, ms, us ++ [a]⟩, ⟨P', .inr hi2⟩, I.sub (sub_ro8 rfl rfl rfl rfl rfl rfl) hM⟩
    have hb := List.getElem?_eq_getElem hi2
    generalize m[j + 1] = b at hb
    refine x_whileF hN (Tst.i (tst_of (ts_cmp (evx (ev_name O rfl) (ev_name O rfl) hb bm) (ev_name O rfl) cmp_eq_str) (decide_eq_false (rises_next hm ha hb)))) ?_
    exact x_of (r_nil fun A s I => ⟨rfl, ⟨i, j + 1, ms, us ++ [a]⟩, P', by show i + j < i + (j + 1); omega, I.sub (sub_ro8 rfl rfl rfl rfl rfl rfl) hM⟩)
  have hea : e = a := eq_of_not_lt (of_decide_eq_false h) (of_decide_eq_false h2)
  subst hea
  have P' := P.eq hl hm he ha
  refine x_aug (a := i) (b := 1) hN rfl (Evs.i ev_int) ?_
  rw [ei]
  let ρ3 : Ro := ("i", .int (i + 1 : Nat)) :: ("a", .str e) :: ("e", .str e) :: ro8 am au l m i j
  have tk : ∀ {k' : Nat} {A : Around} {s : Shared}, Inv X k' H A (fenv (scopeAt nDiff) L q fa cd) N (("j", .int (j + 1 : Nat)) :: ρ3) (mu8 am au ms us) s → Inv X k' H A (fenv (scopeAt nDiff) L q fa cd) N (ro8 am au l m (i + 1) (j + 1)) (mu8 am au ms us) s := fun I => I.sub (sub_ro8 rfl rfl rfl rfl rfl rfl) fun x d h => h
  have hR : ∀ {T : Around → Shared → Prop} {nc : Bool}, RunsX X h0 (k + 1) H (fenv (scopeAt nDiff) L q fa cd) N (("j", .int (j + 1 : Nat)) :: ρ3) (mu8 am au ms us) [] (R8 X (k + 1) H (fenv (scopeAt nDiff) L q fa cd) N am au l m i j) T nc := fun {T nc} =>
    x_of (r_nil fun A s I => ⟨rfl, ⟨i + 1, j + 1, ms, us⟩, P', by show i + j < i + 1 + (j + 1); omega, tk I⟩)
  have hF := fun {k' : Nat} {T : Around → Shared → Prop} {nc : Bool} => diff_fin (X := X) (h0 := h0) (k := k') (H := H) (L := L) (fa := fa) (q := q) (cd := cd) (ρ := ρ3) (μ := mu8 am au ms us) (T := T) (nc := nc) hN bm hj hm ha rfl rfl rfl
  rcases Nat.lt_or_ge (i + 1) l.length with hi2 | hi2
  case inr =>
    refine x_finOut hN (outs_cmp (outx (ev_name O rfl) (ev_name O rfl) hi2 (by omega))) (hF fun A s I _ => I) (fun A s I => ⟨⟨i + 1, j + 1, ms, us⟩, ⟨P', .inl hi2⟩, tk I⟩) (fun A s I => ⟨⟨i + 1, j + 1, ms, us⟩, ⟨P', .inl hi2⟩, tk I⟩)
  have hb := List.getElem?_eq_getElem hi2
  generalize l[i + 1] = b at hb
  refine x_finF hN TOk.ofInv (Tst.i (tst_of (ts_cmp (evx (ev_name O rfl) (ev_name O rfl) hb bl) (ev_name O rfl) cmp_eq_str) (decide_eq_false (rises_next hl he hb)))) (hF fun A s I h => ?_) ?_
  · exact ⟨⟨i + 1, j + 1, ms, us⟩, ⟨P', .inr h⟩, tk I⟩
  · exact r_nil fun A s I => ⟨rfl, ⟨i + 1, j + 1, ms, us⟩, P', by show i + j < i + 1 + (j + 1); omega, tk I⟩
end
end Mine
end

section
open PySem PySem.W PyProof.Rows PySem.Calls
set_option Elab.async false
set_option linter.unusedVariables false
namespace Mine
set_option maxRecDepth 100000
set_option maxHeartbeats 400000
noncomputable def handB : List Stmt := match bodyAt nDiff with | [_, _, _, .While _ [.Try _ [.ExceptHandler _ _ h _] _ _ _] _ _, _] => h | _ => []
section
variable {X : Cx} {h0 : Heap} {k : Nat} {H : List Addr} {N : Nat} {am au L fa : Addr} {q : Str} {cd : Value} {l m ms us : Words} {i j : Nat}
theorem diff_hand (hne : am ≠ au) (bl : l.length ≤ 1000) (bm : m.length ≤ 1000) (P : Pos2 l m i j ms us) (hd : l.length ≤ i ∨ m.length ≤ j) :
    Runs X k H (fenv (scopeAt nDiff) L q fa cd) N (ro8 am au l m i j) (mu8 am au ms us) handB (fun A f s => f = .brk ∧ Inv X k H A (fenv (scopeAt nDiff) L q fa cd) N (ro8 am au l m i j) (mu8 am au (lone l m) (lone m l)) s) := by
  have O : EnvOk (fenv (scopeAt nDiff) L q fa cd) := ⟨rfl, rfl, rfl⟩
  obtain ⟨d1, d2⟩ := P.done hd
  have hi := P.hi
  have hj := P.hj
  have q1 := P.l1
  have q2 := P.l2
  have c1 : cut (l.map D.str) (some (i : Int)) none = (l.drop i).map D.str := by rw [cut_from _ _ (by rw [List.length_map]; exact hi), List.map_drop]
  have c2 : cut (m.map D.str) (some (j : Int)) none = (m.drop j).map D.str := by rw [cut_from _ _ (by rw [List.length_map]; exact hj), List.map_drop]
  have b1 : ((l.drop i).map D.str).length ≤ 1000 := by rw [List.length_map, List.length_drop]; omega
  have b2 : ((m.drop j).map D.str).length ≤ 1000 := by rw [List.length_map, List.length_drop]; omega
  refine r_extend (a := am) (ds := ms.map .str) (es := (l.drop i).map .str) rfl mu_self (Evs.i ?_) ?_ (by rw [List.length_map, sizeLine_eq]; omega)
  · rw [← c1]; exact ev_cutL (ev_name O rfl) (.some (ev_name O rfl)) .none (by rw [List.length_map, sizeLine_eq]; omega)
  refine r_extend (a := au) (ds := us.map .str) (es := (m.drop j).map .str) rfl (by rw [mu_ne hne.symm]; exact (mu_ne hne.symm).trans mu_self) (Evs.i ?_) ?_ (by rw [List.length_map, sizeLine_eq]; omega)
  · rw [← c2]; exact ev_cutL (ev_name O rfl) (.some (ev_name O rfl)) .none (by rw [List.length_map, sizeLine_eq]; omega)
  refine r_break fun A s I => ⟨rfl, I.sub (fun x d h => h) (mu8_a ?_ ?_)⟩
  · rw [mu_ne hne, mu_self, ← List.map_append, d1]
  · rw [mu_self, ← List.map_append, d2]
theorem old_self (h : Heap) : Old h h := fun b o e => ⟨o, e⟩
theorem diff_call {fa : Addr} {fd : FuncData} (DA : DefAt X "sorted_list_difference" fa fd ["expected", "actual"] (scopeAt nDiff) (bodyAt nDiff)) (hl : Rises l) (hm : Rises m) (bl : l.length ≤ 1000) (bm : m.length ≤ 1000) :
    CallOk X (k + 2) H (.ref fa) [texts l, texts m] (.tuple [texts (lone l m), texts (lone m l)]) := by
  intro A s Q E vs G iv hQ
  refine wpAny_call (call_def DA.toFnK G iv rfl (fun s₁ t1 I => ?_) (by decide) (by rfl) (by rfl) (by rfl) (by rfl))
  generalize fd.qualname ++ ".<locals>." = q at *
  generalize fd.code = cd at *
  generalize hL : s.heap.objs.size = L at *
  have O : EnvOk (fenv (scopeAt nDiff) L q fa cd) := I.fr.eok
  have hN : s.heap.objs.size ≤ L := Nat.le_of_eq hL
  have f0 : ∀ {H' : List Addr} {b : Addr}, Wr (fenv (scopeAt nDiff) L q fa cd) H' L b → F0 X s.heap b := fun h => wr_f0 hN I.fr h
  have old : ∀ {s' : Shared}, StepW X (F0 X s.heap) s s' → Old s.heap s'.heap := fun t => (old_self _).step G.base t fun b hb o e => by rw [hb.1] at e; cases e
  refine seq_at (ss := (bodyAt nDiff).take 1) (rest := (bodyAt nDiff).drop 1) (r_two (Evs.i ev_int) (r_nil fun A s I => ⟨rfl, I⟩)) I fun s2 t2 I2 => ?_
  refine own_at I2 (fun am s3 hamH ham t3 I3 => ?_) (by rfl)
  refine own_at I3 (fun au s4 hauH hau t4 I4 => ?_) (by rfl)
  have hne : am ≠ au := fun h => by
    obtain ⟨_, _, ys, ⟨n, e⟩, _⟩ := I3.lists am _ mu_self
    rw [h, hau] at e; cases e
  have u4 : StepW X (F0 X s.heap) s s4 := ((t1.no.trans (t2.mono fun b => f0)).trans (t3.mono fun b => f0)).trans (t4.mono fun b => f0)
  have I4' : Inv X (k + 1) (au :: am :: H) (A.deeper (fenv (scopeAt nDiff) L q fa cd)) (fenv (scopeAt nDiff) L q fa cd) L (ro8 am au l m 0 0) (mu8 am au [] []) s4 :=
    I4.sub (sub_ro8 rfl rfl rfl rfl rfl rfl) (mu8_a ((mu_ne hne).trans mu_self) mu_self)
  refine wpAny_execs_cons (wpAny_While ?_)
  refine codeAny_whileLoop (fun n s' => ∃ x : P8, n = l.length + m.length - (x.i + x.j) ∧ Pos2 l m x.i x.j x.ms x.us ∧ StepW X (F0 X s.heap) s s' ∧
    Inv X (k + 1) (au :: am :: H) (A.deeper (fenv (scopeAt nDiff) L q fa cd)) (fenv (scopeAt nDiff) L q fa cd) L (ro8 am au l m x.i x.j) (mu8 am au x.ms x.us) s') ?_ _ ⟨⟨0, 0, [], []⟩, rfl, Pos2.zero l m, u4, I4'⟩
  rintro n s' ⟨x, rfl, P, u, J⟩
  refine (ts_val (X := X) (k := k + 1) (H := au :: am :: H) (ρ := ro8 am au l m x.i x.j) (ev_boolc (b := true)) tru_bool rfl) _ s' _ _ J.good J.sees fun s5 t5 => ?_
  have I5 := J.step t5
  have u5 := u.trans t5.no
  simp only [if_true]
  refine wpAny_execs_cons (wpAny_Try_except ?_)
  refine diff_body (h0 := s.heap) hN hne hl hm bl bm P _ s5 _ _ I5 (old u5) (.inl (I5.good.ok.handled (Nat.succ_ne_zero _))) (fun f s6 t6 r => ?_) (fun a c st s6 t6 o6 x6 hc hst hT => ?_)
  · obtain ⟨rfl, y, P', hlt, I6⟩ := r
    refine wpAny_execs_nil (wpAny_execs_nil ?_)
    have := P'.hi
    have := P'.hj
    exact ⟨_, by have := P.hi; have := P.hj; omega, y, rfl, P', u5.trans (t6.mono fun b => f0), I6⟩
  · obtain ⟨y, ⟨P', hdone⟩, I6⟩ := hT
    have u6 := u5.trans t6
    refine note_any I6 o6 x6 hst fun h7 T7 tn7 x7 => ?_
    refine exc_flight (fr := none) x7 fun h8 tn8 x8 => ?_
    have tn := tn7.trans tn8
    have I8 := (tn.inv (tk := s6.toks) I6)
    have u8 := u6.trans (tn.stepW (tk := s6.toks))
    have M8 := I8.mark (.ref a)
    refine wpAny_handleBy_builtin (X := "IndexError") (T := "IndexError") (b := true) excOk_IndexError.exc excOk_IndexError.nt excOk_IndexError.self ?_
    obtain ⟨oe, tt, tb, he, hc', hd, _⟩ := x8.obj
    refine bi_name I.fr.eok M8.good (by rfl) excOk_IndexError.free excOk_IndexError.ne excOk_IndexError.boot excOk_IndexError.dbg ⟨rfl, ⟨oe, he, hc'⟩, ?_⟩
    simp only [if_true]
    refine exc_flight (fr := none) x8 fun h9 tn9 x9 => ?_
    have I9 := (tn9.inv (tk := s6.toks) M8)
    have u9 := u8.trans (tn9.stepW (tk := s6.toks))
    refine (diff_hand (k := 0) (L := L) (fa := fa) (q := q) (cd := cd) hne bl bm P' hdone) _ _ _ _ I9 fun f s10 t10 r => ?_
    obtain ⟨rfl, I10⟩ := r
    have u10 := u9.trans (t10.mono fun b => f0)
    have I11 := I10.unmark I.good.ok
    have hR : Runs X (k + 1) (au :: am :: H) (fenv (scopeAt nDiff) L q fa cd) L (ro8 am au l m y.i y.j) (mu8 am au (lone l m) (lone m l)) ((bodyAt nDiff).drop 4) (Ret H (.tuple [texts (lone l m), texts (lone m l)])) := by
      refine r_disown1 (y := "unexpected") (b := am) (ds := (lone m l).map .str) (es := (lone l m).map .str) hauH hne rfl ((mu_ne hne.symm).trans mu_self) mu_self ?_
      refine r_disown (y := "missing") (ds := (lone l m).map .str) hamH rfl mu_self ?_
      exact r_retV (Evs.i (ev_tuple (ds := [texts (lone l m), texts (lone m l)]) (evs_cons (ev_name O rfl) (evs_cons (ev_name O rfl) evs_nil)) (by show 2 ≤ sizeLine; decide)))
    refine hR _ s10 _ _ I11 fun f s11 t11 r => ?_
    obtain ⟨v, rfl, iv⟩ := r
    exact hQ v s11 iv ((u10.trans (t11.mono fun b => f0)).monoAt fun b o e hb => by rw [hb.1] at e; cases e)
end
end Mine
end

section
open PySem PySem.W PyProof.Rows PySem.Calls
set_option Elab.async false
set_option linter.unusedVariables false
namespace Mine
set_option maxRecDepth 10000
/-! texts that are left when signs are left out -/
theorem sub_skip {c : Nat} {cs r : List Nat} : ∀ {pre : List Nat}, c ∉ pre → ((c :: cs).Sublist (pre ++ c :: r) ↔ cs.Sublist r)
  | [], _ => List.cons_sublist_cons
  | d :: pre, h => by
    have h1 : c ∉ pre := fun q => h (List.mem_cons_of_mem _ q)
    have h2 : c ≠ d := fun q => h (q ▸ List.mem_cons_self ..)
    rw [← sub_skip (r := r) (cs := cs) h1]
    refine ⟨fun q => ?_, fun q => q.cons d⟩
    cases q with
    | cons _ q => exact q
    | cons_cons _ q => exact absurd rfl h2
theorem mem_sieve {t : List Nat} {l : List Nat} : t ∈ sieve l ↔ t.Sublist l := by
  revert t
  refine list_rec (P := fun l => ∀ {t : List Nat}, t ∈ sieve l ↔ t.Sublist l) ?_ ?_ l
  · intro t
    show t ∈ [[]] ↔ _
    rw [List.mem_singleton, List.sublist_nil]
  · intro l c ih t
    rw [sieve_append, List.mem_append, List.mem_map, List.sublist_append_iff]
    constructor
    · rintro (h | ⟨u, hu, rfl⟩)
      · exact ⟨t, [], by simp, ih.mp h, List.nil_sublist _⟩
      · exact ⟨u, [c], rfl, ih.mp hu, List.Sublist.refl _⟩
    · rintro ⟨u, v, rfl, h1, h2⟩
      rcases List.sublist_cons_iff.mp h2 with h | ⟨w, rfl, h⟩
      · rw [List.sublist_nil.mp h, List.append_nil]; exact .inl (ih.mpr h1)
      · rw [List.sublist_nil.mp h]; exact .inr ⟨u, ih.mpr h1, rfl⟩
theorem drop_consN {l : List Nat} {i e : Nat} (h : l[i]? = some e) : l.drop i = e :: l.drop (i + 1) := by
  obtain ⟨hi, he⟩ := List.getElem?_eq_some_iff.mp h
  rw [← he]; exact List.drop_eq_getElem_cons hi
noncomputable def one (t : List Nat) : Words := t.map fun c => [c]
noncomputable def plcF (l : List Nat) (p : Int) (ss : Words) : Int := ss.foldl (fun p s => Txt.find3 (S l) (S s) p + 1) p
theorem S_getD {l : List Nat} {v : Nat} : (S l).cps.getD v 0 = l.getD v 0 := by
  simp [Array.getD, List.getD]
  split
  · next h => simp [h]
  · next h => rw [List.getElem?_eq_none (Nat.not_lt.mp h)]; rfl
theorem from_nat (n p : Nat) : fromIndex n (p : Int) = p := by
  unfold fromIndex
  rw [if_neg (by omega)]
  omega
theorem takes_from {l : List Nat} : ∀ {t : List Nat} {p : Nat}, (∀ i, i < t.length → plcF l p ((one t).take (i + 1)) ≠ 0) ↔ t.Sublist (l.drop p)
  | [], p => ⟨fun _ => List.nil_sublist _, fun _ i hi => absurd hi (Nat.not_lt_zero _)⟩
  | c :: cs, p => by
    have hl : (S l).length = l.length := S_length l
    rcases StrLaws.find3_spec (S l) c p with ⟨h0, hn⟩ | ⟨k, h0, hlo, hk, hc, hn⟩
    · rw [from_nat] at hn
      refine ⟨fun h => absurd ?_ (h 0 (Nat.succ_pos _)), fun h => absurd (h.subset (List.mem_cons_self ..)) fun hm => ?_⟩
      · show Txt.find3 (S l) (S [c]) p + 1 = 0
        have : Txt.find3 (S l) (S [c]) p = -1 := h0
        omega
      · obtain ⟨i, hi⟩ := List.mem_iff_getElem?.mp hm
        rw [List.getElem?_drop] at hi
        obtain ⟨hlt, _⟩ := List.getElem?_eq_some_iff.mp hi
        refine hn (p + i) (by omega) (by omega) ?_
        rw [S_getD, List.getD, hi]; rfl
    · rw [from_nat] at hn hlo
      rw [hl] at hk
      have h1 : Txt.find3 (S l) (S [c]) p + 1 = ((k + 1 : Nat) : Int) := by
        have : Txt.find3 (S l) (S [c]) p = k := h0
        omega
      have e : ∀ i, plcF l p ((one (c :: cs)).take (i + 1)) = plcF l ((k + 1 : Nat) : Int) ((one cs).take i) := fun i => by
        show plcF l (Txt.find3 (S l) (S [c]) p + 1) ((one cs).take i) = _
        rw [h1]
      have ek : l[k]? = some c := by
        rw [S_getD, List.getD, List.getElem?_eq_getElem hk] at hc
        rw [List.getElem?_eq_getElem hk]; exact congrArg some hc
      have ed : l.drop p = (l.drop p).take (k - p) ++ c :: l.drop (k + 1) := by
        have : (l.drop p).drop (k - p) = c :: l.drop (k + 1) := by rw [List.drop_drop, show p + (k - p) = k by omega]; exact drop_consN ek
        rw [← this, List.take_append_drop]
      have hnot : c ∉ (l.drop p).take (k - p) := fun hm => by
        obtain ⟨i, hi⟩ := List.mem_iff_getElem?.mp hm
        obtain ⟨hlt, _⟩ := List.getElem?_eq_some_iff.mp hi
        have hlt' : i < k - p := by rw [List.length_take] at hlt; omega
        rw [List.getElem?_take_of_lt hlt', List.getElem?_drop] at hi
        refine hn (p + i) (by omega) (by omega) ?_
        rw [S_getD, List.getD, hi]; rfl
      rw [ed, sub_skip hnot, ← takes_from (t := cs) (p := k + 1)]
      constructor
      · intro h i hi
        have := h (i + 1) (Nat.succ_lt_succ hi)
        rwa [e] at this
      · intro h i hi
        rw [e]
        cases i with
        | zero => show ((k + 1 : Nat) : Int) ≠ 0; omega
        | succ i => exact h i (Nat.lt_of_succ_lt_succ hi)
theorem takes_one (t name : List Nat) : takes (one t) name = decide (t ∈ sieve name) := by
  unfold takes
  rw [decide_eq_decide, mem_sieve]
  have := takes_from (l := name) (t := t) (p := 0)
  rw [List.drop_zero] at this
  rw [← this]
  simp [one, plc, plcF]
theorem sieve_mapF (f : Nat → Nat) (l : List Nat) : sieve (l.map f) = (sieve l).map (List.map f) := by
  refine list_rec (P := fun l => sieve (l.map f) = (sieve l).map (List.map f)) rfl (fun l c ih => ?_) l
  rw [List.map_append, sieve_append, List.map_singleton, sieve_append, ih, List.map_append, List.map_map, List.map_map]
  refine congrArg (_ ++ ·) (List.map_congr_left fun t _ => ?_)
  simp
end Mine
end

section
open PySem PySem.W PyProof.Rows PySem.Calls PySem.StrLaws PySem.Builtin.Str
set_option Elab.async false
set_option linter.unusedVariables false
namespace Mine
set_option maxRecDepth 10000
/-! where a text is parted -/
noncomputable def scan (s sub : Str) (hi : Nat) : List Nat → Nat → List Nat
  | [], _ => []
  | i :: r, free => if (free ≤ i ∧ i + sub.length ≤ hi) ∧ subAt s sub i = true then i :: scan s sub hi r (i + sub.length) else scan s sub hi r free
theorem occ_run (s sub : Str) (hi limit : Nat) : ∀ (l : List Nat) (st : Array Nat × Nat), st.1.size + l.length ≤ limit → (forIn l st (occBody s sub hi limit)).run.fst.toList = st.1.toList ++ scan s sub hi l st.2
  | [], st, _ => by simp [scan]
  | i :: r, st, h => by
    rw [List.forIn_cons]
    unfold occBody
    have h1 : st.1.size < limit := by simp at h; omega
    by_cases hc : (st.2 ≤ i ∧ i + sub.length ≤ hi) ∧ subAt s sub i = true
    · rw [if_pos ⟨⟨⟨h1, hc.1.1⟩, hc.1.2⟩, hc.2⟩, scan, if_pos hc]
      have := occ_run s sub hi limit r (st.1.push i, i + sub.length) (by simp at h ⊢; omega)
      simp only [Array.toList_push, List.append_assoc, List.singleton_append] at this
      exact this
    · rw [if_neg (fun q => hc ⟨⟨q.1.1.2, q.1.2⟩, q.2⟩), scan, if_neg hc]
      exact occ_run s sub hi limit r st (by simp at h ⊢; omega)
theorem occ_scan (x y : Str) : occurrences x y 0 x.length (x.length + 1) = scan x y x.length (List.range' 0 (x.length + 1)) 0 := by
  rw [occ_eq, occ_run]
  · rfl
  · simp
theorem scan_skip {s sub : Str} {hi free : Nat} {r : List Nat} : ∀ {l : List Nat}, (∀ i ∈ l, ¬ ((free ≤ i ∧ i + sub.length ≤ hi) ∧ subAt s sub i = true)) → scan s sub hi (l ++ r) free = scan s sub hi r free
  | [], _ => rfl
  | i :: l, h => by
    rw [List.cons_append, scan, if_neg (h i (List.mem_cons_self ..))]
    exact scan_skip fun j hj => h j (List.mem_cons_of_mem _ hj)
noncomputable def Piece (q : List Nat) : Prop := q.length ≤ 5 ∧ (q ≠ [] → q.getLast? = some 41)
theorem sep_len : sepT.length = 6 := rfl
theorem sep_no (i : Nat) : sepT[i]? ≠ some 41 := fun h => by
  have : (41 : Nat) ∈ sepT := List.mem_of_getElem? h
  revert this; decide
/-- no match within a piece -/
theorem no_within {pre q r : List Nat} {d : Nat} (hq : Piece q) (hd : d < q.length) : subAt (S (pre ++ (q ++ r))) (S sepT) (pre.length + d) = false := by
  rw [subAt_eq]
  show (((pre ++ (q ++ r)).drop (pre.length + d)).take 6 == sepT) = false
  rw [List.drop_append, List.drop_of_length_le (by omega), List.nil_append, show pre.length + d - pre.length = d by omega, beq_eq_false_iff_ne]
  intro h
  have hne : q ≠ [] := fun e => by rw [e] at hd; exact Nat.not_lt_zero _ hd
  have hl := hq.2 hne
  rw [List.getLast?_eq_getElem?] at hl
  have h5 := hq.1
  refine sep_no (q.length - 1 - d) ?_
  rw [← h, List.getElem?_take_of_lt (by omega), List.getElem?_drop, List.getElem?_append_left (by omega), show d + (q.length - 1 - d) = q.length - 1 by omega]
  exact hl
theorem match_at {pre q r : List Nat} : subAt (S (pre ++ (q ++ (sepT ++ r)))) (S sepT) (pre.length + q.length) = true := by
  rw [subAt_eq]
  show (((pre ++ (q ++ (sepT ++ r))).drop (pre.length + q.length)).take 6 == sepT) = true
  rw [← List.append_assoc, List.drop_append, List.drop_of_length_le (by simp), List.length_append, Nat.sub_self, List.nil_append, List.drop_zero, beq_iff_eq]
  exact List.take_left' rfl
noncomputable def bodyL (q : List Nat) (qs : Words) : List Nat := q ++ qs.flatMap fun p => sepT ++ p
theorem parts_run : ∀ (qs : Words) (pre q : List Nat) (free : Nat), free ≤ pre.length → Piece q → (∀ p ∈ qs, Piece p) →
    (partsFrom (S (pre ++ bodyL q qs)) 6 pre.length (scan (S (pre ++ bodyL q qs)) (S sepT) (S (pre ++ bodyL q qs)).length (List.range' pre.length ((bodyL q qs).length + 1)) free)).map (fun s => s.cps.toList) = q :: qs
  | [], pre, q, free, hf, hq, _ => by
    have eb : bodyL q [] = q := by simp [bodyL]
    rw [eb]
    have h0 := scan_skip (s := S (pre ++ q)) (sub := S sepT) (hi := (S (pre ++ q)).length) (free := free) (r := []) (l := List.range' pre.length (q.length + 1)) fun i hi hc => by
      obtain ⟨h1, h2⟩ := List.mem_range'_1.mp hi
      have hlen := hc.1.2
      rw [S_length, S_length, sep_len, List.length_append] at hlen
      have h3 := no_within (pre := pre) (q := q) (r := []) (d := i - pre.length) hq (by omega)
      rw [List.append_nil, show pre.length + (i - pre.length) = i by omega] at h3
      rw [h3] at hc; cases hc.2
    rw [List.append_nil] at h0
    rw [h0]
    show [((strSub (S (pre ++ q)) pre.length (S (pre ++ q)).length).cps.toList)] = [q]
    rw [strSub_toList, S_length]
    show [((pre ++ q).drop pre.length).take ((pre ++ q).length - pre.length)] = [q]
    rw [List.drop_left, List.length_append, List.take_of_length_le (by omega)]
  | p :: qs, pre, q, free, hf, hq, hqs => by
    have eb : bodyL q (p :: qs) = q ++ (sepT ++ bodyL p qs) := by simp [bodyL]
    have ex : pre ++ bodyL q (p :: qs) = (pre ++ q ++ sepT) ++ bodyL p qs := by rw [eb]; simp
    have ih := parts_run qs (pre ++ q ++ sepT) p (pre.length + q.length + 6) (by simp only [List.length_append, sep_len]; omega) (hqs p (List.mem_cons_self ..)) fun x hx => hqs x (List.mem_cons_of_mem _ hx)
    have hl1 : (pre ++ q ++ sepT).length = pre.length + q.length + 6 := by simp only [List.length_append, sep_len]
    rw [← ex, hl1] at ih
    have hlen : (bodyL q (p :: qs)).length = q.length + (6 + (bodyL p qs).length) := by rw [eb]; simp [sep_len]
    have hS : (S (pre ++ bodyL q (p :: qs))).length = pre.length + (q.length + (6 + (bodyL p qs).length)) := by rw [S_length, List.length_append, hlen]
    have er : List.range' pre.length ((bodyL q (p :: qs)).length + 1) = List.range' pre.length q.length ++ ((pre.length + q.length) :: (List.range' (pre.length + q.length + 1) 5 ++ List.range' (pre.length + q.length + 6) ((bodyL p qs).length + 1))) := by
      rw [hlen, show q.length + (6 + (bodyL p qs).length) + 1 = q.length + (1 + (5 + ((bodyL p qs).length + 1))) by omega]
      rw [← List.range'_append_1, Nat.add_comm 1 (5 + _), List.range'_succ, ← List.range'_append_1]
    rw [er, scan_skip, scan, if_pos]
    · rw [scan_skip]
      · show ((strSub (S (pre ++ bodyL q (p :: qs))) pre.length (pre.length + q.length)).cps.toList) :: _ = _
        rw [strSub_toList]
        have e1 : ((S (pre ++ bodyL q (p :: qs))).cps.toList.drop pre.length).take (pre.length + q.length - pre.length) = q := by
          show ((pre ++ bodyL q (p :: qs)).drop pre.length).take _ = q
          rw [List.drop_left, eb, Nat.add_sub_cancel_left, List.take_left']
          rfl
        rw [e1]
        exact congrArg (q :: ·) ih
      · intro i hi hc
        obtain ⟨h1, h2⟩ := List.mem_range'_1.mp hi
        have := hc.1.1
        rw [S_length, sep_len] at this
        omega
    · refine ⟨⟨by omega, ?_⟩, ?_⟩
      · rw [hS, S_length, sep_len]; omega
      · rw [eb]; exact match_at
    · intro i hi hc
      obtain ⟨h1, h2⟩ := List.mem_range'_1.mp hi
      have h3 := no_within (pre := pre) (q := q) (r := sepT ++ bodyL p qs) (d := i - pre.length) hq (by omega)
      rw [← eb, show pre.length + (i - pre.length) = i by omega] at h3
      rw [h3] at hc; cases hc.2
end Mine
end

section
open PySem PySem.W PyProof.Rows PySem.Calls PySem.StrLaws PySem.Builtin.Str
set_option Elab.async false
set_option linter.unusedVariables false
namespace Mine
set_option maxRecDepth 10000
theorem split_body {qs : Words} (h : ∀ p ∈ qs, Piece p) : splitT (bodyL [] qs) sepT = [] :: qs := by
  have hp := parts_run qs [] [] 0 (Nat.le_refl _) ⟨Nat.zero_le _, fun h => absurd rfl h⟩ h
  simp only [List.nil_append, List.length_nil] at hp
  have e0 : (S (bodyL [] qs)).length = (bodyL [] qs).length := S_length _
  rw [← e0, ← occ_scan] at hp
  unfold splitT Txt.split
  have hk : Builtin.Str.strKind (S sepT) = 1 := by decide +kernel
  have hk2 : decide (Builtin.Str.strKind (S (bodyL [] qs)) < Builtin.Str.strKind (S sepT)) = false := by
    rw [hk, decide_eq_false_iff_not]; unfold Builtin.Str.strKind; split <;> (try split) <;> omega
  rw [hk2, Bool.or_false]
  split
  · next hl =>
    have hl' := of_decide_eq_true hl
    rw [e0, S_length, sep_len] at hl'
    cases qs with
    | nil => rfl
    | cons p r =>
      exfalso
      have : (bodyL [] (p :: r)).length = 6 + (p.length + (r.flatMap fun p => sepT ++ p).length) := by simp [bodyL, sep_len]
      omega
  · split
    · next he =>
      rw [List.isEmpty_iff.mp he] at hp
      rw [← hp]
      show [(S (bodyL [] qs)).cps.toList] = [(strSub (S (bodyL [] qs)) 0 (S (bodyL [] qs)).length).cps.toList]
      rw [sub_whole]
    · rw [partsBetween_eq]; exact hp
theorem sign_pc : ∀ c, c < 256 → signF (pcF c) = [c] := by
  have : ∀ c : Fin 256, signF (pcF c.val) = [c.val] := by decide +kernel
  exact fun c h => this ⟨c, h⟩
theorem piece_pc (c : Nat) : Piece (pcF c ++ [41]) := ⟨by have := pcF_length c; simp; omega, fun _ => by simp⟩
theorem join_eq (t : List Nat) : joinF t = T "(?s:" ++ (bodyL [] (t.map fun c => pcF c ++ [41]) ++ T ".*)\\Z") := by
  have e1 : T ".*)\\Z" = T ".*" ++ T ")\\Z" := rfl
  have e2 : (t.map grpF).flatten = bodyL [] (t.map fun c => pcF c ++ [41]) := by
    unfold bodyL
    rw [List.nil_append, List.flatMap_map, ← List.flatMap_def]
    exact congrArg (fun f => t.flatMap f) (funext fun c => by show T "(?>.*?" ++ pcF c ++ T ")" = _; rw [List.append_assoc]; rfl)
  unfold joinF
  rw [e1, e2]; simp
theorem cut_mid {a m b : List Nat} (ha : a.length = 4) (hb : b.length = 5) : cut (a ++ (m ++ b)) (some 4) (some (-5)) = m := by
  have := cut_neg (a ++ (m ++ b)) 4 5 (by decide)
  refine this.trans ?_
  have e : min 4 (a ++ (m ++ b)).length = a.length := by simp [ha]
  rw [e, List.drop_left, List.take_left']
  simp [hb]; omega
theorem cut_head {a m : List Nat} (ha : a.length = 4) : cut (a ++ m) none (some 4) = a := by
  unfold cut
  simp only [Option.elim]
  have := clipAt_nat (a ++ m).length 4
  rw [show ((4 : Int)) = ((4 : Nat) : Int) from rfl, this, List.drop_zero, Nat.sub_zero, Nat.min_eq_left (by simp [ha]), List.take_left' ha]
theorem cut_tail {m b : List Nat} (hb : b.length = 5) : cut (m ++ b) (some (-5)) none = b := by
  have := cut_from_neg (m ++ b) 5 (by decide)
  refine this.trans ?_
  rw [List.length_append, hb, Nat.add_sub_cancel, List.drop_left]
theorem piecesF_join (t : List Nat) : piecesF (joinF t) = [] :: t.map fun c => pcF c ++ [41] := by
  unfold piecesF
  rw [join_eq, cut_mid rfl rfl]
  exact split_body fun p hp => by
    obtain ⟨c, _, rfl⟩ := List.mem_map.mp hp
    exact piece_pc c
theorem piece_sign {c : Nat} (h : c < 256) : pieceF (pcF c ++ [41]) = [c] := by
  unfold pieceF
  have h1 : cut (pcF c ++ [41]) (some (-1)) none = T ")" := by
    have := cut_from_neg (pcF c ++ [41]) 1 (by decide)
    refine this.trans ?_
    rw [List.length_append, List.length_singleton, Nat.add_sub_cancel, List.drop_left]; rfl
  have h2 : cut (pcF c ++ [41]) none (some (-1)) = pcF c := by
    have := cut_upto_neg (pcF c ++ [41]) 1 (by decide)
    refine this.trans ?_
    rw [List.length_append, List.length_singleton, Nat.add_sub_cancel, List.take_left' rfl]
  rw [if_pos h1, h2, sign_pc c h]
theorem signs_join {t : List Nat} (h : ∀ c ∈ t, c < 256) : signsF (joinF t) = one t := by
  unfold signsF
  rw [piecesF_join, if_pos]
  · show (t.map fun c => pcF c ++ [41]).map pieceF = _
    rw [List.map_map]
    exact List.map_congr_left fun c hc => piece_sign (h c hc)
  · rw [join_eq, cut_head rfl, ← List.append_assoc, cut_tail rfl]; rfl
theorem join_bounds {t : List Nat} (ht : t.length ≤ 8) : (joinF t).length < 1000 ∧ (∀ p ∈ piecesF (joinF t), p.length < 1000) ∧ (piecesF (joinF t)).length < 1000 := by
  rw [piecesF_join]
  refine ⟨?_, fun p hp => ?_, by simp; omega⟩
  · have hs : ∀ m : List Nat, ((m.map grpF).flatten).length ≤ 11 * m.length := fun m => by
      induction m with
      | nil => simp
      | cons c r ih =>
        have h4 := pcF_length c
        have : (grpF c).length ≤ 11 := by unfold grpF; rw [List.length_append, List.length_append]; show 6 + _ + 1 ≤ _; omega
        simp only [List.map_cons, List.flatten_cons, List.length_append, List.length_cons] at ih ⊢; omega
    have := hs t
    unfold joinF
    rw [List.length_append, List.length_append, List.length_append]
    show 4 + (_ + 2) + 3 < 1000
    omega
  · rcases List.mem_cons.mp hp with rfl | hp
    · decide
    · obtain ⟨c, _, rfl⟩ := List.mem_map.mp hp
      have := pcF_length c
      simp; omega
end Mine
end

section
open PySem PySem.W PyProof.Rows PySem.Calls
set_option Elab.async false
set_option linter.unusedVariables false
namespace Mine
set_option maxRecDepth 10000
/-! sorted texts -/
theorem risingS_all : ∀ (r : Words) (p : List Nat), risingS (S p) (r.map S) = true → (∀ x ∈ r, p ≤ x) ∧ r.Pairwise (· ≤ ·)
  | [], _, _ => ⟨(fun _ h => nomatch h), List.Pairwise.nil⟩
  | x :: r, p, h => by
    simp only [List.map_cons, risingS, Bool.and_eq_true, Bool.not_eq_true'] at h
    obtain ⟨h1, h2⟩ := h
    obtain ⟨h3, h4⟩ := risingS_all r x h2
    have hpx : p ≤ x := by
      rw [ltCps_eq, decide_eq_false_iff_not] at h1
      exact List.not_lt.mp h1
    refine ⟨fun y hy => ?_, List.pairwise_cons.mpr ⟨h3, h4⟩⟩
    rcases List.mem_cons.mp hy with rfl | hy
    · exact hpx
    · exact List.le_trans hpx (h3 y hy)
theorem sorted_pair {l : Words} (h : PyProof.Rows.sortedS (l.map S) = true) : l.Pairwise (· ≤ ·) := by
  cases l with
  | nil => exact List.Pairwise.nil
  | cons x r =>
    obtain ⟨h1, h2⟩ := risingS_all r x h
    exact List.pairwise_cons.mpr ⟨h1, h2⟩
theorem sort_uniq {l l' m : Words} (hp : l'.Perm l) (hr : Rises l') (hm : m.Perm l) (hs : PyProof.Rows.sortedS (m.map S) = true) : m = l' :=
  List.Perm.eq_of_pairwise (fun a b _ _ h1 h2 => List.le_antisymm h1 h2) (sorted_pair hs) (hr.imp fun h => List.not_lt.mp (lt_asymm' h)) (hm.trans hp.symm)
/-! letters by their numbers -/
noncomputable def Mono (f : Nat → Nat) : Prop := ∀ a b, a < b → f a < f b
noncomputable def mp (f : Nat → Nat) (l : Words) : Words := l.map (List.map f)
section
variable {f : Nat → Nat}
theorem Mono.inj (h : Mono f) {a b : Nat} (e : f a = f b) : a = b := by
  rcases Nat.lt_trichotomy a b with q | q | q
  · have := h a b q; omega
  · exact q
  · have := h b a q; omega
theorem lt_mapF (h : Mono f) : ∀ {a b : List Nat}, List.Lex (· < ·) a b → List.Lex (· < ·) (a.map f) (b.map f)
  | _, _, .nil => .nil
  | _, _, .rel q => .rel (h _ _ q)
  | _, _, .cons q => .cons (lt_mapF h q)
theorem map_injF (h : Mono f) : ∀ {a b : List Nat}, a.map f = b.map f → a = b
  | [], [], _ => rfl
  | [], _ :: _, e => by cases e
  | _ :: _, [], e => by cases e
  | x :: a, y :: b, e => by
    simp only [List.map_cons, List.cons.injEq] at e
    rw [h.inj e.1, map_injF h e.2]
theorem rises_mp (h : Mono f) {l : Words} (r : Rises l) : Rises (mp f l) := List.pairwise_map.mpr (r.imp fun q => lt_mapF h q)
theorem mem_mp (h : Mono f) {t : List Nat} {l : Words} : t.map f ∈ mp f l ↔ t ∈ l := by
  unfold mp
  rw [List.mem_map]
  exact ⟨fun ⟨u, hu, e⟩ => map_injF h e ▸ hu, fun q => ⟨t, q, rfl⟩⟩
theorem sieve_mp (h : Mono f) {t l : List Nat} : t.map f ∈ sieve (l.map f) ↔ t ∈ sieve l := by
  rw [sieve_mapF]; exact mem_mp h
end
/-! all texts over w letters -/
noncomputable def lvF (w : Nat) : Nat → Words
  | 0 => [[]]
  | i + 1 => (lvF w i).flatMap fun t => (List.range w).map fun c => t ++ [c]
noncomputable def shF (w : Nat) : Nat → Words
  | 0 => []
  | i + 1 => (List.range w).flatMap fun c => [c] :: (shF w i).map (c :: ·)
noncomputable def shapes : List (Nat × Nat) := [(2, 0), (2, 1), (2, 2), (3, 0), (3, 1)]
theorem sh_perm : ∀ p ∈ shapes, (shF p.1 (p.2 + 1)).Perm (shF p.1 p.2 ++ lvF p.1 (p.2 + 1)) := by decide +kernel
theorem sh_rises : ∀ p ∈ shapes, Rises (shF p.1 (p.2 + 1)) := by unfold Rises; decide +kernel
theorem mem_lv {w : Nat} : ∀ {l : List Nat}, (∀ d ∈ l, d < w) → l ∈ lvF w l.length := fun {l} => by
  refine list_rec (P := fun l => (∀ d ∈ l, d < w) → l ∈ lvF w l.length) (fun _ => by simp [lvF]) (fun l c ih h => ?_) l
  rw [List.length_append, List.length_singleton, lvF, List.mem_flatMap]
  refine ⟨l, ih fun d hd => h d (by simp [hd]), List.mem_map.mpr ⟨c, List.mem_range.mpr (h c (by simp)), rfl⟩⟩
theorem lv_mp (f : Nat → Nat) (w i : Nat) : (mp f (lvF w i)).flatMap (fun u => (List.range w).map fun d => u ++ [f d]) = mp f (lvF w (i + 1)) := by
  unfold mp
  rw [lvF, List.flatMap_map, List.map_flatMap]
  refine congrArg (fun g => (lvF w i).flatMap g) (funext fun u => ?_)
  rw [List.map_map]
  exact List.map_congr_left fun d _ => by simp
/-! what is kept of the texts by a name -/
noncomputable def keptF (sh : Words) (n : List Nat) : Words := sh.filter fun t => decide (t ∈ sieve n)
noncomputable def del (p : Nat) (l : List Nat) : List Nat := l.take p ++ l.drop (p + 1)
theorem del_sub (p : Nat) (l : List Nat) : (del p l).Sublist l := by
  unfold del
  have h : (l.take p ++ l.drop (p + 1)).Sublist (l.take p ++ l.drop p) := List.Sublist.append (List.Sublist.refl _) (by rw [show p + 1 = p + 1 from rfl, ← List.drop_drop]; exact List.drop_sublist _ _)
  rwa [List.take_append_drop] at h
theorem del_map (f : Nat → Nat) (p : Nat) (l : List Nat) : del p (l.map f) = (del p l).map f := by simp [del, List.map_take, List.map_drop]
theorem lone_kept (sh : Words) (n n' : List Nat) : lone (keptF sh n) (keptF sh n') = (keptF sh n).filter fun t => decide (t ∉ sieve n') := by
  unfold lone
  refine List.filter_congr fun t ht => ?_
  have hs : t ∈ sh := (List.mem_filter.mp ht).1
  rw [decide_eq_decide]
  unfold keptF
  rw [List.mem_filter]
  simp [hs]
theorem lone_none {sh : Words} {n n' : List Nat} (h : n'.Sublist n) : lone (keptF sh n') (keptF sh n) = [] := by
  unfold lone
  rw [List.filter_eq_nil_iff]
  intro t ht
  unfold keptF at ht
  obtain ⟨h1, h2⟩ := List.mem_filter.mp ht
  have h3 : t ∈ sieve n := mem_sieve.mpr ((mem_sieve.mp (of_decide_eq_true h2)).trans h)
  have h4 : t ∈ keptF sh n := List.mem_filter.mpr ⟨h1, decide_eq_true h3⟩
  simp [h4]
theorem kept_rises {sh : Words} (h : Rises sh) (n : List Nat) : Rises (keptF sh n) := h.sublist List.filter_sublist
/-! the shortest text that tells two names apart -/
noncomputable def toldL (w most : Nat) (ds : List Nat) (p : Nat) : List Int := (((shF w most).filter fun t => t.isSublist ds).filter fun t => !t.isSublist (del p ds)).map fun t => (t.length : Int)
noncomputable def leastL (ds : List Nat) (p : Nat) : Int := (depthsF ds ds.length).getD p 0 + (depthsF ds.reverse ds.length).getD (ds.length - 1 - p) 0 - 1
noncomputable def chk (w most : Nat) (ds : List Nat) (p : Nat) : Bool :=
  let l := ((most : Int) + 1) :: toldL w most ds p
  let m := min ((most : Int) + 1) (leastL ds p)
  l.contains m && l.all fun a => decide (m ≤ a)
noncomputable def kinds : List (Nat × Nat × Nat) := [(2, 2, 3), (2, 2, 4), (2, 2, 5), (3, 2, 3), (3, 2, 4), (3, 2, 5), (2, 3, 3), (2, 3, 4), (2, 3, 5), (2, 1, 2)]
theorem chk_all : ∀ k ∈ kinds, ∀ ds ∈ lvF k.1 k.2.2, ∀ p < k.2.2, chk k.1 k.2.1 ds p = true := by
  intro k hk
  simp only [kinds, List.mem_cons, List.not_mem_nil, or_false] at hk
  rcases hk with rfl | rfl | rfl | rfl | rfl | rfl | rfl | rfl | rfl | rfl <;> decide +kernel
end Mine
end

section
open PySem PySem.W PyProof.Rows PySem.Calls
set_option Elab.async false
set_option linter.unusedVariables false
namespace Mine
set_option maxRecDepth 10000
section
variable {f : Nat → Nat}
theorem alike_map (h : Mono f) {l : List Nat} {p : Nat} (hp : p < l.length) : alikeF (l.map f) p = alikeF l p := by
  unfold alikeF
  refine List.filter_congr fun q hq => ?_
  have hq' : q < l.length := Nat.lt_trans (List.mem_range.mp hq) hp
  have e : ∀ i, i < l.length → (l.map f).getD i 0 = f (l.getD i 0) := fun i hi => by simp [List.getD, hi]
  rw [e q hq', e p hp, decide_eq_decide]
  exact ⟨fun q => h.inj q, fun q => congrArg f q⟩
theorem depths_map (h : Mono f) (l : List Nat) : ∀ n, n ≤ l.length → depthsF (l.map f) n = depthsF l n
  | 0, _ => rfl
  | n + 1, hn => by
    rw [depthsF_succ, depthsF_succ, depths_map h l n (by omega)]
    unfold nextD
    rw [alike_map h hn]
theorem told_lens (h : Mono f) (w most : Nat) (ds : List Nat) (p : Nat) :
    (lone (keptF (mp f (shF w most)) (ds.map f)) (keptF (mp f (shF w most)) (del p (ds.map f)))).map (fun t => (t.length : Int)) = toldL w most ds p := by
  rw [lone_kept, del_map]
  unfold keptF toldL mp
  rw [List.filter_map, List.filter_map, List.map_map]
  have e1 : ((fun t => decide (t ∈ sieve (ds.map f))) ∘ List.map f) = fun t => t.isSublist ds := funext fun t => by
    show decide (t.map f ∈ sieve (ds.map f)) = _
    rw [Bool.eq_iff_iff, decide_eq_true_eq, sieve_mp h, mem_sieve, List.isSublist_iff_sublist]
  have e2 : ((fun t => decide (t ∉ sieve ((del p ds).map f))) ∘ List.map f) = fun t => !t.isSublist (del p ds) := funext fun t => by
    show decide (t.map f ∉ sieve ((del p ds).map f)) = _
    rw [Bool.eq_iff_iff, decide_eq_true_eq, sieve_mp h, mem_sieve, Bool.not_eq_true', ← Bool.not_eq_true, List.isSublist_iff_sublist]
  rw [e1, e2]
  exact List.map_congr_left fun t _ => by simp
theorem min_fact (h : Mono f) {w most size : Nat} (hk : (w, most, size) ∈ kinds) {ds : List Nat} (hd : ds.length = size) (hw : ∀ d ∈ ds, d < w) {p : Nat} (hp : p < size) :
    min ((most : Int) + 1) (leastL ds p) ∈ ((most : Int) + 1) :: toldL w most ds p ∧ ∀ a ∈ ((most : Int) + 1) :: toldL w most ds p, min ((most : Int) + 1) (leastL ds p) ≤ a := by
  have := chk_all _ hk ds (by rw [← hd]; exact mem_lv hw) p hp
  unfold chk at this
  simp only [Bool.and_eq_true, List.all_eq_true, decide_eq_true_eq, List.contains_iff_mem] at this
  exact this
theorem sort_fact (h : Mono f) {w i : Nat} (hs : (w, i) ∈ shapes) : ∀ m : Words, m.Perm (mp f (shF w i) ++ mp f (lvF w (i + 1))) → PyProof.Rows.sortedS (m.map S) = true → m = mp f (shF w (i + 1)) := fun m hm hs' =>
  sort_uniq (l' := mp f (shF w (i + 1))) (by
    have := (sh_perm _ hs).map (List.map f)
    rw [List.map_append] at this
    exact this) (rises_mp h (sh_rises _ hs)) hm hs'
end
end Mine
end

section
open PySem PySem.W PyProof.Rows PySem.Calls
set_option Elab.async false
set_option linter.unusedVariables false
namespace Mine
set_option maxRecDepth 100000
set_option maxHeartbeats 4000000
noncomputable abbrev nLaw : Nat := 25
noncomputable def DefX (X : Cx) (f : Str) (ps : List Str) (n : Nat) : Prop := ∃ fa fd, DefAt X f fa fd ps (scopeAt n) (bodyAt n)
structure LawK (X : Cx) : Prop where
  tape : ∃ C fI ft fdT, TapeK X C fI ft fdT
  uint : DefX X "read_uint1" ["f"] nUint1
  string : DefX X "read_string1" ["f"] nString1
  octets : DefX X "_law_octets" ["tape"] nOctets
  trans : ∃ ft fb fj fe pa da fdt fdb fdj fde, TransK X ft fb fj fe pa da fdt fdb fdj fde
  diff : DefX X "sorted_list_difference" ["expected", "actual"] nDiff
  pattern : DefX X "_law_pattern" ["text"] nPattern
  sign : DefX X "_law_sign" ["run"] nSign
  signs : DefX X "_law_signs" ["text"] nSigns
  takes : DefX X "_law_takes" ["signs", "name"] nTakes
  within : DefX X "_law_within" ["name"] nWithin
  depths : DefX X "_law_depths" ["signs"] nDepths
section
variable {X : Cx} {k : Nat} {H : List Addr} {env : Env} {ρ : Ro}
theorem ev_dx {f : Str} {p pos : Pos} {n : Nat} {ps : List Str} {e : PySem.Expr} {es : List PySem.Expr} {ds : List D} {d : D} (DX : DefX X f ps n) (O : EnvOk env) (ha : EvsAll X (k + 1) H env ρ (e :: es) ds)
    (hb : ∀ L q fa cd, Runs X k H (fenv (scopeAt n) L q fa cd) L (ps.zip ds) [] (bodyAt n) (Ret H d)) (hl : ds.length = ps.length := by rfl)
    (hps : ps.Nodup := by decide) (hkk : ps.all (fun x => (scopeAt n).names.lookup x == some .local || (scopeAt n).names.lookup x == some .cell) = true := by rfl)
    (hsk : (scopeAt n).kind = .function := by rfl) (hco : (scopeAt n).isCoroutine = false := by rfl) (hgen : (scopeAt n).isGenerator = false := by rfl)
    (hk : env.kindOf f = some .globalImplicit := by rfl) (hd : (f == ("__debug__" : Str)) = false := by decide)
    (hse : backTo pos (starEach (e :: es) env) = (false, eval e env) :: backTo pos (starEach es env) := by rfl) : Evs X (k + 1) H env ρ (.Call (.Name f p) (e :: es) [] pos) d := by
  obtain ⟨fa, fd, DA⟩ := DX
  exact ev_call DA O ha (callOk_of DA hl (fun L q _ => hb L q fa fd.code) hps hkk hsk hco hgen) hk hd hse
theorem nums_get {n i : Nat} {d : D} (h : (nums n)[i]? = some d) : i < n ∧ d = .int (i : Int) := by
  obtain ⟨x, hx, rfl⟩ := map_get h
  obtain ⟨hp, hpe⟩ := List.getElem?_eq_some_iff.mp hx
  rw [List.length_range] at hp
  rw [List.getElem_range] at hpe
  subst hpe; exact ⟨hp, rfl⟩
theorem nums_length (n : Nat) : (nums n).length = n := by simp [nums]
theorem ints_get {l : List Int} {i : Nat} (h : i < l.length) : (l.map D.int)[i]? = some (.int (l.getD i 0)) := by simp [List.getD, h]
/-! data that may be compared -/
noncomputable def Low (l : Words) : Prop := ∀ x ∈ l, ∀ c ∈ x, c < 0x110000
theorem ok_texts {l : Words} (h : Low l) : (texts l).ok = true := by rw [texts, D.ok]; exact texts_ok h
theorem dp_texts (l : Words) : (texts l).py.depth = 1 := by rw [texts, D.py, PyData.depth, texts_depth]
theorem ok_rows : ∀ {ls : List Words}, (∀ l ∈ ls, Low l) → D.okAll (ls.map texts) = true
  | [], _ => by rw [List.map_nil, D.okAll]
  | l :: r, h => by rw [List.map_cons, D.okAll, ok_texts (h l (List.mem_cons_self ..)), ok_rows fun x hx => h x (List.mem_cons_of_mem _ hx)]; rfl
theorem dp_rows : ∀ ls : List Words, PyData.depthAll (D.pyAll (ls.map texts)) ≤ 1
  | [] => by rw [List.map_nil, D.pyAll, PyData.depthAll]; decide
  | l :: r => by rw [List.map_cons, D.pyAll, PyData.depthAll, dp_texts]; have := dp_rows r; omega
noncomputable def rows (ls : List Words) : D := .list (ls.map texts)
theorem cmp_ne_rows {ls : List Words} (h : ∀ l ∈ ls, Low l) : Cmp X (k + 8) H .NotEq (rows ls) (rows ls) false :=
  cmp_ne_same (by rw [rows, D.ok]; exact ok_rows h) (by rw [rows, D.py, PyData.depth]; have := dp_rows ls; omega)
theorem cmp_ne_pair {a b : Words} (ha : Low a) (hb : Low b) : Cmp X (k + 8) H .NotEq (.tuple [texts a, texts b]) (.tuple [texts a, texts b]) false :=
  cmp_ne_same (by rw [D.ok, D.okAll, D.okAll, D.okAll, ok_texts ha, ok_texts hb]; rfl)
    (by rw [D.py, D.pyAll, D.pyAll, D.pyAll, PyData.depth, PyData.depthAll, PyData.depthAll, PyData.depthAll, dp_texts, dp_texts]; decide)
theorem Low.filter {l : Words} (h : Low l) (p : List Nat → Bool) : Low (l.filter p) := fun x hx => h x (List.mem_filter.mp hx).1
end
/-! the law's end -/
theorem kinds_small : ∀ k ∈ kinds, k.2.2 ≤ 5 ∧ 2 ≤ k.2.2 ∧ k.2.1 ≤ 3 ∧ 1 ≤ k.2.1 ∧ k.1 ≤ 3 ∧ 2 ≤ k.1 ∧ (shF k.1 k.2.1).length ≤ 16 ∧ (∀ t ∈ shF k.1 k.2.1, t.length ≤ 3 ∧ t ≠ [] ∧ ∀ c ∈ t, c < k.1) ∧ k.2.1 - 1 + 1 = k.2.1 ∧ ∀ i < k.2.1, (k.1, i) ∈ shapes := by decide +kernel
noncomputable def namesF (wd : List Nat) : Words := wd :: (List.range wd.length).map fun p => del p wd
section
variable {X : Cx} {k : Nat} {H : List Addr} {L fa : Addr} {q : Str} {cd : Value} {f : Nat → Nat} {w most : Nat} {ds : List Nat}
noncomputable abbrev wdF (f : Nat → Nat) (ds : List Nat) : List Nat := ds.map f
noncomputable abbrev shMF (f : Nat → Nat) (w most : Nat) : Words := mp f (shF w most)
theorem low_sh (hk : (w, most, ds.length) ∈ kinds) (h256 : ∀ d, d < w → f d < 256) : ∀ t ∈ shMF f w most, t.length ≤ 3 ∧ t ≠ [] ∧ ∀ c ∈ t, c < 256 := by
  obtain ⟨_, _, _, _, _, _, _, h, _⟩ := kinds_small _ hk
  intro t ht
  obtain ⟨u, hu, rfl⟩ := List.mem_map.mp ht
  obtain ⟨h1, h2, h3⟩ := h u hu
  refine ⟨by simpa using h1, by simpa using h2, fun c hc => ?_⟩
  obtain ⟨d, hd, rfl⟩ := List.mem_map.mp hc
  exact h256 d (h3 d hd)
theorem rev_range (wd : List Nat) (n : Nat) (hn : wd.length = n) : (List.range n).map (fun p => D.str [wd.getD (n - 1 - p) 0]) = (wd.reverse.map fun c => [c]).map D.str := by
  subst hn
  refine List.ext_getElem (by simp) fun i h1 h2 => ?_
  have hi : i < wd.length := by simpa using h1
  simp [List.getD, show wd.length - 1 - i < wd.length by omega]
theorem law_e (LK : LawK X) (hf : Mono f) (hk : (w, most, ds.length) ∈ kinds) (hw : ∀ d ∈ ds, d < w) (h256 : ∀ d, d < w → f d < 256) :
    Runs X (k + 12) H (fenv (scopeAt nLaw) L q fa cd) L [("size", .int (ds.length : Nat)), ("most", .int (most : Nat)), ("word", .str (ds.map f)), ("kept", rows ((namesF (ds.map f)).map (keptF (shMF f w most)))), ("within", rows ((namesF (ds.map f)).map sieve))] []
      ((bodyAt nLaw).drop 23) (Ret H (.bool true)) := by
  have O : EnvOk (fenv (scopeAt nLaw) L q fa cd) := ⟨rfl, rfl, rfl⟩
  obtain ⟨b1, b2, b3, b4, b5, b6, b7, b8, b9⟩ := kinds_small _ hk
  simp only at b1 b2 b3 b4 b5 b6 b7 b8 b9
  have hsh := low_sh (f := f) hk h256
  have hlw : (ds.map f).length = ds.length := List.length_map ..
  have hrs : Rises (shMF f w most) := by
    refine rises_mp hf ?_
    have := sh_rises _ (b9.2 (most - 1) (by omega))
    simp only at this
    rwa [b9.1] at this
  have hlen : ∀ n, (keptF (shMF f w most) n).length ≤ 16 := fun n => Nat.le_trans (List.length_filter_le _ _) (by simpa [mp] using b7)
  have hlow : ∀ n, Low (keptF (shMF f w most) n) := fun n t ht c hc => by have := (hsh t (List.mem_filter.mp ht).1).2.2 c hc; omega
  have hnl : (namesF (ds.map f)).length = ds.length + 1 := by simp [namesF]
  have n0 : ∀ g : List Nat → Words, ((namesF (ds.map f)).map g).map texts = texts (g (ds.map f)) :: ((List.range (ds.map f).length).map fun p => texts (g (del p (ds.map f)))) := fun g => by simp [namesF]
  have get0 : ∀ g : List Nat → Words, (((namesF (ds.map f)).map g).map texts)[0]? = some (texts (g (ds.map f))) := fun g => by rw [n0]; rfl
  have getS : ∀ (g : List Nat → Words) i, i < ds.length → (((namesF (ds.map f)).map g).map texts)[i + 1]? = some (texts (g (del i (ds.map f)))) := fun g i hi => by rw [n0]; simp [hi]
  have nl : ∀ g : List Nat → Words, (((namesF (ds.map f)).map g).map texts).length = ds.length + 1 := fun g => by simp [namesF]
  refine r_assign (d := intsD (depthsF ds ds.length)) (Evs.i (ev_dx (k := k + 11) LK.depths O (evs_cons (ev_name O rfl) evs_nil) fun L' q' fa' cd' => ?_)) ?_
  · have := depths_runs (X := X) (k := k + 8) (H := H) (L := L') (q := q') (fa := fa') (cd := cd') (sg := .str (ds.map f)) (.inl rfl) (by omega)
    rw [hlw, depths_map hf ds _ (Nat.le_refl _)] at this
    exact this
  refine r_assign (d := intsD (depthsF ds.reverse ds.length)) (Evs.i (ev_dx (k := k + 11) LK.depths O (evs_cons (d := texts ((ds.map f).reverse.map fun c => [c])) ?_ evs_nil) fun L' q' fa' cd' => ?_)) ?_
  · show Evs X (k + 11 + 1) H _ _ _ (.list (((ds.map f).reverse.map fun c => [c]).map D.str))
    rw [← rev_range (ds.map f) ds.length hlw]
    refine ev_cx (cx_map (l := List.range ds.length) (g := fun i : Nat => D.int (i : Int)) O int_inj (its_range O (ev_name O rfl) rfl (by omega)) (fun C cs a O' p hp => ?_) (by rw [List.length_range, sizeLine_eq]; omega))
    have hp' := List.mem_range.mp hp
    refine ev_char (j := ds.length - 1 - p) (ev_name O' rfl) (ev_bin (ev_bin (ev_name O' rfl) ev_int bin_sub) (ev_name O' rfl) bin_sub) ?_ (getD_get (by omega)) (by omega)
    rw [hlw]
    have e : (ds.length : Int) - 1 - (p : Int) = ((ds.length - 1 - p : Nat) : Int) := by omega
    exact (congrArg (seqIndex? · ds.length) e).trans (seq_nat (by omega))
  · have := depths_runs (X := X) (k := k + 8) (H := H) (L := L') (q := q') (fa := fa') (cd := cd') (l := (ds.map f).reverse) (sg := texts ((ds.map f).reverse.map fun c => [c])) (.inr rfl) (by simp; omega)
    have er : depthsF (ds.map f).reverse ds.length = depthsF ds.reverse ds.length := by rw [← List.map_reverse, depths_map hf ds.reverse _ (by simp)]
    rw [List.length_reverse, hlw, er] at this
    exact this
  refine r_for (ds := nums ds.length) (fun _ => [("backs", intsD (depthsF ds.reverse ds.length)), ("fronts", intsD (depthsF ds ds.length)), ("size", .int (ds.length : Nat)), ("most", .int (most : Nat)), ("word", .str (ds.map f)), ("kept", rows ((namesF (ds.map f)).map (keptF (shMF f w most)))), ("within", rows ((namesF (ds.map f)).map sieve))]) (fun _ => []) (its_range O (ev_name O rfl) rfl (by omega)) (fun x d h => h) mu_nil ?_ ?_
  · intro i d hd
    obtain ⟨hi, rfl⟩ := nums_get hd
    have ei : (i : Int) + 1 = ((i + 1 : Nat) : Int) := by omega
    obtain ⟨dfa, dfd, DD⟩ := LK.diff
    refine r_assign (d := .tuple [texts (lone (keptF (shMF f w most) (ds.map f)) (keptF (shMF f w most) (del i (ds.map f)))), texts (lone (keptF (shMF f w most) (del i (ds.map f))) (keptF (shMF f w most) (ds.map f)))]) (Evs.i (ev_call DD O (evs_cons ?_ (evs_cons ?_ evs_nil)) (diff_call (k := k + 10) DD (kept_rises hrs _) (kept_rises hrs _) (Nat.le_trans (hlen _) (by decide)) (Nat.le_trans (hlen _) (by decide))))) ?_
    · exact ev_item (j := 0) (ev_name O rfl) ev_int (by rw [nl]; exact seq_nat (j := 0) (by omega)) (get0 _) (by rw [nl]; omega)
    · refine ev_item (j := i + 1) (ev_name O rfl) (ev_bin (ev_name O rfl) ev_int bin_add) ?_ (getS _ i hi) (by rw [nl]; omega)
      rw [nl]
      exact (congrArg (seqIndex? · (ds.length + 1)) ei).trans (seq_nat (by omega))
    have dl : (depthsF ds ds.length).length = ds.length := depthsF_length _ _
    have dl2 : (depthsF ds.reverse ds.length).length = ds.length := depthsF_length _ _
    have e2 : (ds.length : Int) - 1 - (i : Int) = ((ds.length - 1 - i : Nat) : Int) := by omega
    refine r_assign (d := .int (leastL ds i)) (Evs.i (ev_bin (ev_bin (ev_item (j := i) (l := (depthsF ds ds.length).map .int) (ev_name O rfl) (ev_name O rfl) (by rw [List.length_map, dl]; exact seq_nat hi) (ints_get (by omega)) (by rw [List.length_map]; omega))
      (ev_item (j := ds.length - 1 - i) (l := (depthsF ds.reverse ds.length).map .int) (ev_name O rfl) (ev_bin (ev_bin (ev_name O rfl) ev_int bin_sub) (ev_name O rfl) bin_sub) ?_ (ints_get (by omega)) (by rw [List.length_map]; omega)) bin_add) ev_int bin_sub)) ?_
    · rw [List.length_map, dl2]
      exact (congrArg (seqIndex? · ds.length) e2).trans (seq_nat (by omega))
    have hle : lone (keptF (shMF f w most) (del i (ds.map f))) (keptF (shMF f w most) (ds.map f)) = [] := lone_none (del_sub _ _)
    have hmin := min_fact hf hk rfl hw hi
    have htl := told_lens hf w most ds i
    have hll : (lone (keptF (shMF f w most) (ds.map f)) (keptF (shMF f w most) (del i (ds.map f)))).length ≤ 16 := Nat.le_trans (List.length_filter_le _ _) (hlen _)
    rw [hle]
    refine r_if (b := false) (Tst.i (tst_of (ts_cmp (a := .int (min ((most : Int) + 1) (leastL ds i))) (b := .int (min ((most : Int) + 1) (leastL ds i))) (ev_bcall O (evs_cons (d := intsD (((most : Int) + 1) :: toldL w most ds i)) ?_ evs_nil) (c_min hmin.1 hmin.2)) (ev_bcall O (evs_cons (ev_bin (ev_name O rfl) ev_int bin_add) (evs_cons (ev_name O rfl) evs_nil)) c_min2) cmp_ne_int) (by simp))) (fun h => by cases h) fun _ => ?_
    · rw [← htl]
      have e3 : intsD (((most : Int) + 1) :: (lone (keptF (shMF f w most) (ds.map f)) (keptF (shMF f w most) (del i (ds.map f)))).map fun t => (t.length : Int)) = .list ([D.int ((most : Int) + 1)] ++ (lone (keptF (shMF f w most) (ds.map f)) (keptF (shMF f w most) (del i (ds.map f)))).map fun t => D.int (t.length : Int)) := by
        rw [intsD, List.map_cons, List.map_map]; rfl
      rw [e3]
      refine ev_bin (ev_list (evs_cons (ev_bin (ev_name O rfl) ev_int bin_add) evs_nil) (by show 1 ≤ sizeLine; decide)) (ev_cx (cx_map (g := D.str) O str_inj (its_list (ev_itemT (j := 0) (ev_name O rfl) ev_int (by rfl) (by rfl) (by show 2 < 2 ^ 62; decide))) (fun C cs a O' t ht => ev_bcall O' (evs_cons (ev_name O' rfl) evs_nil) (c_len_str ?_)) (by rw [sizeLine_eq]; omega))) (bin_catL ?_)
      · have := (hsh t (List.mem_filter.mp (List.mem_filter.mp ht).1).1).1
        omega
      · rw [List.length_map, sizeLine_eq]; simp; omega
    rw [lone_kept]
    refine r_if (b := false) (Tst.i (ts_cmp (a := .tuple [texts ((keptF (shMF f w most) (ds.map f)).filter fun t => decide (t ∉ sieve (del i (ds.map f)))), texts []]) (ev_name O rfl) (ev_tuple (evs_cons (ev_cx (cx_gen (l := keptF (shMF f w most) (ds.map f)) (g := D.str) (h := D.str) (p := fun t => decide (t ∉ sieve (del i (ds.map f)))) O str_inj (its_list ?_) (fun C cs a O' t ht => ifs_one (tst_of (ts_cmp (ev_name O' rfl) (b := texts (sieve (del i (ds.map f)))) ?_ cmp_notin_texts) (by simp))) (fun C cs a O' t ht _ => ev_name O' rfl) ?_)) (evs_cons (ev_list evs_nil) evs_nil)) (by show 2 ≤ sizeLine; decide)) (cmp_ne_pair ?_ ?_))) (fun h => by cases h) fun _ => ?_
    · exact ev_item (j := 0) (ev_name O rfl) ev_int (by rw [nl]; exact seq_nat (j := 0) (by omega)) (get0 _) (by rw [nl]; omega)
    · refine ev_item (j := i + 1) (ev_name O' rfl) (ev_bin (ev_name O' rfl) ev_int bin_add) ?_ (getS _ i hi) (by rw [nl]; omega)
      rw [nl]
      exact (congrArg (seqIndex? · (ds.length + 1)) ei).trans (seq_nat (by omega))
    · rw [sizeLine_eq]; have := hlen (ds.map f); omega
    · exact (hlow _).filter _
    · exact fun x hx => by cases hx
    exact r_turn (sub_cons rfl (sub_cons rfl (sub_cons rfl (sub_cons rfl (sub_cons rfl (sub_cons rfl (sub_cons rfl sub_nil))))))) mu_nil
  · exact r_retV (Evs.i ev_boolc)
end
end Mine
end

section
open PySem PySem.W PyProof.Rows PySem.Calls
set_option Elab.async false
set_option linter.unusedVariables false
namespace Mine
set_option maxRecDepth 100000
set_option maxHeartbeats 4000000
theorem texts_inj : ∀ x y : Words, texts x = texts y → x = y := fun x y h => by
  have : x.map D.str = y.map D.str := D.list.inj h
  exact List.map_inj_right (fun a b e => str_inj a b e) |>.mp this
theorem filter_range {α : Type} (l : List α) (z : α) (P : α → Bool) : ((List.range l.length).filter fun i => P (l.getD i z)).map (fun i => l.getD i z) = l.filter P := by
  have e : (List.range l.length).map (fun i => l.getD i z) = l := List.ext_getElem (by simp) fun i h1 h2 => by simp [List.getD, h2]
  have := List.filter_map (f := fun i => l.getD i z) (p := P) (l := List.range l.length)
  rw [e] at this
  rw [this]; rfl
theorem rows_map (g : List Nat → Words) (l : Words) : rows (l.map g) = .list (l.map fun n => texts (g n)) := by rw [rows, List.map_map]; rfl
section
variable {X : Cx} {k : Nat} {H : List Addr} {L fa : Addr} {q : Str} {cd : Value} {f : Nat → Nat} {w most : Nat} {ds : List Nat} {env : Env} {ρ : Ro}
/-- the signs that the translation of a text's pattern holds -/
theorem ev_asked {e : PySem.Expr} {p1 p2 p3 p4 p5 p6 : Pos} {t : List Nat} (LK : LawK X) (O : EnvOk env) (he : Evs X (k + 12) H env ρ e (.str t)) (ht : t.length ≤ 8) (hne : t ≠ []) (h256 : ∀ c ∈ t, c < 256)
    (hk : env.kindOf "_law_signs" = some .globalImplicit := by rfl) (hk2 : env.kindOf "translate" = some .globalImplicit := by rfl) (hk3 : env.kindOf "_law_pattern" = some .globalImplicit := by rfl)
    (hse : backTo p2 (starEach [e] env) = (false, eval e env) :: backTo p2 (starEach [] env) := by rfl)
    (hse2 : backTo p4 (starEach [PySem.Expr.Call (.Name "_law_pattern" p1) [e] [] p2] env) = (false, eval (.Call (.Name "_law_pattern" p1) [e] [] p2) env) :: backTo p4 (starEach [] env) := by rfl)
    (hse3 : backTo p6 (starEach [PySem.Expr.Call (.Name "translate" p3) [.Call (.Name "_law_pattern" p1) [e] [] p2] [] p4] env) = (false, eval (.Call (.Name "translate" p3) [.Call (.Name "_law_pattern" p1) [e] [] p2] [] p4) env) :: backTo p6 (starEach [] env) := by rfl)
    (hs1 : starEach [e] env = (false, eval e env) :: starEach [] env := by rfl) (hs2 : starEach [PySem.Expr.Call (.Name "_law_pattern" p1) [e] [] p2] env = (false, eval (.Call (.Name "_law_pattern" p1) [e] [] p2) env) :: starEach [] env := by rfl)
    (hs3 : starEach [PySem.Expr.Call (.Name "translate" p3) [.Call (.Name "_law_pattern" p1) [e] [] p2] [] p4] env = (false, eval (.Call (.Name "translate" p3) [.Call (.Name "_law_pattern" p1) [e] [] p2] [] p4) env) :: starEach [] env := by rfl) :
    Evs X (k + 12) H env ρ (.Call (.Name "_law_signs" p5) [.Call (.Name "translate" p3) [.Call (.Name "_law_pattern" p1) [e] [] p2] [] p4] [] p6) (texts (one t)) := by
  obtain ⟨ft, fb, fj, fe, pa, da, fdt, fdb, fdj, fde, TR⟩ := LK.trans
  obtain ⟨fs, fds, DS⟩ := LK.sign
  obtain ⟨j1, j2, j3⟩ := join_bounds ht
  have h1 : Evs X (k + 12) H env ρ (.Call (.Name "_law_pattern" p1) [e] [] p2) (.str (patL t)) := by
    rw [← patF_eq hne]
    exact ev_dx (k := k + 11) LK.pattern O (evs_cons he evs_nil hs1) (fun L q fa cd => pattern_runs (k := k + 10) (Nat.le_trans ht (by decide))) (hk := hk3) (hse := hse)
  have h2 : Evs X (k + 12) H env ρ (.Call (.Name "translate" p3) [.Call (.Name "_law_pattern" p1) [e] [] p2] [] p4) (.str (joinF t)) :=
    ev_call TR.top O (evs_cons h1 evs_nil hs2) (callOk_of (k := k + 11) TR.top rfl fun L q _ => trans_runs (k := k + 7) ht TR) hk2 (by decide) hse2
  rw [← signs_join h256]
  exact ev_dx (k := k + 11) LK.signs O (evs_cons h2 evs_nil hs3) (fun L q fa cd => signs_runs (k := k + 10) DS j1 j2 j3) (hk := hk) (hse := hse3)
theorem law_d (LK : LawK X) (hf : Mono f) (hk : (w, most, ds.length) ∈ kinds) (hw : ∀ d ∈ ds, d < w) (h256 : ∀ d, d < w → f d < 256) :
    Runs X (k + 12) H (fenv (scopeAt nLaw) L q fa cd) L [("size", .int (ds.length : Nat)), ("most", .int (most : Nat)), ("word", .str (ds.map f)), ("names", texts (namesF (ds.map f))), ("short", texts (shMF f w most))] []
      ((bodyAt nLaw).drop 18) (Ret H (.bool true)) := by
  have O : EnvOk (fenv (scopeAt nLaw) L q fa cd) := ⟨rfl, rfl, rfl⟩
  obtain ⟨b1, b2, b3, b4, b5, b6, b7, b8, b9⟩ := kinds_small _ hk
  simp only at b1 b2 b3 b4 b5 b6 b7 b8 b9
  have hsh := low_sh (f := f) hk h256
  have hsl : (shMF f w most).length ≤ 16 := by simpa [mp] using b7
  have hnl : (namesF (ds.map f)).length = ds.length + 1 := by simp [namesF]
  have hnm : ∀ n ∈ namesF (ds.map f), n.length ≤ 8 := fun n hn => by
    rcases List.mem_cons.mp hn with rfl | hn
    · simp; omega
    · obtain ⟨p, _, rfl⟩ := List.mem_map.mp hn
      have := (del_sub p (ds.map f)).length_le
      simp at this; omega
  refine r_assign (d := rows ((shMF f w most).map one)) (Evs.i ?_) ?_
  · rw [rows_map one]
    exact ev_cx (cx_map (l := shMF f w most) (g := D.str) (h := fun t => texts (one t)) O str_inj (its_list (ev_name O rfl)) (fun C cs a O' t ht => ev_asked LK O' (ev_name O' rfl) (Nat.le_trans (hsh t ht).1 (by decide)) (hsh t ht).2.1 (hsh t ht).2.2) (by rw [sizeLine_eq]; omega))
  refine r_assign (d := rows ((namesF (ds.map f)).map sieve)) (Evs.i ?_) ?_
  · rw [rows_map sieve]
    exact ev_cx (cx_map (l := namesF (ds.map f)) (g := D.str) (h := fun n => texts (sieve n)) O str_inj (its_list (ev_name O rfl)) (fun C cs a O' n hn => ev_dx (k := k + 11) LK.within O' (evs_cons (ev_name O' rfl) evs_nil) fun L q fa cd => within_runs (k := k + 10) (hnm n hn)) (by rw [sizeLine_eq]; omega))
  have cl : ∀ {H' : List Addr}, CallOk X (k + 12) H' (.builtin "len") [texts (shMF f w most)] (.int (shMF f w most).length) := fun {H'} => by
    have := c_len_list (X := X) (k := k + 12) (H := H') (l := (shMF f w most).map D.str) (by rw [List.length_map]; omega)
    rwa [List.length_map] at this
  refine r_assignC (rs := ((namesF (ds.map f)).map (keptF (shMF f w most))).map texts) ?_ ?_
  · have e0 : ((namesF (ds.map f)).map (keptF (shMF f w most))).map texts = (namesF (ds.map f)).map fun n => texts (keptF (shMF f w most) n) := List.map_map ..
    rw [e0]
    refine cx_map (l := namesF (ds.map f)) (g := D.str) (h := fun n => texts (keptF (shMF f w most) n)) O str_inj (its_list (ev_name O rfl)) (fun C cs a O' n hn => ?_) (by rw [sizeLine_eq]; omega)
    have ek : texts (keptF (shMF f w most) n) = .list (((List.range (shMF f w most).length).filter fun i => takes (one ((shMF f w most).getD i [])) n).map fun i => D.str ((shMF f w most).getD i [])) := by
      have h1 := filter_range (shMF f w most) [] (fun t => takes (one t) n)
      rw [texts]
      refine congrArg D.list ?_
      have h2 : keptF (shMF f w most) n = (shMF f w most).filter fun t => takes (one t) n := List.filter_congr fun t _ => (takes_one t n).symm
      rw [h2, ← h1, List.map_map]; rfl
    rw [ek]
    refine ev_cx (cx_gen (l := List.range (shMF f w most).length) (g := fun i : Nat => D.int (i : Int)) O' int_inj (its_range O' (ev_bcall O' (evs_cons (ev_name O' rfl) evs_nil) cl) rfl (by omega)) (fun C2 cs2 a2 O2 i hi => ifs_one (ts_val ?_ tru_bool)) (fun C2 cs2 a2 O2 i hi _ => ?_) (by rw [List.length_range, sizeLine_eq]; omega))
    · have hi' := List.mem_range.mp hi
      refine ev_dx (k := k + 11) LK.takes O2 (evs_cons (ev_item (j := i) (l := ((shMF f w most).map one).map texts) (ev_name O2 rfl) (ev_name O2 rfl) (by simpa using seq_nat hi') ?_ (by simp; omega)) (evs_cons (ev_name O2 rfl) evs_nil)) fun L q fa cd => takes_runs (k := k + 10)
      simp [List.getD, hi']
    · have hi' := List.mem_range.mp hi
      refine ev_item (j := i) (l := (shMF f w most).map D.str) (ev_name O2 rfl) (ev_name O2 rfl) (by rw [List.length_map]; exact seq_nat hi') ?_ (by rw [List.length_map]; omega)
      simp [List.getD, hi']
  refine r_if (b := false) (Tst.i (ts_cmp (a := .list []) (b := .list []) ?_ (ev_list evs_nil) (cmp_ne_same (k := k + 4) (by rfl) (by decide)))) (fun h => by cases h) fun _ => ?_
  · have e1 : D.list [] = .list ((((shMF f w most).map one).filter fun s => decide ([] ∈ s)).map texts) := by
      have : ((shMF f w most).map one).filter (fun s => decide ([] ∈ s)) = [] := List.filter_eq_nil_iff.mpr fun s hs => by
        obtain ⟨t, _, rfl⟩ := List.mem_map.mp hs
        simp [one]
      rw [this]; rfl
    rw [e1]
    exact ev_cx (cx_gen (l := (shMF f w most).map one) (g := texts) (h := texts) (p := fun s => decide ([] ∈ s)) O texts_inj (its_list (ev_name O rfl)) (fun C cs a O' s hs => ifs_one (ts_cmp ev_str (ev_name O' rfl) cmp_in_texts)) (fun C cs a O' s hs _ => ev_name O' rfl) (by rw [List.length_map, sizeLine_eq]; omega))
  refine r_if (b := false) (Tst.i (ts_cmp (a := rows ((namesF (ds.map f)).map (keptF (shMF f w most)))) (b := rows ((namesF (ds.map f)).map (keptF (shMF f w most)))) (ev_name O rfl) ?_ (cmp_ne_rows (k := k + 4) ?_))) (fun h => by cases h) fun _ => ?_
  · have e1 : rows ((namesF (ds.map f)).map (keptF (shMF f w most))) = .list (((namesF (ds.map f)).map sieve).map fun s => texts ((shMF f w most).filter fun t => decide (t ∈ s))) := by
      rw [rows, List.map_map, List.map_map]; rfl
    rw [e1]
    exact ev_cx (cx_map (l := (namesF (ds.map f)).map sieve) (g := texts) (h := fun s => texts ((shMF f w most).filter fun t => decide (t ∈ s))) O texts_inj (its_list (ev_name O rfl)) (fun C cs a O' s hs => ev_cx (cx_gen (l := shMF f w most) (g := D.str) (h := D.str) O' str_inj (its_list (ev_name O' rfl)) (fun C2 cs2 a2 O2 t ht => ifs_one (ts_cmp (ev_name O2 rfl) (ev_name O2 rfl) cmp_in_texts)) (fun C2 cs2 a2 O2 t ht _ => ev_name O2 rfl) (by rw [sizeLine_eq]; omega))) (by rw [List.length_map, sizeLine_eq]; omega))
  · intro l hl t ht c hc
    obtain ⟨n, _, rfl⟩ := List.mem_map.mp hl
    have := (hsh t (List.mem_filter.mp ht).1).2.2 c hc
    omega
  exact r_sub (law_e LK hf hk hw h256) (sub_cons rfl (sub_cons rfl (sub_cons rfl (sub_cons rfl (sub_cons rfl sub_nil))))) mu_nil
end
end Mine
end

section
open PySem PySem.W PyProof.Rows PySem.Calls
set_option Elab.async false
set_option linter.unusedVariables false
namespace Mine
set_option maxRecDepth 100000
set_option maxHeartbeats 4000000
section
variable {X : Cx} {k : Nat} {H : List Addr} {env : Env} {N : Nat} {ρ : Ro} {μ : Mu} {R : Post} {rest : List Stmt}
/-- a new list of the frame's own, with one in it -/
theorem r_own1 {y : Str} {e : PySem.Expr} {d : D} {p p2 pos : Pos} (he : EvsI X k H env N ρ μ e d) (h : ∀ a, a ∉ H → Runs X k (a :: H) env N ((y, .addr a) :: ρ) ((a, [d]) :: μ) rest R) (hy : canBind env y = true := by rfl)
    (hse : starEach [e] env = [(false, eval e env)] := by rfl) : Runs X k H env N ρ μ (.Assign [.Name y p] (.List [e] p2) pos :: rest) R := by
  intro A s0 Q E I0 hQ
  refine wpAny_execs_cons (wpAny_Assign_Name (wpAny_List (wpAny_items_cons (he A s0 _ E I0 fun v s i t0 => wpAny_items_nil ⟨by show 1 ≤ sizeLine; decide, ?_⟩) hse)) rfl)
  have I := I0.step t0
  have hfr : s.heap.objs.size ∉ H := I.good.fresh (Nat.le_refl _)
  have keep : ∀ b o, s.heap.get? b = some o → (s.heap.push { cls := .type "list", data := .seq ([v] : List Value).toArray }).get? b = some o := fun b o e => Heap.get?_push_of_some _ e
  have ea : (s.heap.push { cls := .type "list", data := .seq ([v] : List Value).toArray }).get? s.heap.objs.size = some { cls := .type "list", data := .seq ([v] : List Value).toArray } := Heap.get?_push_size _ rfl
  have t : Step X s { s with heap := s.heap.push { cls := .type "list", data := .seq ([v] : List Value).toArray } } := new_seq
  have sq : SeqSub (vis H s.heap) (vis (s.heap.objs.size :: H) (s.heap.push { cls := .type "list", data := .seq ([v] : List Value).toArray })) := fun b o e _ => by
    obtain ⟨h1, h2⟩ := vis_iff.mp e
    refine vis_iff.mpr ⟨fun q => ?_, keep b o h2⟩
    rcases List.mem_cons.mp q with rfl | q
    · rw [get_size_none] at h2; cases h2
    · exact h1 q
  have I1 := I.step t
  have I2 : Inv X k (s.heap.objs.size :: H) A env N ρ ((s.heap.objs.size, [d]) :: μ) { s with heap := s.heap.push { cls := .type "list", data := .seq ([v] : List Value).toArray } } := by
    refine ⟨I.fr, ⟨I1.good.ok, I1.good.base, fun b hb => ?_, I1.good.fr⟩, fun x d hx => ?_, I1.loc, I1.cell, I1.own, fun b ds hb => ?_⟩
    · rcases List.mem_cons.mp hb with rfl | hb
      · exact ⟨_, ea, by intro _ q; cases q⟩
      · exact I1.good.hid b hb
    · obtain ⟨v, l, i⟩ := I.sees x d hx
      exact ⟨v, l.ext I.good.base t.ext, i.mono sq⟩
    · rw [List.lookup_cons] at hb
      cases q : b == s.heap.objs.size with
      | true =>
        rw [q] at hb; cases hb
        rw [beq_iff_eq.mp q]
        refine ⟨List.mem_cons_self .., ?_, #[v], ⟨_, ea⟩, isAll_cons.mpr ⟨v, [], rfl, i.mono sq, isAll_nil.mpr rfl⟩⟩
        obtain ⟨m, o, _, _, e, _⟩ := I.loc
        exact Nat.le_trans I.fr.loc (Nat.le_of_lt (Heap.lt_size e))
      | false =>
        rw [q] at hb
        obtain ⟨h1, h2, ys, ⟨n, h3⟩, h4⟩ := I.lists b ds hb
        exact ⟨List.mem_cons_of_mem _ h1, h2, ys, ⟨n, keep _ _ h3⟩, h4.mono sq⟩
  refine I2.bind (d := .addr s.heap.objs.size) hy (is_addr.mpr rfl) fun s2 t2 I3 => ?_
  refine h _ hfr A s2 Q E I3 fun f s3 t3 r => hQ f s3 ?_ r
  refine t0.no.trans ?_
  refine ((t.no (W := Wr env (s.heap.objs.size :: H) N)).trans (t2.trans t3)).monoAt fun b o e hb => ?_
  obtain ⟨h1, h2⟩ := hb
  refine ⟨h1, h2.imp id (Or.imp id fun h2 => ?_)⟩
  rcases List.mem_cons.mp h2 with rfl | h2
  · rw [get_size_none] at e; cases e
  · exact h2
end
/-! bytes of signs -/
noncomputable def bt (l : List Nat) : List UInt8 := l.map Nat.toUInt8
theorem byte_back {n : Nat} (h : n < 256) : n.toUInt8.toNat = n := by
  simp only [Nat.toUInt8, UInt8.toNat_ofNat']; omega
theorem bt_back {l : List Nat} (h : ∀ c ∈ l, c < 256) : (bt l).map (·.toNat) = l := by
  unfold bt
  rw [List.map_map]
  refine (List.map_congr_left fun c hc => ?_).trans (List.map_id l)
  exact byte_back (h c hc)
theorem bt_ints {l : List Nat} (h : ∀ c ∈ l, c < 256) : ((bt l).map fun b => D.int b.toNat) = l.map fun n : Nat => D.int (n : Int) := by
  unfold bt
  rw [List.map_map]
  refine List.map_congr_left fun c hc => ?_
  show D.int (c.toUInt8.toNat : Int) = _
  rw [byte_back (h c hc)]
theorem bt_length (l : List Nat) : (bt l).length = l.length := List.length_map ..
theorem glue_chars : ∀ l : List Nat, glue [] (l.map fun c => [c]) = l := fun l => by
  rw [glue_nil, ← List.flatMap_def]; simp
section
variable {X : Cx} {k : Nat} {H : List Addr} {L fa : Addr} {q : Str} {cd : Value} {wd : List Nat} {size most : Nat} {sh : Words}
theorem law_c (LK : LawK X) (h2 : 2 ≤ wd.length) (h5 : wd.length ≤ 5) (h256 : ∀ c ∈ wd, c < 256)
    (hd : Runs X (k + 12) H (fenv (scopeAt nLaw) L q fa cd) L [("size", .int (wd.length : Nat)), ("most", .int (most : Nat)), ("word", .str wd), ("names", texts (namesF wd)), ("short", texts sh)] [] ((bodyAt nLaw).drop 18) (Ret H (.bool true))) :
    Runs X (k + 12) H (fenv (scopeAt nLaw) L q fa cd) L [("size", .int (wd.length : Nat)), ("most", .int (most : Nat)), ("word", .str wd), ("short", texts sh)] []
      ((bodyAt nLaw).drop 14) (Ret H (.bool true)) := by
  have O : EnvOk (fenv (scopeAt nLaw) L q fa cd) := ⟨rfl, rfl, rfl⟩
  obtain ⟨C, fI, ft, fdT, TK⟩ := LK.tape
  obtain ⟨fs, fds, DS⟩ := LK.string
  obtain ⟨fu, fdu, DU⟩ := LK.uint
  obtain ⟨fo, fdo, DO⟩ := LK.octets
  have hall : ∀ c ∈ wd.length :: wd, c < 256 := fun c hc => by
    rcases List.mem_cons.mp hc with rfl | hc
    · omega
    · exact h256 c hc
  refine r_assign (d := .bytes (bt (wd.length :: wd))) (Evs.i (ev_tcall O (evs_cons (d := .list ((wd.length :: wd).map fun n : Nat => D.int (n : Int))) ?_ evs_nil) (c_bytes (k := k + 11) hall (by rw [sizeLine_eq]; simp; omega)))) ?_
  · have e : (wd.length :: wd).map (fun n : Nat => D.int (n : Int)) = [D.int (wd.length : Nat)] ++ wd.map fun n : Nat => D.int (n : Int) := rfl
    rw [e]
    exact ev_bin (ev_list (evs_cons (ev_name O rfl) evs_nil) (by show 1 ≤ sizeLine; decide)) (ev_cx (cx_map (l := wd) (g := fun c => D.str [c]) O chr_inj (its_str (ev_name O rfl)) (fun C cs a O' c hc => ev_bcall O' (evs_cons (ev_name O' rfl) evs_nil) c_ord) (by rw [sizeLine_eq]; omega))) (bin_catL (by rw [List.length_map, sizeLine_eq]; simp; omega))
  have hn : (wd.length.toUInt8).toNat = wd.length := byte_back (by omega)
  have es : ((bt wd).take wd.length.toUInt8.toNat).map (·.toNat) = wd := by
    rw [hn, List.take_of_length_le (by rw [bt_length]; omega), bt_back h256]
  have hb : Low (namesF wd) := fun x hx c hc => by
    have : c < 256 := by
      rcases List.mem_cons.mp hx with rfl | hx
      · exact h256 c hc
      · obtain ⟨p, _, rfl⟩ := List.mem_map.mp hx
        exact h256 c ((del_sub p wd).subset hc)
    omega
  refine r_own1 (d := .str (((bt wd).take wd.length.toUInt8.toNat).map (·.toNat))) (Evs.i (ev_string1 (k := k + 8) (l := bt wd) (n := wd.length.toUInt8) TK DS DU O (ev_name O rfl) (by rw [bt_length]; omega) (by omega) (by rw [bt_length]; omega))) fun a ha => ?_
  rw [es]
  refine r_for (ds := nums wd.length) (fun i => [("names", .addr a), ("whole", .bytes (bt (wd.length :: wd))), ("size", .int (wd.length : Nat)), ("most", .int (most : Nat)), ("word", .str wd), ("short", texts sh)])
    (fun i => [(a, (wd :: (List.range i).map fun p => del p wd).map D.str)]) (its_range O (ev_name O rfl) rfl (by omega)) (sub_cons rfl (sub_cons rfl (sub_cons rfl (sub_cons rfl (sub_cons rfl (sub_cons rfl sub_nil)))))) (mu_sub1 mu_self) ?_ ?_
  · intro i d hd'
    obtain ⟨hi, rfl⟩ := nums_get hd'
    have hdl : (del i wd).length ≤ wd.length := (del_sub i wd).length_le
    have hd256 : ∀ c ∈ del i wd, c < 256 := fun c hc => h256 c ((del_sub i wd).subset hc)
    have hall' : ∀ c ∈ wd.length :: del i wd, c < 256 := fun c hc => by
      rcases List.mem_cons.mp hc with rfl | hc
      · omega
      · exact hd256 c hc
    have el : cut (bt (wd.length :: wd)) none (some ((i : Int) + 1)) ++ cut (bt (wd.length :: wd)) (some ((i : Int) + 2)) none = bt (wd.length :: del i wd) := by
      have e1 : (i : Int) + 1 = ((i + 1 : Nat) : Int) := by omega
      have e2 : (i : Int) + 2 = ((i + 2 : Nat) : Int) := by omega
      rw [e1, e2, cut_upto, cut_from _ _ (by rw [bt_length, List.length_cons]; omega)]
      unfold bt del
      rw [← List.map_take, ← List.map_drop, ← List.map_append]; rfl
    refine r_tup2 (k := k + 11) (dx := .list ((wd.length :: del i wd).map fun n : Nat => D.int (n : Int))) (dy := .str notEnough) (Evs.i (by
      rw [← bt_ints hall']
      exact ev_octets (k := k + 8) TK DO DU O (by
        rw [← el]
        exact ev_bin (ev_cutB (ev_name O rfl) .none (.some (ev_bin (ev_name O rfl) ev_int bin_add)) (by rw [bt_length, sizeLine_eq]; simp; omega)) (ev_cutB (ev_name O rfl) (.some (ev_bin (ev_name O rfl) ev_int bin_add)) .none (by rw [bt_length, sizeLine_eq]; simp; omega))
          (bin_catB (Nat.le_trans (Nat.add_le_add (cut_length_le _ _ _) (cut_length_le _ _ _)) (by rw [bt_length]; simp; omega)))) (by rw [bt_length]; simp; omega))) ?_
    have hlz : ((wd.length :: del i wd).map fun n : Nat => D.int (n : Int)).length ≤ sizeLine := by rw [List.length_map, sizeLine_eq]; simp; omega
    have e1 : D.list [D.int (wd.length : Nat)] = .list (cut ((wd.length :: del i wd).map fun n : Nat => D.int (n : Int)) none (some 1)) := by
      have := cut_upto ((wd.length :: del i wd).map fun n : Nat => D.int (n : Int)) 1
      exact congrArg D.list this.symm
    have e2 : cut ((wd.length :: del i wd).map fun n : Nat => D.int (n : Int)) (some 1) none = (del i wd).map fun n : Nat => D.int (n : Int) := cut_from _ 1 (by simp)
    refine r_if (b := false) (Tst.i (tst_of (ts_or (ts_cmp (a := .list [.int (wd.length : Nat)]) (b := .list [.int (wd.length : Nat)]) (by rw [e1]; exact ev_cutL (ev_name O rfl) .none (.some ev_int) hlz) (ev_list (evs_cons (ev_name O rfl) evs_nil) (by show 1 ≤ sizeLine; decide)) (cmp_ne_same (k := k + 4) (by rfl) (by show (1 : Nat) ≤ 64; decide))) fun _ => ts_or (ts_cmp (ev_name O rfl) ev_str cmp_ne_str) fun _ => ts_or_nil) (by rw [show notEnough = T "not enough data in stream to read uint1" from rfl]; simp))) (fun h => by cases h) fun _ => ?_
    refine r_append (a := a) (ds := (wd :: (List.range i).map fun p => del p wd).map D.str) (d := .str (del i wd)) rfl mu_self (Evs.i ?_) ?_ (by simp [sizeLine_eq]; omega)
    · have hj := c_join (X := X) (k := k + 12) (H := a :: H) (x := []) (l := (del i wd).map fun c => [c]) (by
        have hs : ∀ m : List Nat, ((m.map fun c => [c]).map List.length).sum = m.length := fun m => by
          induction m with
          | nil => rfl
          | cons c r ih => simp only [List.map_cons, List.sum_cons, ih, List.length_cons, List.length_nil]; omega
        rw [hs, List.length_map]; omega) (by simp)
      rw [glue_chars] at hj
      refine ev_meth (a := .str (T "")) (ds := [texts ((del i wd).map fun c => [c])]) m_join ev_str rfl (evs_cons ?_ evs_nil) hj
      have e3 : texts ((del i wd).map fun c => [c]) = .list ((del i wd).map fun c => D.str [c]) := by rw [texts, List.map_map]; rfl
      rw [e3]
      refine ev_cx (cx_map (l := del i wd) (g := fun n : Nat => D.int (n : Int)) O int_inj (its_list ?_) (fun C cs b O' c hc => ev_bcall O' (evs_cons (ev_name O' rfl) evs_nil) (c_chr (by have := hd256 c hc; omega))) (by rw [sizeLine_eq]; omega))
      rw [← e2]
      exact ev_cutL (ev_name O rfl) (.some ev_int) .none hlz
    · refine r_turn (sub_cons rfl (sub_cons rfl (sub_cons rfl (sub_cons rfl (sub_cons rfl (sub_cons rfl sub_nil)))))) (mu_sub1 ?_)
      rw [mu_self, List.range_succ, List.map_append, List.map_singleton, List.map_cons, List.map_cons, List.map_append]
      rfl
  · rw [nums_length]
    refine r_disown (y := "names") (ds := (namesF wd).map D.str) ha rfl mu_self ?_
    refine r_if (b := false) (Tst.i (ts_cmp (a := texts (namesF wd)) (b := texts (namesF wd)) (ev_name O rfl) ?_ (cmp_ne_same (k := k + 4) (ok_texts hb) (by rw [dp_texts]; decide)))) (fun h => by cases h) fun _ => ?_
    · have e4 : texts (namesF wd) = .list ([D.str wd] ++ (List.range wd.length).map fun p => D.str (del p wd)) := by
        rw [texts, namesF, List.map_cons, List.map_map]; rfl
      rw [e4]
      refine ev_bin (ev_list (evs_cons (ev_name O rfl) evs_nil) (by show 1 ≤ sizeLine; decide)) (ev_cx (cx_map (l := List.range wd.length) (g := fun i : Nat => D.int (i : Int)) O int_inj (its_range O (ev_name O rfl) rfl (by omega)) (fun C cs b O' p hp => ?_) (by rw [List.length_range, sizeLine_eq]; omega))) (bin_catL (by rw [List.length_map, List.length_range, sizeLine_eq]; simp; omega))
      have hp' := List.mem_range.mp hp
      have e5 : del p wd = cut wd none (some (p : Int)) ++ cut wd (some ((p : Int) + 1)) none := by
        have e1 : (p : Int) + 1 = ((p + 1 : Nat) : Int) := by omega
        rw [e1, cut_upto, cut_from _ _ (by omega)]; rfl
      rw [e5]
      exact ev_bin (ev_cutS (ev_name O' rfl) .none (.some (ev_name O' rfl)) (by rw [sizeLine_eq]; omega)) (ev_cutS (ev_name O' rfl) (.some (ev_bin (ev_name O' rfl) ev_int bin_add)) .none (by rw [sizeLine_eq]; omega)) (bin_cat (Nat.le_trans (Nat.add_le_add (cut_length_le _ _ _) (cut_length_le _ _ _)) (by rw [sizeLine_eq]; omega)))
    · exact r_sub hd (sub_cons rfl (sub_cons rfl (sub_cons rfl (sub_cons rfl (sub_cons rfl sub_nil))))) mu_nil
end
end Mine
end

section
open PySem PySem.W PyProof.Rows PySem.Calls
set_option Elab.async false
set_option linter.unusedVariables false
namespace Mine
set_option maxRecDepth 100000
set_option maxHeartbeats 4000000
theorem shapes_small : ∀ p ∈ shapes, (shF p.1 p.2).length ≤ 16 ∧ (lvF p.1 p.2).length ≤ 16 ∧ (lvF p.1 (p.2 + 1)).length ≤ 16 ∧ ∀ t ∈ lvF p.1 p.2, t.length ≤ 3 := by decide +kernel
section
variable {X : Cx} {k : Nat} {H : List Addr} {L fa : Addr} {q : Str} {cd : Value} {f : Nat → Nat} {w most : Nat} {ds : List Nat}
theorem law_b (LK : LawK X) (hf : Mono f) (hk : (w, most, ds.length) ∈ kinds) (hw : ∀ d ∈ ds, d < w) (h256 : ∀ d, d < w → f d < 256) :
    Runs X (k + 12) H (fenv (scopeAt nLaw) L q fa cd) L [("size", .int (ds.length : Nat)), ("most", .int (most : Nat)), ("letters", .list ((List.range w).map fun d => D.str [f d])), ("word", .str (ds.map f))] []
      ((bodyAt nLaw).drop 11) (Ret H (.bool true)) := by
  have O : EnvOk (fenv (scopeAt nLaw) L q fa cd) := ⟨rfl, rfl, rfl⟩
  obtain ⟨b1, b2, b3, b4, b5, b6, b7, b8, b9⟩ := kinds_small _ hk
  simp only at b1 b2 b3 b4 b5 b6 b7 b8 b9
  refine r_assign (d := texts (mp f (shF w 0))) (Evs.i (ev_list evs_nil (by show 0 ≤ sizeLine; decide))) ?_
  refine r_assign (d := texts (mp f (lvF w 0))) (Evs.i (ev_list (evs_cons ev_str evs_nil) (by show 1 ≤ sizeLine; decide))) ?_
  refine r_for (ds := nums most) (fun i => [("level", texts (mp f (lvF w i))), ("short", texts (mp f (shF w i))), ("size", .int (ds.length : Nat)), ("most", .int (most : Nat)), ("letters", .list ((List.range w).map fun d => D.str [f d])), ("word", .str (ds.map f))]) (fun _ => [])
    (its_range O (ev_name O rfl) rfl (by omega)) (fun x d h => h) mu_nil ?_ ?_
  · intro i d hd
    obtain ⟨hi, rfl⟩ := nums_get hd
    have hs := b9.2 i hi
    obtain ⟨s1, s2, s3, s4⟩ := shapes_small _ hs
    simp only at s1 s2 s3 s4
    have ml : ∀ l : Words, (mp f l).length = l.length := fun l => List.length_map ..
    have e1 : (mp f (lvF w (i + 1))).map D.str = (mp f (lvF w i)).flatMap fun u => (List.range w).map fun d => D.str (u ++ [f d]) := by
      rw [← lv_mp, List.map_flatMap]
      refine congrArg (fun g => (mp f (lvF w i)).flatMap g) (funext fun u => ?_)
      rw [List.map_map]; rfl
    refine r_assignC (rs := (mp f (lvF w (i + 1))).map D.str) ?_ ?_
    · rw [e1]
      refine cx_map2 (l := mp f (lvF w i)) (m := List.range w) (g := D.str) (g2 := fun d => D.str [f d]) (h := fun u d => D.str (u ++ [f d])) O str_inj (fun x y e => hf.inj (chr_inj _ _ e)) (its_list (ev_name O rfl)) (fun C cs a O' u hu => its_list (ev_name O' rfl)) (fun C cs a O' u hu v hv => ?_) (by
        rw [ml, List.length_range, sizeLine_eq]
        exact Nat.le_trans (Nat.mul_le_mul s2 b5) (by decide))
      obtain ⟨t, ht, rfl⟩ := List.mem_map.mp hu
      have := s4 t ht
      exact ev_bin (ev_name O' rfl) (ev_name O' rfl) (bin_cat (by rw [List.length_map, sizeLine_eq]; simp; omega))
    · refine r_assign (d := texts (mp f (shF w (i + 1)))) (Evs.i (ev_bcall O (evs_cons (d := texts (mp f (shF w i) ++ mp f (lvF w (i + 1)))) ?_ evs_nil) (c_sorted (by rw [List.length_append, ml, ml]; omega) (sort_fact hf hs)))) (r_turn (sub_cons rfl (sub_cons rfl (sub_cons rfl (sub_cons rfl (sub_cons rfl (sub_cons rfl sub_nil)))))) mu_nil)
      have e2 : texts (mp f (shF w i) ++ mp f (lvF w (i + 1))) = .list ((mp f (shF w i)).map D.str ++ (mp f (lvF w (i + 1))).map D.str) := by rw [texts, List.map_append]
      rw [e2]
      exact ev_bin (ev_name O rfl) (ev_name O rfl) (bin_catL (by rw [List.length_map, List.length_map, ml, ml, sizeLine_eq]; omega))
  · rw [nums_length]
    have hlw : (ds.map f).length = ds.length := List.length_map ..
    have hc := law_c (X := X) (k := k) (H := H) (L := L) (fa := fa) (q := q) (cd := cd) (wd := ds.map f) (most := most) (sh := shMF f w most) LK (by omega) (by omega) (fun c hc => by
      obtain ⟨d, hd, rfl⟩ := List.mem_map.mp hc
      exact h256 d (hw d hd)) (by rw [hlw]; exact law_d LK hf hk hw h256)
    rw [hlw] at hc
    exact r_sub hc (sub_cons rfl (sub_cons rfl (sub_cons rfl (sub_cons rfl sub_nil)))) mu_nil
end
end Mine
end

section
open PySem PySem.W PyProof.Rows PySem.Calls
set_option Elab.async false
set_option linter.unusedVariables false
namespace Mine
set_option maxRecDepth 100000
set_option maxHeartbeats 4000000
theorem fmod_nat (a b : Nat) : (a : Int).fmod (b : Int) = ((a % b : Nat) : Int) := by
  rw [Int.fmod_eq_emod_of_nonneg _ (by omega)]; exact (Int.natCast_emod a b).symm
theorem fdiv_nat (a b : Nat) : (a : Int).fdiv (b : Int) = ((a / b : Nat) : Int) := by
  rw [Int.fdiv_eq_ediv_of_nonneg _ (by omega)]; exact (Int.natCast_ediv a b).symm
theorem short_div {a : Int} {b : Int} (h : b.natAbs < 2 ^ 64) : Builtin.divisionGoesByPylong a b = false := by
  unfold Builtin.divisionGoesByPylong
  simp only [Bool.and_eq_false_iff, decide_eq_false_iff_not, Nat.not_lt]
  left
  split
  · decide
  · next hb =>
    have h0 : b.natAbs ≠ 0 := fun e => hb (by simp [Int.natAbs_eq_zero.mp e])
    have : b.natAbs.log2 < 64 := (Nat.log2_lt h0).mpr h
    omega
theorem sum_nat : ∀ l : List Nat, (l.map fun n : Nat => (n : Int)).sum = ((l.sum : Nat) : Int)
  | [] => rfl
  | a :: l => by rw [List.map_cons, List.sum_cons, List.sum_cons, sum_nat l]; omega
/-- letters of their own, in order -/
theorem letters_of {l : List Nat} (hn : l.Nodup) (h256 : ∀ c ∈ l, c < 256) : ∃ f : Nat → Nat, Mono f ∧ (∀ d, d < l.length → f d < 256) ∧ ∀ m : Words, m.Perm (l.map fun c => [c]) → PyProof.Rows.sortedS (m.map S) = true → m = (List.range l.length).map fun d => [f d] := by
  let s := l.mergeSort (fun a b => decide (a ≤ b))
  have hp : s.Perm l := List.mergeSort_perm l _
  have hl : s.length = l.length := hp.length_eq
  have h1 : s.Pairwise (fun a b => decide (a ≤ b) = true) := List.pairwise_mergeSort (le := fun a b => decide (a ≤ b)) (fun a b c h1 h2 => by simp at *; omega) (fun a b => by simp; omega) l
  have hs : s.Pairwise (· < ·) := by
    have hnd : s.Pairwise (· ≠ ·) := hp.nodup_iff.mpr hn
    refine (h1.and hnd).imp fun {a b} h => ?_
    have := of_decide_eq_true h.1
    have := h.2
    omega
  have hs256 : ∀ c ∈ s, c < 256 := fun c hc => h256 c (hp.mem_iff.mp hc)
  refine ⟨fun d => if h : d < s.length then s[d] else 256 + d, fun a b hab => ?_, fun d hd => ?_, fun m hm hso => ?_⟩
  · by_cases hb : b < s.length
    · have ha : a < s.length := Nat.lt_trans hab hb
      simp only [ha, hb, dif_pos]
      exact List.pairwise_iff_getElem.mp hs a b ha hb hab
    · by_cases ha : a < s.length
      · simp only [ha, hb, dif_pos, dif_neg, not_false_eq_true]
        have := hs256 _ (List.getElem_mem ha)
        omega
      · simp only [ha, hb, dif_neg, not_false_eq_true]; omega
  · have hd' : d < s.length := by omega
    simp only [hd', dif_pos]
    exact hs256 _ (List.getElem_mem hd')
  · have e : (List.range l.length).map (fun d => [if h : d < s.length then s[d] else 256 + d]) = s.map fun c => [c] := by
      refine List.ext_getElem (by simp [hl]) fun i h1 h2 => ?_
      have hi : i < s.length := by simpa using h2
      simp [hi]
    rw [e]
    refine sort_uniq (hp.map _) ?_ hm hso
    exact List.pairwise_map.mpr (hs.imp fun h => List.Lex.rel h)
noncomputable def tempt : List Nat := T "*?[]!-^\\|.ab"
theorem tempt_low : ∀ c ∈ tempt, c < 256 := by decide
noncomputable def nsF (script : List Int) : List Nat := (script.take 12).map fun a => (a.fmod 1000000).toNat
noncomputable def drF (ns : List Nat) : Nat := 5 + ((List.range ns.length).map fun p => ns.getD p 0 * (p + 2)).sum
noncomputable def kdF (ns : List Nat) : Nat := if 1 < ns.length then drF ns % 3 else 3
noncomputable def wF (kd : Nat) : Nat := [2, 3, 2, 2].getD kd 0
noncomputable def mF (kd : Nat) : Nat := [2, 2, 3, 1].getD kd 0
noncomputable def szF (ns : List Nat) : Nat := 2 + min 3 (ns.length / 2)
theorem kinds_of (ns : List Nat) : (wF (kdF ns), mF (kdF ns), szF ns) ∈ kinds := by
  unfold kdF szF
  by_cases h : 1 < ns.length
  · rw [if_pos h]
    have h1 : drF ns % 3 < 3 := Nat.mod_lt _ (by decide)
    have h2 : min 3 (ns.length / 2) = 1 ∨ min 3 (ns.length / 2) = 2 ∨ min 3 (ns.length / 2) = 3 := by omega
    generalize drF ns % 3 = x at h1
    generalize min 3 (ns.length / 2) = y at h2
    have h3 : x = 0 ∨ x = 1 ∨ x = 2 := by omega
    rcases h3 with rfl | rfl | rfl <;> rcases h2 with rfl | rfl | rfl <;> decide
  · rw [if_neg h]
    have h2 : min 3 (ns.length / 2) = 0 := by omega
    rw [h2]; decide
theorem letter3 (c mo w : Nat) (hc : c < 256) (hm : mo < 127) : ([c, (c + 1 + mo) % 256, (c + 128 + mo) % 256].take w).Nodup ∧ ∀ x ∈ [c, (c + 1 + mo) % 256, (c + 128 + mo) % 256].take w, x < 256 := by
  refine ⟨List.Nodup.sublist (List.take_sublist _ _) ?_, fun x hx => ?_⟩
  · simp only [List.nodup_cons, List.mem_cons, List.not_mem_nil, or_false, not_or, not_false_eq_true, List.nodup_nil, and_true]
    omega
  · have := (List.take_sublist _ _).subset hx
    simp only [List.mem_cons, List.not_mem_nil, or_false] at this
    omega
end Mine
end

section
open PySem PySem.W PyProof.Rows PySem.Calls
set_option Elab.async false
set_option linter.unusedVariables false
namespace Mine
set_option maxRecDepth 100000
set_option maxHeartbeats 4000000
theorem bits_ok {a b : Int} (h : a.natAbs < 2 ^ 63) : IntMulOk a b := by
  refine IntMulOk.of_left ?_
  unfold Builtin.Int.intBits
  split
  · decide
  · next hb =>
    have h0 : a.natAbs ≠ 0 := fun e => hb (by simp [Int.natAbs_eq_zero.mp e])
    have := (Nat.log2_lt h0).mpr h
    omega
theorem ns_low {script : List Int} : ∀ n ∈ nsF script, n < 1000000 := fun n hn => by
  obtain ⟨a, _, rfl⟩ := List.mem_map.mp hn
  have h1 : 0 ≤ a.fmod 1000000 := Int.fmod_nonneg_of_pos _ (by decide)
  have h2 : a.fmod 1000000 < 1000000 := Int.fmod_lt_of_pos _ (by decide)
  omega
theorem ns_length (script : List Int) : (nsF script).length ≤ 12 := by unfold nsF; rw [List.length_map, List.length_take]; omega
theorem getD_low {ns : List Nat} (h : ∀ n ∈ ns, n < 1000000) (p : Nat) : ns.getD p 0 < 1000000 := by
  rw [List.getD]
  cases e : ns[p]? with
  | none => decide
  | some x => exact h x (List.mem_of_getElem? e)
theorem item4 {a b c d kd : Nat} (h : kd ≤ 3) : ([D.int (a : Int), .int (b : Int), .int (c : Int), .int (d : Int)] : List D)[kd]? = some (.int (([a, b, c, d].getD kd 0 : Nat) : Int)) := by
  have : kd = 0 ∨ kd = 1 ∨ kd = 2 ∨ kd = 3 := by omega
  rcases this with rfl | rfl | rfl | rfl <;> rfl
theorem w_bounds {kd : Nat} (h : kd ≤ 3) : 2 ≤ wF kd ∧ wF kd ≤ 3 := by
  have : kd = 0 ∨ kd = 1 ∨ kd = 2 ∨ kd = 3 := by omega
  rcases this with rfl | rfl | rfl | rfl <;> decide
section
variable {X : Cx} {k : Nat} {H : List Addr} {L fa : Addr} {q : Str} {cd : Value}
theorem law_a (LK : LawK X) {script : List Int} (hsc : script.length ≤ 63) :
    Runs X (k + 12) H (fenv (scopeAt nLaw) L q fa cd) L [("script", intsD script)] [] (bodyAt nLaw) (Ret H (.bool true)) := by
  have O : EnvOk (fenv (scopeAt nLaw) L q fa cd) := ⟨rfl, rfl, rfl⟩
  have hlow := ns_low (script := script)
  have hlen := ns_length script
  refine r_assign (d := .list ((nsF script).map fun n : Nat => D.int (n : Int))) (Evs.i ?_) ?_
  · have e1 : (nsF script).map (fun n : Nat => D.int (n : Int)) = (script.take 12).map fun a => D.int (a.fmod 1000000) := by
      unfold nsF
      rw [List.map_map]
      refine List.map_congr_left fun a _ => ?_
      show D.int ((a.fmod 1000000).toNat : Int) = _
      rw [Int.toNat_of_nonneg (Int.fmod_nonneg_of_pos _ (by decide))]
    rw [e1]
    refine ev_cx (cx_map (l := script.take 12) (g := D.int) O (fun x y h => D.int.inj h) (its_list ?_) (fun C cs a O' x hx => ?_) (by rw [List.length_take, sizeLine_eq]; omega))
    · rw [List.map_take, ← cut_upto]
      exact ev_cutL (ev_name O rfl) .none (.some ev_int) (by rw [List.length_map, sizeLine_eq]; omega)
    · exact ev_bin (ev_name O' rfl) (b := .int 1000000) (ev_bin ev_int ev_int (bin_pow (by decide) (by decide) (by decide))) (bin_mod (by decide))
  have en : intsD ((nsF script).map fun n : Nat => (n : Int)) = .list ((nsF script).map fun n : Nat => D.int (n : Int)) := by rw [intsD, List.map_map]; rfl
  generalize nsF script = ns at hlow hlen en ⊢
  have cl : ∀ {H' : List Addr}, CallOk X (k + 12) H' (.builtin "len") [.list (ns.map fun n : Nat => D.int (n : Int))] (.int (ns.length : Nat)) := fun {H'} => by
    have := c_len_list (X := X) (k := k + 12) (H := H') (l := ns.map fun n : Nat => D.int (n : Int)) (by rw [List.length_map]; omega)
    rwa [List.length_map] at this
  refine r_assign (d := .int (ns.sum : Nat)) (Evs.i ?_) ?_
  · rw [← sum_nat]
    exact ev_bcall O (evs_cons (d := intsD (ns.map fun n : Nat => (n : Int))) (by rw [en]; exact ev_name O rfl) evs_nil) c_sum
  refine r_assign (d := .int (drF ns : Nat)) (Evs.i ?_) ?_
  · have e2 : ((drF ns : Nat) : Int) = 5 + (((List.range ns.length).map fun p => ns.getD p 0 * (p + 2)).map fun n : Nat => (n : Int)).sum := by rw [sum_nat]; unfold drF; omega
    rw [e2]
    refine ev_bin ev_int (ev_bcall O (evs_cons (d := intsD (((List.range ns.length).map fun p => ns.getD p 0 * (p + 2)).map fun n : Nat => (n : Int))) ?_ evs_nil) c_sum) bin_add
    have e3 : intsD (((List.range ns.length).map fun p => ns.getD p 0 * (p + 2)).map fun n : Nat => (n : Int)) = .list ((List.range ns.length).map fun p => D.int (((ns.getD p 0 : Nat) : Int) * ((p : Int) + 2))) := by
      rw [intsD, List.map_map, List.map_map]
      refine congrArg D.list (List.map_congr_left fun p _ => ?_)
      show D.int ((ns.getD p 0 * (p + 2) : Nat) : Int) = _
      rw [Int.natCast_mul, Int.natCast_add]; rfl
    rw [e3]
    refine ev_cx (cx_map (l := List.range ns.length) (g := fun i : Nat => D.int (i : Int)) O int_inj (its_range O (ev_bcall O (evs_cons (ev_name O rfl) evs_nil) cl) rfl (by omega)) (fun C cs a O' p hp => ?_) (by rw [List.length_range, sizeLine_eq]; omega))
    have hp' := List.mem_range.mp hp
    have hg := getD_low hlow p
    exact ev_bin (ev_item (j := p) (l := ns.map fun n : Nat => D.int (n : Int)) (ev_name O' rfl) (ev_name O' rfl) (by rw [List.length_map]; exact seq_nat hp') (by simp [List.getD, hp']) (by rw [List.length_map]; omega)) (ev_bin (ev_name O' rfl) ev_int bin_add) (bin_mul (bits_ok (by omega)))
  have hkd : kdF ns ≤ 3 := by unfold kdF; split <;> omega
  refine r_assign (d := .int (kdF ns : Nat)) (Evs.i (ev_if (ts_cmp (ev_bcall O (evs_cons (ev_name O rfl) evs_nil) cl) ev_int cmp_gt_int) (fun h => ?_) (fun h => ?_))) ?_
  · have h1 : 1 < ns.length := by have := of_decide_eq_true h; omega
    rw [kdF, if_pos h1, ← fmod_nat]
    exact ev_bin (ev_name O rfl) ev_int (bin_mod (by decide))
  · have h1 : ¬ 1 < ns.length := by have := of_decide_eq_false h; omega
    rw [kdF, if_neg h1]
    exact ev_int
  have hw := w_bounds hkd
  refine r_assign (d := .int (wF (kdF ns) : Nat)) (Evs.i (ev_item (j := kdF ns) (ev_list (ds := [.int (2 : Nat), .int (3 : Nat), .int (2 : Nat), .int (2 : Nat)]) (evs_cons ev_int (evs_cons ev_int (evs_cons ev_int (evs_cons ev_int evs_nil))))) (ev_name O rfl) (seq_nat (by show kdF ns < 4; omega)) (item4 hkd) (by decide))) ?_
  refine r_assign (d := .int (mF (kdF ns) : Nat)) (Evs.i (ev_item (j := kdF ns) (ev_list (ds := [.int (2 : Nat), .int (2 : Nat), .int (3 : Nat), .int (1 : Nat)]) (evs_cons ev_int (evs_cons ev_int (evs_cons ev_int (evs_cons ev_int evs_nil))))) (ev_name O rfl) (seq_nat (by show kdF ns < 4; omega)) (item4 hkd) (by decide))) ?_
  refine r_assign (d := .int (szF ns : Nat)) (Evs.i ?_) ?_
  · have e4 : ((szF ns : Nat) : Int) = 2 + min 3 ((ns.length : Int).fdiv 2) := by
      have := fdiv_nat ns.length 2
      rw [show ((ns.length : Int).fdiv 2) = ((ns.length / 2 : Nat) : Int) from this]; unfold szF; omega
    rw [e4]
    exact ev_bin ev_int (ev_bcall O (evs_cons ev_int (evs_cons (ev_bin (ev_bcall O (evs_cons (ev_name O rfl) evs_nil) cl) ev_int (bin_fdiv (by decide) (short_div (by decide)))) evs_nil)) c_min2) bin_add
  have hk := kinds_of ns
  obtain ⟨b1, b2, b3, b4, b5, b6, b7, b8, b9⟩ := kinds_small _ hk
  simp only at b1 b2 b3 b4 b5 b6 b7 b8 b9
  have htl : tempt.length = 12 := rfl
  have hti : ns.sum % 12 < tempt.length := by rw [htl]; exact Nat.mod_lt _ (by decide)
  have hg := getD_get hti
  have hc256 := tempt_low _ (List.mem_of_getElem? hg)
  generalize hc : tempt.getD (ns.sum % 12) 0 = c at hg hc256
  refine r_assign (d := .str [c]) (Evs.i (ev_char (l := tempt) (j := ns.sum % 12) ev_str (ev_bin (ev_name O rfl) ev_int (bin_mod (by decide))) ?_ hg (by decide))) ?_
  · rw [show ((12 : Int)) = ((12 : Nat) : Int) from rfl]
    exact (congrArg (seqIndex? · tempt.length) (fmod_nat ns.sum 12)).trans (seq_nat hti)
  refine r_assign (d := .int ((ns.sum / 12 % 127 : Nat) : Int)) (Evs.i ?_) ?_
  · rw [← fmod_nat, ← fdiv_nat]
    exact ev_bin (ev_bin (ev_name O rfl) ev_int (bin_fdiv (by decide) (short_div (by decide)))) ev_int (bin_mod (by decide))
  have hmo : ns.sum / 12 % 127 < 127 := Nat.mod_lt _ (by decide)
  generalize ns.sum / 12 % 127 = mo at hmo ⊢
  generalize hwd : wF (kdF ns) = w at *
  generalize hmd : mF (kdF ns) = most at *
  generalize hsd : szF ns = size at *
  obtain ⟨l1, l2⟩ := letter3 c mo w hc256 hmo
  have l3 : ([c, (c + 1 + mo) % 256, (c + 128 + mo) % 256].take w).length = w := by rw [List.length_take]; show min w 3 = w; omega
  obtain ⟨f, hf, hf256, hso⟩ := letters_of l1 l2
  rw [l3] at hf256 hso
  have c3 : ∀ {H' : List Addr} {x : Nat} {e : PySem.Expr} {ρ : Ro}, Evs X (k + 12) H' (fenv (scopeAt nLaw) L q fa cd) ρ e (.int ((x : Nat) : Int)) → True := fun _ => trivial
  refine r_assign (d := .list ((List.range w).map fun d => D.str [f d])) (Evs.i ?_) ?_
  · have e5 : D.list ((List.range w).map fun d => D.str [f d]) = texts ((List.range w).map fun d => [f d]) := by rw [texts, List.map_map]; rfl
    rw [e5]
    refine ev_bcall O (evs_cons (d := texts (([c, (c + 1 + mo) % 256, (c + 128 + mo) % 256].take w).map fun c => [c])) ?_ evs_nil) (c_sorted (by rw [List.length_map, l3]; omega) hso)
    have e6 : texts (([c, (c + 1 + mo) % 256, (c + 128 + mo) % 256].take w).map fun c => [c]) = .list (cut [D.str [c], .str [(c + 1 + mo) % 256], .str [(c + 128 + mo) % 256]] none (some (w : Int))) := by
      rw [cut_upto, texts, List.map_map, List.map_take]; rfl
    rw [e6]
    have g1 : (((c : Int) + 1 + (mo : Int)).fmod 256) = (((c + 1 + mo) % 256 : Nat) : Int) := by
      have := fmod_nat (c + 1 + mo) 256
      rw [← this]; rfl
    have g2 : (((c : Int) + 128 + (mo : Int)).fmod 256) = (((c + 128 + mo) % 256 : Nat) : Int) := by
      have := fmod_nat (c + 128 + mo) 256
      rw [← this]; rfl
    refine ev_cutL (ev_list (evs_cons (ev_name O rfl) (evs_cons (ev_bcall O (evs_cons (d := .int (((c + 1 + mo) % 256 : Nat) : Int)) ?_ evs_nil) (c_chr (by have := Nat.mod_lt (c + 1 + mo) (show 256 > 0 by decide); omega))) (evs_cons (ev_bcall O (evs_cons (d := .int (((c + 128 + mo) % 256 : Nat) : Int)) ?_ evs_nil) (c_chr (by have := Nat.mod_lt (c + 128 + mo) (show 256 > 0 by decide); omega))) evs_nil))) (by show 3 ≤ sizeLine; decide)) .none (.some (ev_name O rfl)) (by show 3 ≤ sizeLine; decide)
    · rw [← g1]
      exact ev_bin (ev_bin (ev_bin (ev_bcall O (evs_cons (ev_name O rfl) evs_nil) c_ord) ev_int bin_add) (ev_name O rfl) bin_add) ev_int (bin_mod (by decide))
    · rw [← g2]
      exact ev_bin (ev_bin (ev_bin (ev_bcall O (evs_cons (ev_name O rfl) evs_nil) c_ord) ev_int bin_add) (ev_name O rfl) bin_add) ev_int (bin_mod (by decide))
  have hpw : ∀ p, p < size → w ^ p ≤ 243 ∧ 0 < w ^ p := fun p hp => ⟨Nat.le_trans (Nat.pow_le_pow_left b5 p) (Nat.le_trans (Nat.pow_le_pow_right (n := 3) (by decide) (show p ≤ 5 by omega)) (by decide)), Nat.pow_pos (by omega)⟩
  have hdl : ((List.range size).map fun p => drF ns / 3 / w ^ p % w).length = size := by simp
  have hds : ∀ d ∈ (List.range size).map (fun p => drF ns / 3 / w ^ p % w), d < w := fun d hd => by
    obtain ⟨p, _, rfl⟩ := List.mem_map.mp hd
    exact Nat.mod_lt _ (by omega)
  refine r_assign (d := .str (((List.range size).map fun p => drF ns / 3 / w ^ p % w).map f)) (Evs.i ?_) ?_
  · have hj := c_join (X := X) (k := k + 12) (H := H) (x := []) (l := (((List.range size).map fun p => drF ns / 3 / w ^ p % w).map f).map fun c => [c]) (by
      have hs : ∀ m : List Nat, ((m.map fun c => [c]).map List.length).sum = m.length := fun m => by
        induction m with
        | nil => rfl
        | cons c r ih => simp only [List.map_cons, List.sum_cons, ih, List.length_cons, List.length_nil]; omega
      rw [hs]; simp; omega) (by simp)
    rw [glue_chars] at hj
    refine ev_meth (a := .str (T "")) (ds := [texts ((((List.range size).map fun p => drF ns / 3 / w ^ p % w).map f).map fun c => [c])]) m_join ev_str rfl (evs_cons ?_ evs_nil) hj
    have e7 : texts ((((List.range size).map fun p => drF ns / 3 / w ^ p % w).map f).map fun c => [c]) = .list ((List.range size).map fun p => D.str [f (drF ns / 3 / w ^ p % w)]) := by rw [texts, List.map_map, List.map_map, List.map_map]; rfl
    rw [e7]
    refine ev_cx (cx_map (l := List.range size) (g := fun i : Nat => D.int (i : Int)) O int_inj (its_range O (ev_name O rfl) rfl (by omega)) (fun C cs a O' p hp => ?_) (by rw [List.length_range, sizeLine_eq]; omega))
    obtain ⟨p1, p2⟩ := hpw p (List.mem_range.mp hp)
    have hx : drF ns / 3 / w ^ p % w < w := Nat.mod_lt _ (by omega)
    have ep : (w : Int) ^ (p : Int).toNat = ((w ^ p : Nat) : Int) := by rw [Int.toNat_natCast, Int.natCast_pow]
    refine ev_item (j := drF ns / 3 / w ^ p % w) (ev_name O' rfl) (ev_bin (ev_bin (ev_bin (ev_name O' rfl) ev_int (bin_fdiv (by decide) (short_div (by decide)))) (ev_bin (ev_name O' rfl) (ev_name O' rfl) (bin_pow (by omega) (by have := List.mem_range.mp hp; omega) (by omega))) (bin_fdiv (by rw [ep]; omega) (short_div (by rw [ep]; omega)))) (ev_name O' rfl) (bin_mod (by omega))) ?_ (by simp [hx]) (by simp; omega)
    rw [List.length_map, List.length_range]
    have e8 : ((((drF ns : Nat) : Int).fdiv 3).fdiv ((w : Int) ^ (p : Int).toNat)).fmod (w : Int) = ((drF ns / 3 / w ^ p % w : Nat) : Int) := by
      rw [ep, show (3 : Int) = ((3 : Nat) : Int) from rfl, fdiv_nat, fdiv_nat, fmod_nat]
    exact (congrArg (seqIndex? · w) e8).trans (seq_nat hx)
  have hb := law_b (X := X) (k := k) (H := H) (L := L) (fa := fa) (q := q) (cd := cd) (f := f) (w := w) (most := most) (ds := (List.range size).map fun p => drF ns / 3 / w ^ p % w) LK hf (by rw [hdl]; exact hk) hds hf256
  rw [hdl] at hb
  exact r_sub hb (sub_cons rfl (sub_cons rfl (sub_cons rfl (sub_cons rfl sub_nil)))) mu_nil
end
end Mine
end

section
open PySem PySem.W PyProof.Rows PySem.Calls
set_option Elab.async false
set_option linter.unusedVariables false
namespace Mine
set_option maxRecDepth 100000
set_option maxHeartbeats 4000000
/-! all that stands, but the tables -/
noncomputable def restN (h : Heap) (tb : List Addr) : Nat → Frag
  | 0 => []
  | n + 1 => match (if n ∈ tb then none else h.get? n) with
    | some o => (n, o) :: restN h tb n
    | none => restN h tb n
theorem rest_some {h : Heap} {tb : List Addr} {a : Addr} {o : Obj} : ∀ {n : Nat}, (restN h tb n).lookup a = some o → a < n ∧ a ∉ tb ∧ h.get? a = some o
  | 0, e => by cases e
  | n + 1, e => by
    unfold restN at e
    split at e
    · next o' ho =>
      rw [List.lookup_cons] at e
      split at e
      · next hb =>
        have : a = n := beq_iff_eq.mp hb
        subst this
        cases e
        split at ho
        · cases ho
        · next hn => exact ⟨Nat.lt_succ_self _, hn, ho⟩
      · obtain ⟨h1, h2⟩ := rest_some e
        exact ⟨Nat.lt_succ_of_lt h1, h2⟩
    · obtain ⟨h1, h2⟩ := rest_some e
      exact ⟨Nat.lt_succ_of_lt h1, h2⟩
theorem rest_of {h : Heap} {tb : List Addr} {a : Addr} {o : Obj} : ∀ {n : Nat}, a < n → a ∉ tb → h.get? a = some o → (restN h tb n).lookup a = some o
  | 0, hn, _, _ => absurd hn (Nat.not_lt_zero _)
  | n + 1, hn, ht, e => by
    unfold restN
    by_cases ha : a = n
    · subst ha
      rw [if_neg ht, e]
      simp
    · have hb : (a == n) = false := beq_eq_false_iff_ne.mpr ha
      split
      · rw [List.lookup_cons, hb]
        exact rest_of (Nat.lt_of_le_of_ne (Nat.le_of_lt_succ hn) ha) ht e
      · exact rest_of (Nat.lt_of_le_of_ne (Nat.le_of_lt_succ hn) ha) ht e
theorem top_live {h : Heap} : ∀ (m : Nat), (∃ a, a < m ∧ ∃ o, h.get? a = some o) → ∃ n, (∃ o, h.get? (n - 1) = some o) ∧ ∀ b o, b < m → h.get? b = some o → b < n
  | 0, ⟨_, hn, _⟩ => absurd hn (Nat.not_lt_zero _)
  | m + 1, ⟨a, ha, o, e⟩ => by
    cases q : h.get? m with
    | some o' => exact ⟨m + 1, ⟨o', q⟩, fun b _ hb _ => hb⟩
    | none =>
      have hne : a ≠ m := fun x => by rw [x, q] at e; cases e
      obtain ⟨n, h1, h2⟩ := top_live m ⟨a, Nat.lt_of_le_of_ne (Nat.le_of_lt_succ ha) hne, o, e⟩
      refine ⟨n, h1, fun b o'' hb e' => h2 b o'' ?_ e'⟩
      have hb2 : b ≠ m := fun x => by rw [x, q] at e'; cases e'
      exact Nat.lt_of_le_of_ne (Nat.le_of_lt_succ hb) hb2
noncomputable def objAt (K : Frag) (a : Addr) : Obj := (K.lookup a).getD { cls := .none, data := .plain }
noncomputable def fdAt (K : Frag) (a : Addr) : FuncData := match (objAt K a).data with | .func fd => fd | _ => default
noncomputable def esAt (K : Frag) (a : Addr) : Array DictEntry := match (objAt K a).data with | .dict es _ => es | _ => #[]
noncomputable def epAt (K : Frag) (a : Addr) : Nat := match (objAt K a).data with | .dict _ n => n | _ => 0
noncomputable abbrev theK (P : Params) (h : Heap) (n : Nat) : Frag := heapK P ++ restN h [113, 92] n
noncomputable def tabsX : List Tab := [⟨113, 117, readPos.line, readPos.col, ("_law_tape" : Str) ++ ".<locals>." ++ "read"⟩, ⟨92, 96, lamPos.line, lamPos.col, ("_translate" : Str) ++ ".<locals>." ++ "<lambda>"⟩]
noncomputable def theX (w : World) (mg mb : Str → Option Value) (h : Heap) (n : Nat) : Cx := ⟨PySem.Challenge.rw_rx0125_02.row.prog, w, theK w.params h n, n, mg, mb, tabsX⟩
theorem mg_of {h : Heap} {mg : Str → Option Value} {K : Frag} (KI : K.In h) (g : h.Ns mainGlobals mg) (h1 : K.lookup mainGlobals = some (objAt K mainGlobals)) (h2 : (objAt K mainGlobals).data = .dict (esAt K mainGlobals) (epAt K mainGlobals)) (x : Str) : mg x = nsFind (esAt K mainGlobals) x := by
  obtain ⟨o, es, ep, e, hd, _, hf⟩ := g
  have := KI _ _ h1
  rw [e] at this; cases this
  rw [hd] at h2; cases h2
  exact (hf x).symm
theorem fn_of {X : Cx} {a : Addr} {ps : List Str} {sc : Scope} {body : List Stmt} (h1 : X.K.lookup a = some (objAt X.K a)) (h2 : (objAt X.K a).data = .func (fdAt X.K a)) (h3 : codeIn X.K (fdAt X.K a).code (fdAt X.K a).qualname = true)
    (h4 : ∀ vs : List Value, vs.length = ps.length → bindArgs (fdAt X.K a) ⟨vs, []⟩ = pure (ps.zip vs)) (h5 : (fdAt X.K a).body = .stmts body) (h6 : (fdAt X.K a).scope = sc) (h7 : (fdAt X.K a).globals = mainGlobals) (h8 : (fdAt X.K a).builtins = builtinsNs) (h9 : (fdAt X.K a).closure = []) :
    FnK X a (fdAt X.K a) ps sc body := ⟨⟨_, h1, h2⟩, fun h K => codeRec_of K h3, h4, h5, h6, h7, h8, h9⟩
section
variable {w : World} {mg mb : Str → Option Value} {h : Heap} {n : Nat}
theorem def_uint (hm : mg "read_uint1" = some (.ref 38)) : DefAt (theX w mg mb h n) "read_uint1" 38 (fdAt (theX w mg mb h n).K 38) ["f"] (scopeAt nUint1) (bodyAt nUint1) :=
  ⟨fn_of (by kernel_rfl) (by kernel_rfl) (by kernel_rfl) (fun vs hv => by
    match vs, hv with
    | [v], _ => kernel_rfl) (by kernel_rfl) (by kernel_rfl) (by kernel_rfl) (by kernel_rfl) (by kernel_rfl), hm⟩
theorem def_string (hm : mg "read_string1" = some (.ref 45)) : DefAt (theX w mg mb h n) "read_string1" 45 (fdAt (theX w mg mb h n).K 45) ["f"] (scopeAt nString1) (bodyAt nString1) :=
  ⟨fn_of (by kernel_rfl) (by kernel_rfl) (by kernel_rfl) (fun vs hv => by
    match vs, hv with
    | [v], _ => kernel_rfl) (by kernel_rfl) (by kernel_rfl) (by kernel_rfl) (by kernel_rfl) (by kernel_rfl), hm⟩
theorem def_trans (hm : mg "translate" = some (.ref 78)) : DefAt (theX w mg mb h n) "translate" 78 (fdAt (theX w mg mb h n).K 78) ["pat"] (scopeAt nTransTop) (bodyAt nTransTop) :=
  ⟨fn_of (by kernel_rfl) (by kernel_rfl) (by kernel_rfl) (fun vs hv => by
    match vs, hv with
    | [v], _ => kernel_rfl) (by kernel_rfl) (by kernel_rfl) (by kernel_rfl) (by kernel_rfl) (by kernel_rfl), hm⟩
theorem def_esc (hm : mg "escape" = some (.ref 90)) : DefAt (theX w mg mb h n) "escape" 90 (fdAt (theX w mg mb h n).K 90) ["pattern"] (scopeAt nEscape) (bodyAt nEscape) :=
  ⟨fn_of (by kernel_rfl) (by kernel_rfl) (by kernel_rfl) (fun vs hv => by
    match vs, hv with
    | [v], _ => kernel_rfl) (by kernel_rfl) (by kernel_rfl) (by kernel_rfl) (by kernel_rfl) (by kernel_rfl), hm⟩
theorem def_transB (hm : mg "_translate" = some (.ref 97)) : DefAt (theX w mg mb h n) "_translate" 97 (fdAt (theX w mg mb h n).K 97) ["pat", "STAR", "QUESTION_MARK"] (scopeAt nTranslateB) (bodyAt nTranslateB) :=
  ⟨fn_of (by kernel_rfl) (by kernel_rfl) (by kernel_rfl) (fun vs hv => by
    match vs, hv with
    | [v, u, t], _ => kernel_rfl) (by kernel_rfl) (by kernel_rfl) (by kernel_rfl) (by kernel_rfl) (by kernel_rfl), hm⟩
theorem def_join (hm : mg "_join_translated_parts" = some (.ref 104)) : DefAt (theX w mg mb h n) "_join_translated_parts" 104 (fdAt (theX w mg mb h n).K 104) ["inp", "STAR"] (scopeAt nJoin) (bodyAt nJoin) :=
  ⟨fn_of (by kernel_rfl) (by kernel_rfl) (by kernel_rfl) (fun vs hv => by
    match vs, hv with
    | [v, u], _ => kernel_rfl) (by kernel_rfl) (by kernel_rfl) (by kernel_rfl) (by kernel_rfl) (by kernel_rfl), hm⟩
theorem def_diff (hm : mg "sorted_list_difference" = some (.ref 111)) : DefAt (theX w mg mb h n) "sorted_list_difference" 111 (fdAt (theX w mg mb h n).K 111) ["expected", "actual"] (scopeAt nDiff) (bodyAt nDiff) :=
  ⟨fn_of (by kernel_rfl) (by kernel_rfl) (by kernel_rfl) (fun vs hv => by
    match vs, hv with
    | [v, u], _ => kernel_rfl) (by kernel_rfl) (by kernel_rfl) (by kernel_rfl) (by kernel_rfl) (by kernel_rfl), hm⟩
theorem def_tape (hm : mg "_law_tape" = some (.ref 118)) : DefAt (theX w mg mb h n) "_law_tape" 118 (fdAt (theX w mg mb h n).K 118) ["octets"] (scopeAt nTape) (bodyAt nTape) :=
  ⟨fn_of (by kernel_rfl) (by kernel_rfl) (by kernel_rfl) (fun vs hv => by
    match vs, hv with
    | [v], _ => kernel_rfl) (by kernel_rfl) (by kernel_rfl) (by kernel_rfl) (by kernel_rfl) (by kernel_rfl), hm⟩
theorem def_octets (hm : mg "_law_octets" = some (.ref 125)) : DefAt (theX w mg mb h n) "_law_octets" 125 (fdAt (theX w mg mb h n).K 125) ["tape"] (scopeAt nOctets) (bodyAt nOctets) :=
  ⟨fn_of (by kernel_rfl) (by kernel_rfl) (by kernel_rfl) (fun vs hv => by
    match vs, hv with
    | [v], _ => kernel_rfl) (by kernel_rfl) (by kernel_rfl) (by kernel_rfl) (by kernel_rfl) (by kernel_rfl), hm⟩
theorem def_pattern (hm : mg "_law_pattern" = some (.ref 130)) : DefAt (theX w mg mb h n) "_law_pattern" 130 (fdAt (theX w mg mb h n).K 130) ["text"] (scopeAt nPattern) (bodyAt nPattern) :=
  ⟨fn_of (by kernel_rfl) (by kernel_rfl) (by kernel_rfl) (fun vs hv => by
    match vs, hv with
    | [v], _ => kernel_rfl) (by kernel_rfl) (by kernel_rfl) (by kernel_rfl) (by kernel_rfl) (by kernel_rfl), hm⟩
theorem def_sign (hm : mg "_law_sign" = some (.ref 137)) : DefAt (theX w mg mb h n) "_law_sign" 137 (fdAt (theX w mg mb h n).K 137) ["run"] (scopeAt nSign) (bodyAt nSign) :=
  ⟨fn_of (by kernel_rfl) (by kernel_rfl) (by kernel_rfl) (fun vs hv => by
    match vs, hv with
    | [v], _ => kernel_rfl) (by kernel_rfl) (by kernel_rfl) (by kernel_rfl) (by kernel_rfl) (by kernel_rfl), hm⟩
theorem def_signs (hm : mg "_law_signs" = some (.ref 142)) : DefAt (theX w mg mb h n) "_law_signs" 142 (fdAt (theX w mg mb h n).K 142) ["text"] (scopeAt nSigns) (bodyAt nSigns) :=
  ⟨fn_of (by kernel_rfl) (by kernel_rfl) (by kernel_rfl) (fun vs hv => by
    match vs, hv with
    | [v], _ => kernel_rfl) (by kernel_rfl) (by kernel_rfl) (by kernel_rfl) (by kernel_rfl) (by kernel_rfl), hm⟩
theorem def_takes (hm : mg "_law_takes" = some (.ref 149)) : DefAt (theX w mg mb h n) "_law_takes" 149 (fdAt (theX w mg mb h n).K 149) ["signs", "name"] (scopeAt nTakes) (bodyAt nTakes) :=
  ⟨fn_of (by kernel_rfl) (by kernel_rfl) (by kernel_rfl) (fun vs hv => by
    match vs, hv with
    | [v, u], _ => kernel_rfl) (by kernel_rfl) (by kernel_rfl) (by kernel_rfl) (by kernel_rfl) (by kernel_rfl), hm⟩
theorem def_within (hm : mg "_law_within" = some (.ref 154)) : DefAt (theX w mg mb h n) "_law_within" 154 (fdAt (theX w mg mb h n).K 154) ["name"] (scopeAt nWithin) (bodyAt nWithin) :=
  ⟨fn_of (by kernel_rfl) (by kernel_rfl) (by kernel_rfl) (fun vs hv => by
    match vs, hv with
    | [v], _ => kernel_rfl) (by kernel_rfl) (by kernel_rfl) (by kernel_rfl) (by kernel_rfl) (by kernel_rfl), hm⟩
theorem def_depths (hm : mg "_law_depths" = some (.ref 159)) : DefAt (theX w mg mb h n) "_law_depths" 159 (fdAt (theX w mg mb h n).K 159) ["signs"] (scopeAt nDepths) (bodyAt nDepths) :=
  ⟨fn_of (by kernel_rfl) (by kernel_rfl) (by kernel_rfl) (fun vs hv => by
    match vs, hv with
    | [v], _ => kernel_rfl) (by kernel_rfl) (by kernel_rfl) (by kernel_rfl) (by kernel_rfl) (by kernel_rfl), hm⟩
theorem def_law (hm : mg "law" = some (.ref 164)) : DefAt (theX w mg mb h n) "law" 164 (fdAt (theX w mg mb h n).K 164) ["script"] (scopeAt nLaw) (bodyAt nLaw) :=
  ⟨fn_of (by kernel_rfl) (by kernel_rfl) (by kernel_rfl) (fun vs hv => by
    match vs, hv with
    | [v], _ => kernel_rfl) (by kernel_rfl) (by kernel_rfl) (by kernel_rfl) (by kernel_rfl) (by kernel_rfl), hm⟩
theorem fn_init : FnK (theX w mg mb h n) 59 (fdAt (theX w mg mb h n).K 59) ["self", "value"] initScope initBody :=
  fn_of (by kernel_rfl) (by kernel_rfl) (by kernel_rfl) (fun vs hv => by
    match vs, hv with
    | [v, u], _ => kernel_rfl) (by kernel_rfl) (by kernel_rfl) (by kernel_rfl) (by kernel_rfl) (by kernel_rfl)
noncomputable def globs : List (Str × Addr) := [("read_uint1", 38), ("read_string1", 45), ("translate", 78), ("escape", 90), ("_translate", 97), ("_join_translated_parts", 104), ("sorted_list_difference", 111), ("_law_tape", 118), ("_law_octets", 125), ("_law_pattern", 130), ("_law_sign", 137), ("_law_signs", 142), ("_law_takes", 149), ("_law_within", 154), ("_law_depths", 159), ("law", 164), ("_Example", 62), ("_twin_re_1", 71), ("_special_chars_map", 80), ("__builtins__", 4)]
end
end Mine
end

section
open PySem PySem.W PyProof.Rows PySem.Calls
set_option Elab.async false
set_option linter.unusedVariables false
namespace Mine
set_option maxRecDepth 100000
set_option maxHeartbeats 4000000
section
variable {w : World} {mg mb : Str → Option Value} {h : Heap} {n : Nat}
noncomputable def intKeysB (es : Array DictEntry) : Bool := es.toList.all fun e => match e.key with | .int k _ => decide (e.hash = hashInt k) | _ => false
theorem intKeys_of {es : Array DictEntry} (e : intKeysB es = true) : PySem.IntKeys es := fun x hx => by
  have := List.all_eq_true.mp e x (Array.mem_toList_iff.mpr hx)
  split at this
  · next k t hk => exact ⟨k, t, hk, of_decide_eq_true this⟩
  · cases this
noncomputable def specHits (es : Array DictEntry) : Bool := specials.all fun c => match findBy Value.isInt es (c : Int) with | some (.str x _) => x == S [92, c] | _ => false
noncomputable def specKeys (es : Array DictEntry) : Bool := es.toList.all fun e => match e.key with | .int k _ => specials.any fun c => decide ((c : Int) = k) | _ => false
theorem spec_hit {es : Array DictEntry} (e : specHits es = true) {c : Nat} (hc : c ∈ specials) : ∃ t, findBy Value.isInt es (c : Int) = some (.str (S [92, c]) t) := by
  have := List.all_eq_true.mp e c hc
  split at this
  · next x t hf => exact ⟨t, by rw [hf, beq_iff_eq.mp this]⟩
  · cases this
theorem spec_miss {es : Array DictEntry} (e : specKeys es = true) {c : Nat} (hc : c ∉ specials) : findBy Value.isInt es (c : Int) = none := by
  unfold findBy
  rw [Option.map_eq_none_iff, Array.find?_eq_none]
  intro x hx hi
  have := List.all_eq_true.mp e x (Array.mem_toList_iff.mpr hx)
  split at this
  · next k t hk =>
    rw [hk] at hi
    have hk2 : k = (c : Int) := by simpa [Value.isInt] using hi
    obtain ⟨d, hd, he⟩ := List.any_eq_true.mp this
    have he' := of_decide_eq_true he
    have : d = c := by omega
    exact hc (this ▸ hd)
  · cases this
theorem specMap (hm : mg "_special_chars_map" = some (.ref 80)) : SpecMap (theX w mg mb h n) 80 := by
  refine ⟨⟨findBy Value.isInt (esAt (theX w mg mb h n).K 80), fun h' KI => ?_, fun c hc => spec_hit (by kernel_rfl) hc, fun c hc => spec_miss (by kernel_rfl) hc⟩, by decide, hm⟩
  have h1 := KI 80 _ (show (theX w mg mb h n).K.lookup 80 = some (objAt (theX w mg mb h n).K 80) by kernel_rfl)
  refine Heap.IntMap.mapOf ⟨_, esAt (theX w mg mb h n).K 80, epAt (theX w mg mb h n).K 80, h1, by kernel_rfl, by kernel_rfl, intKeys_of (by kernel_rfl), fun k => rfl⟩ fun o ho => ?_
  rw [h1] at ho; cases ho
  exact ⟨by kernel_rfl, by kernel_rfl⟩
theorem patK (hm : mg "_twin_re_1" = some (.ref 71)) : PatK (theX w mg mb h n) 71 := ⟨⟨70, 333, 368, 0, 0, by kernel_rfl, by kernel_rfl⟩, hm⟩
theorem clsAt (hm : mg "_Example" = some (.ref 62)) : ClsAt (theX w mg mb h n) 62 59 :=
  ⟨by kernel_rfl, by kernel_rfl, by kernel_rfl, by kernel_rfl, by kernel_rfl, by kernel_rfl, by kernel_rfl, by kernel_rfl, by kernel_rfl, by kernel_rfl, by kernel_rfl, hm, by kernel_rfl⟩
theorem apart : TabsApart (theX w mg mb h n) := fun T hT T' hT' e => by
  have h1 : T = tabsX[0] ∨ T = tabsX[1] := by simpa [theX, tabsX] using hT
  have h2 : T' = tabsX[0] ∨ T' = tabsX[1] := by simpa [theX, tabsX] using hT'
  rcases h1 with rfl | rfl <;> rcases h2 with rfl | rfl <;> first | rfl | exact absurd e (by decide)
theorem lookup_rest {a : Addr} {P : Params} (e : (heapK P).lookup a = none) : (theK P h n).lookup a = (restN h [113, 92] n).lookup a := by
  unfold theK
  rw [List.lookup_append, e]; rfl
theorem builtK (hm : mg "__builtins__" = some (.ref 4)) {ob : Obj} (ho : h.get? 4 = some ob) (hn : 4 < n) (h1 : ob.cls = .type "module") (h2 : ob.dict = some builtinsNs) (h3 : ob.data = .plain) : BuiltK (theX w mg mb h n) :=
  ⟨4, ob, hm, by decide, by decide, (lookup_rest (by kernel_rfl)).trans (rest_of hn (by decide) ho), h1, h2, h3⟩
theorem lawK (hm : ∀ p ∈ globs, mg p.1 = some (.ref p.2)) {ob : Obj} (ho : h.get? 4 = some ob) (hn : 4 < n) (h1 : ob.cls = .type "module") (h2 : ob.dict = some builtinsNs) (h3 : ob.data = .plain) : LawK (theX w mg mb h n) := by
  have B := builtK (w := w) (mg := mg) (mb := mb) (hm ("__builtins__", 4) (by simp [globs])) ho hn h1 h2 h3
  refine ⟨⟨62, 59, 118, _, clsAt (hm ("_Example", 62) (by simp [globs])), ⟨_, fn_init⟩, def_tape (hm ("_law_tape", 118) (by simp [globs])), ⟨⟨113, 117, readPos.line, readPos.col, ("_law_tape" : Str) ++ ".<locals>." ++ "read"⟩, List.mem_cons_self .., by kernel_rfl, rfl, rfl, by kernel_rfl⟩, apart, B⟩,
    ⟨_, _, def_uint (hm ("read_uint1", 38) (by simp [globs]))⟩, ⟨_, _, def_string (hm ("read_string1", 45) (by simp [globs]))⟩, ⟨_, _, def_octets (hm ("_law_octets", 125) (by simp [globs]))⟩,
    ⟨78, 97, 104, 90, 71, 80, _, _, _, _, def_trans (hm ("translate", 78) (by simp [globs])), def_transB (hm ("_translate", 97) (by simp [globs])), def_join (hm ("_join_translated_parts", 104) (by simp [globs])), def_esc (hm ("escape", 90) (by simp [globs])), patK (hm ("_twin_re_1", 71) (by simp [globs])), specMap (hm ("_special_chars_map", 80) (by simp [globs])),
      ⟨⟨92, 96, lamPos.line, lamPos.col, ("_translate" : Str) ++ ".<locals>." ++ "<lambda>"⟩, List.mem_cons_of_mem _ (List.mem_cons_self ..), by kernel_rfl, rfl, rfl, by kernel_rfl⟩, apart, B⟩,
    ⟨_, _, def_diff (hm ("sorted_list_difference", 111) (by simp [globs]))⟩, ⟨_, _, def_pattern (hm ("_law_pattern", 130) (by simp [globs]))⟩, ⟨_, _, def_sign (hm ("_law_sign", 137) (by simp [globs]))⟩, ⟨_, _, def_signs (hm ("_law_signs", 142) (by simp [globs]))⟩,
    ⟨_, _, def_takes (hm ("_law_takes", 149) (by simp [globs]))⟩, ⟨_, _, def_within (hm ("_law_within", 154) (by simp [globs]))⟩, ⟨_, _, def_depths (hm ("_law_depths", 159) (by simp [globs]))⟩⟩
end
end Mine
end

section
open PySem PySem.W PyProof.Rows PySem.Calls
set_option Elab.async false
set_option linter.unusedVariables false
namespace Mine
set_option maxRecDepth 100000
set_option maxHeartbeats 4000000
section
variable {w : World} {mg mb : Str → Option Value} {h : Heap} {n : Nat}
theorem theK_in (KI : (heapK w.params).In h) : (theK w.params h n).In h := fun a o e => by
  unfold theK at e
  rw [List.lookup_append] at e
  cases q : (heapK w.params).lookup a with
  | some o' => rw [q] at e; cases e; exact KI _ _ q
  | none => rw [q] at e; exact (rest_some e).2.2
theorem mg_at (KI : (heapK w.params).In h) (g : h.Ns mainGlobals mg) (x : Str) : mg x = nsFind (esAt (heapK w.params) mainGlobals) x := mg_of KI g (by kernel_rfl) (by kernel_rfl) x
noncomputable def freesB (es : Array DictEntry) : Bool := frees.all fun x => (nsFind es x).isNone
noncomputable def globsB (es : Array DictEntry) : Bool := globs.all fun p => match nsFind es p.1 with | some (.ref a) => a == p.2 | _ => false
theorem mg_free (KI : (heapK w.params).In h) (g : h.Ns mainGlobals mg) : ∀ x ∈ frees, mg x = none := fun x hx => by
  have h1 : freesB (esAt (heapK w.params) mainGlobals) = true := by kernel_rfl
  rw [mg_at KI g]
  exact Option.isNone_iff_eq_none.mp (List.all_eq_true.mp h1 x hx)
theorem mg_globs (KI : (heapK w.params).In h) (g : h.Ns mainGlobals mg) : ∀ p ∈ globs, mg p.1 = some (.ref p.2) := fun p hp => by
  have h1 : globsB (esAt (heapK w.params) mainGlobals) = true := by kernel_rfl
  rw [mg_at KI g]
  have := List.all_eq_true.mp h1 p hp
  split at this
  · next a ha => rw [ha, beq_iff_eq.mp this]
  · cases this
theorem tb_eq : (theX w mg mb h n).TB = [113, 92] := rfl
theorem the_base {view : Program} {loose : List Str} {mean : ExcName → Option Value} (T : Top view loose mean mg mb h) (KI : (heapK w.params).In h) (hT : ∀ P ∈ [113, 92], h.get? P = some (tabObj #[])) (hb : ∃ o, h.get? (n - 1) = some o) (hl : ∀ b o, h.get? b = some o → b < n) :
    Base (theX w mg mb h n) h := by
  have l3 : ∀ {a m}, h.Ns a m → a < n := fun ⟨_, _, _, e, _⟩ => hl _ _ e
  have hcode : ∀ {c P : Addr}, codeHdIn (heapK w.params) c P = true → CodeHd h c P := fun e => codeHd_of_K KI e
  have hc1 : CodeHd h 117 113 := hcode (by kernel_rfl)
  have hc2 : CodeHd h 96 92 := hcode (by kernel_rfl)
  obtain ⟨mc, hmc, hdig⟩ := T.nodigits
  refine ⟨mg_free KI T.g, theK_in KI, T.g, T.b, T.builtins, T.nolimit, ⟨mc, hmc, hdig⟩, fun Tb hTb => ?_, fun a o e => ?_, ⟨l3 T.g, l3 T.b, l3 hmc, by rw [tb_eq]; decide, by rw [tb_eq]; decide, by rw [tb_eq]; decide⟩, fun Tb hTb => ?_, hb⟩
  · have h1 : Tb = tabsX[0] ∨ Tb = tabsX[1] := by simpa [theX, tabsX] using hTb
    rcases h1 with rfl | rfl
    · exact ⟨hc1, .inl (hT 113 (by simp))⟩
    · exact ⟨hc2, .inl (hT 92 (by simp))⟩
  · have e2 : h.get? a = some o := theK_in (n := n) KI a o e
    refine ⟨hl _ _ e2, fun hm => ?_⟩
    have hm' : a ∈ [113, 92] := hm
    have hm2 : a = 113 ∨ a = 92 := by simpa using hm'
    have e3 : (theK w.params h n).lookup a = some o := e
    have hno : (heapK w.params).lookup a = none := by
      rcases hm2 with rfl | rfl
      · kernel_rfl
      · kernel_rfl
    rw [lookup_rest hno] at e3
    exact (rest_some e3).2.1 hm'
  · have h1 : Tb = tabsX[0] ∨ Tb = tabsX[1] := by simpa [theX, tabsX] using hTb
    obtain ⟨o1, _, _, _, _, _, _, _, _, e1, _⟩ := hc1
    obtain ⟨o2, _, _, _, _, _, _, _, _, e2, _⟩ := hc2
    rcases h1 with rfl | rfl
    · exact ⟨hl _ _ (hT 113 (by simp)), hl _ _ e1, by rw [tb_eq]; decide⟩
    · exact ⟨hl _ _ (hT 92 (by simp)), hl _ _ e2, by rw [tb_eq]; decide⟩
end
theorem well_ints {P : Params} {h : Heap} {F : Addr → Option Obj} : ∀ {l : List Int} {vs : List Value}, WellAll P h vs (ofPys (l.map PyData.int)) → IsAll F (l.map D.int) vs
  | [], vs, W => by
    simp only [List.map_nil, ofPys] at W
    cases W; exact isAll_nil.mpr rfl
  | i :: l, vs, W => by
    simp only [List.map_cons, ofPys, ofPy] at W
    cases W with
    | cons W1 W2 =>
      cases W1
      exact isAll_cons.mpr ⟨_, _, rfl, is_int.mpr ⟨_, rfl⟩, well_ints W2⟩
theorem the_run {w : World} {s₁ : Shared} {mg mb : Str → Option Value} {view : Program} {loose : List Str} {mean : ExcName → Option Value} {l : List Int} {a fa : Addr} {Q : Value → Shared → Prop} {E : Value → Shared → Prop} (T : Top view loose mean mg mb s₁.heap) (KI : (heapK w.params).In s₁.heap)
    (hT : ∀ P ∈ [113, 92], s₁.heap.get? P = some (tabObj #[])) (W : Well w.params s₁.heap (.ref a) (ofPy (PyData.list (l.map PyData.int)))) (hlen : l.length ≤ 63) (hmg : mg "law" = some (.ref fa)) (hgen : s₁.gens = #[])
    (hQ : ∀ s', OldK s₁.heap s'.heap → s'.os = s₁.os → s'.gens = #[] → Q (.bool true) s') : wpAny (model PySem.Challenge.rw_rx0125_02.row.prog w) callerA (call (.ref fa) [.ref a]) Q E s₁ := by
  obtain ⟨oT, eT⟩ : ∃ o, s₁.heap.get? 113 = some o := ⟨_, hT 113 (by simp)⟩
  obtain ⟨n, hb, hl0⟩ := top_live s₁.heap.objs.size ⟨113, Heap.lt_size eT, oT, eT⟩
  have hl : ∀ b o, s₁.heap.get? b = some o → b < n := fun b o e => hl0 b o (Heap.lt_size e) e
  have hm := mg_globs KI T.g
  have B := the_base (n := n) T KI hT hb hl
  have hfa : fa = 164 := by
    have := hm ("law", 164) (by simp [globs])
    rw [hmg] at this; exact Value.ref.inj (Option.some.inj this)
  subst hfa
  obtain ⟨bm, ob, hbm, _, hob, hcls, hdict, hdata⟩ := T.bmain
  have hb4 : bm = 4 := by
    have := hm ("__builtins__", 4) (by simp [globs])
    rw [hbm] at this; exact Value.ref.inj (Option.some.inj this)
  subst hb4
  have LK := lawK (w := w) (mb := mb) (n := n) hm hob (hl _ _ hob) hcls hdict hdata
  have G : Good (theX w mg mb s₁.heap n) 13 [] callerA s₁ := ⟨⟨fun _ => rfl, by decide, by decide⟩, B, (fun a ha => by cases ha), ⟨[], rfl, fun e he => by cases he⟩⟩
  have DL := def_law (w := w) (mb := mb) (h := s₁.heap) (n := n) (hm ("law", 164) (by simp [globs]))
  have hc : CallOk (theX w mg mb s₁.heap n) 13 [] (.ref 164) [intsD l] (.bool true) := callOk_of DL rfl fun L q _ => law_a (k := 0) LK hlen
  have ia : IsAll (vis [] s₁.heap) [intsD l] [.ref a] := by
    simp only [ofPy] at W
    cases W with
    | list e W2 => exact isAll_cons.mpr ⟨_, _, rfl, is_list.mpr ⟨a, _, rfl, ⟨_, vis_iff.mpr ⟨by simp, e⟩⟩, well_ints W2⟩, isAll_nil.mpr rfl⟩
  refine hc callerA s₁ Q E _ G ia fun v s' iv t => ?_
  rw [is_bool.mp iv]
  obtain ⟨h', tk, rfl, x⟩ := t
  have B' := x.base B
  have old : ∀ b o, s₁.heap.get? b = some o → asItWas s₁.heap h' b o := fun b o e => by
    by_cases hbt : b ∈ [113, 92]
    · have hb2 : b = 113 ∨ b = 92 := by simpa using hbt
      have ho := hT b hbt
      rw [e] at ho; cases ho
      have ht : ∃ Tb ∈ tabsX, Tb.t = b := by
        rcases hb2 with rfl | rfl
        · exact ⟨_, List.mem_cons_self .., rfl⟩
        · exact ⟨_, List.mem_cons_of_mem _ (List.mem_cons_self ..), rfl⟩
      obtain ⟨Tb, hTb, rfl⟩ := ht
      have c0 := (B.tabs Tb hTb).1
      rcases (B'.tabs Tb hTb).2 with h2 | ⟨c', h2, _⟩
      · exact .inl h2
      · refine .inr (.inl ⟨?_, rfl, #[], #[rawInt Tb.line, rawInt Tb.col, .ref c'], rfl, ?_⟩)
        · obtain ⟨oc, vs, _, _, _, _, _, _, _, g1, g2, g3, g4, _⟩ := c0
          exact ⟨_, oc, vs, g1, g2, g3, g4⟩
        · rw [h2]; simp
    · refine .inl (B'.K b o ?_)
      have hlk : (theK w.params s₁.heap n).lookup b = some o := by
        unfold theK
        rw [List.lookup_append]
        cases q : (heapK w.params).lookup b with
        | some o' =>
          have := KI _ _ q
          rw [e] at this; cases this; rfl
        | none => exact rest_of (hl _ _ e) hbt e
      exact hlk
  refine hQ _ ⟨old, fun b o e => ?_⟩ rfl hgen
  rcases old b o e with h1 | ⟨_, _, _, _, _, h1⟩ | ⟨_, _, ⟨o', _, _, h1, _⟩, _⟩
  · exact ⟨_, h1⟩
  · exact ⟨_, h1⟩
  · exact ⟨o', h1⟩
end Mine
end

section
open PySem PySem.W PyProof.Rows
set_option Elab.async false
set_option linter.unusedVariables false
set_option maxRecDepth 100000
set_option maxHeartbeats 0
namespace Mine
/-! what the form asks of the law's text, part by part -/
noncomputable abbrev lawRow : OpenLaw := PySem.Challenge.rw_rx0125_02
theorem road_k : noRoadLSs { strict := !(importedModules lawRow.prog.main.body).all cThrough.contains, foot := none, bare := (["vars", "dir", "locals"] : List Str).filter (readsOut lawRow.prog lawRow.prog.main.body) } lawRow.prog.main.body = true :=
  (congrFun (congrFun Fast.te8326940854005059898 _) _).trans (by kernel_rfl)
theorem meet_k : namesMeet lawRow.prog lawRow.prog.main.body (fun _ n => attrL n) = true :=
  (congrFun (congrFun (congrFun Fast.te17119622794617984870 _) _) _).trans (by kernel_rfl)
theorem resolve_k : (sreFenced lawRow.prog.main && ((moduleNames lawRow.prog.main.body).isEmpty || lookedIntoSs (moduleNames lawRow.prog.main.body) lawRow.prog.main.body) && namesResolve lawRow.prog && lawRow.prog.boundNames.all (fun n => !worldNames.contains n)) = true := by kernel_rfl
theorem looks_k : looksOpen lawRow.prog = true := look_both (look_both resolve_k road_k) meet_k
theorem part_k : lawRow.row.partSaid = true := by
  unfold OpenRow.partSaid
  repeat' with_reducible refine look_both ?_ ?_
  · exact looks_k
  all_goals kernel_rfl
theorem row_k : lawRow.row.wellSaid = true := by
  unfold OpenRow.wellSaid
  repeat' with_reducible refine look_both ?_ ?_
  · exact part_k
  all_goals kernel_rfl
theorem said_k : lawRow.wellSaid = true := by
  unfold OpenLaw.wellSaid
  rw [Fast.te8326940854005059898, Fast.te17119622794617984870, Fast.te8179353310426384613, Fast.te9558739934217749035, Fast.te16286561074155671207, Fast.named_eq, Fast.te797321630700447069, Fast.te6984425678791042302]
  repeat' with_reducible refine look_both ?_ ?_
  · exact row_k
  all_goals kernel_rfl
theorem open_k1 : (chainsOk viewK && opensWell lawRow.row.prog && (PySem.W.frees lawRow.row.toRowW && lawRow.row.within.isEmpty)) = true := by decide +kernel
theorem whole_k : lawRow.row.prog.tablesWhole = true := by decide +kernel
theorem bare_k : lawRow.row.prog.bare := ⟨rfl, rfl, rfl, rfl, rfl, whole_k⟩
end Mine
theorem PySem.Challenge.cw_rx0125_02_holds : PySem.Challenge.rw_rx0125_02.Holds := by
  w_on
  refine holds_law Mine.said_k fun said => ?_
  refine holds_open (q := Mine.viewK) (loose := Mine.looseK) (Xt := fun s => xlAt Mine.viewK [] s && recOk (RowW.records Mine.rowK) s) (XP := XL Mine.viewK []) (Yf := Hook.obs Mine.hookK) (Ya := Hook.val Mine.hookK) (YP := Hook.says Mine.hookK) (N := 4320) Mine.leftK (Hook.of Mine.hookK) (Hook.keeps Mine.hookK) (fun s e => xl_of s (Bool.and_eq_true_iff.mp e).1) XL.keeps (by rfl) (by rfl) (by rfl) (fun s e => recFacts_of (Bool.and_eq_true_iff.mp e).2) (by rfl) said Mine.open_k1 Mine.bare_k ?hw ?hc
  case hw => exact ⟨[.list []], by decide +kernel, by decide +kernel⟩
  case hc =>
  intro w s₀ s₁ mg mb G Y fa o pm cd doc dV kV ho hd hcd hD hmg hg args vals as hpre hlay hrd hwl hlo
  have KX := km_in_of Y
  have hTT := km_tabs_of Y
  refine Ground.open G ?_
  intro T B D TE TW
  try (refine guard_noD D (by decide +kernel) ?_; clear D)
  have hmg' : mg "law" = some (.ref fa) := hmg
  clear hd hcd hmg hD
  wrow_args hpre hlay hrd hwl hlo
  rename_i hlen _
  rename_i W1 _ _ _ _
  refine Mine.the_run T KX hTT (by assumption) (by omega) hmg' hg fun s' h1 h2 h3 => ?_
  refine ⟨.inl ⟨.bool true, .bool true, [], rfl, fun cls => ?_, .bool true, ?_, fun _ => ⟨.nil, fun a ha => nomatch ha⟩⟩, h1, h2, .of_eq h3⟩
  · first | rfl | wrow_none_raised
  · first | rfl | wrow_post
end

