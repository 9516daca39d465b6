import PyProof.Rows.All
import Wide.All
import OpenK.AllK
import Wide.FinOn
import PyProof.DictItemsLoops
import PyProof.DictWalks
import PyProof.WalksMore
import KE.KPairComp
import PyProof.ForAny
import PyProof.CompFree
import Wide.BytesRules
import KE.BytesMake
import PySem.Challenge.RW_ha0001_01
set_option Elab.async false

section PartM1
open PySem PySem.W PySem.Calls PyProof.Rows
set_option Elab.async false
namespace Mine

/-! ## the data -/
noncomputable abbrev KI := Sum Int Bool
noncomputable abbrev Key := List KI
noncomputable def sWrong : Str := Str.ofString "wrong"
noncomputable def sRow : Str := Str.ofString "row"
noncomputable def strOf (b : Bool) : Str := if b then sWrong else sRow
theorem strOf_inj : ∀ a b : Bool, strOf a = strOf b → a = b := by decide +kernel

noncomputable def kiIs : KI → Value → Bool
  | .inl n, v => Value.isInt n v
  | .inr b, v => Value.isStrOf (strOf b) v
noncomputable def kiHash (w : World) : KI → Int
  | .inl n => hashInt n
  | .inr b => hashStr w (strOf b)

theorem eqBool_int_str {prog : Program} {w : World} {A : Around} {E : Value → Shared → Prop} {s : Shared} {a : Int} {t : Tok} {b : Str} {u : Tok} {Q : Bool → Shared → Prop} (h : Q false s) :
    wpAny (model prog w) A (eqBool (.int a t) (.str b u)) Q E s := by
  unfold eqBool
  refine wpAny_holding ?_
  by_cases hab : (Value.int a t == Value.str b u) = true
  · have := eq_of_beq hab; cases this
  · rw [if_neg hab]
    exact wpAny_bind (EqMixed.eq_int_str (wpAny_truthy_bool h))
theorem eqBool_str_int {prog : Program} {w : World} {A : Around} {E : Value → Shared → Prop} {s : Shared} {a : Int} {t : Tok} {b : Str} {u : Tok} {Q : Bool → Shared → Prop} (h : Q false s) :
    wpAny (model prog w) A (eqBool (.str b u) (.int a t)) Q E s := by
  unfold eqBool
  refine wpAny_holding ?_
  by_cases hab : (Value.str b u == Value.int a t) = true
  · have := eq_of_beq hab; cases this
  · rw [if_neg hab]
    exact wpAny_bind (EqMixed.eq_str_int (wpAny_truthy_bool h))

noncomputable def kiKind (prog : Program) (w : World) : KeyKind prog w KI where
  is := kiIs
  hash := kiHash w
  inj := fun v a b ha hb => by
    cases a <;> cases b <;> simp only [kiIs] at ha hb
    · rw [Value.isInt_inj v _ _ ha hb]
    · obtain ⟨t, rfl⟩ := Value.isInt_shape ha; simp [Value.isStrOf] at hb
    · obtain ⟨t, rfl⟩ := Value.isInt_shape hb; simp [Value.isStrOf] at ha
    · rw [strOf_inj _ _ (Value.isStrOf_inj v _ _ ha hb)]
  byValue := fun k v h => by
    cases k <;> simp only [kiIs] at h
    · obtain ⟨t, rfl⟩ := Value.isInt_shape h; rfl
    · obtain ⟨t, rfl⟩ := Value.isStrOf_shape h; rfl
  pyHash := fun {A E s k v Q} hv h => by
    cases k <;> simp only [kiIs, kiHash] at hv h
    · obtain ⟨t, rfl⟩ := Value.isInt_shape hv; exact wpAny_pyHash_int h
    · obtain ⟨t, rfl⟩ := Value.isStrOf_shape hv; exact wpAny_pyHash_str h
  eqBool := fun {A E s a b u v Q} hu hv h => by
    cases a <;> cases b <;> simp only [kiIs] at hu hv
    · obtain ⟨t, rfl⟩ := Value.isInt_shape hu
      obtain ⟨t', rfl⟩ := Value.isInt_shape hv
      refine wpAny_eqBool_int ?_
      rename_i a b
      have : (a == b) = decide ((Sum.inl a : KI) = Sum.inl b) := by
        by_cases e : a = b
        · subst e; simp
        · simp [e]
      rw [this]; exact h
    · obtain ⟨t, rfl⟩ := Value.isInt_shape hu
      obtain ⟨t', rfl⟩ := Value.isStrOf_shape hv
      exact eqBool_int_str (by simpa using h)
    · obtain ⟨t, rfl⟩ := Value.isStrOf_shape hu
      obtain ⟨t', rfl⟩ := Value.isInt_shape hv
      exact eqBool_str_int (by simpa using h)
    · obtain ⟨t, rfl⟩ := Value.isStrOf_shape hu
      obtain ⟨t', rfl⟩ := Value.isStrOf_shape hv
      refine wpAny_eqBool_str ?_
      rename_i a b
      have : decide (strOf a = strOf b) = decide ((Sum.inr a : KI) = Sum.inr b) := by
        by_cases e : a = b
        · subst e; simp
        · rw [decide_eq_false fun q => e (strOf_inj a b q), decide_eq_false (by simpa using e)]
      rw [this]; exact h
  «strs» := fun k x t v h => by
    cases k with
    | inl n => simp [kiIs, Value.isInt] at h
    | inr b =>
      simp only [kiIs] at h ⊢
      obtain ⟨u, hu⟩ := Value.isStrOf_shape h
      injection hu with hx
      subst hx
      cases v <;> rfl

inductive It where
  | int (n : Int) | byt (b : List Nat) | pair (k : Key) (n : Int)
inductive D where
  | none | bool (b : Bool) | int (n : Int) | str (b : Bool) | byt (b : List Nat) | key (k : Key) | pair (k : Key) (n : Int) | list (l : List It) | dict (l : List (Key × Int))

/-! ## the heap bears them; W: what must not be leaned on -/
noncomputable def Ext (W : List Addr) (h h' : Heap) : Prop := ∀ b o, b ∉ W → h.get? b = some o → h'.get? b = some o
theorem Ext.refl (W : List Addr) (h : Heap) : Ext W h h := fun _ _ _ e => e
theorem Ext.trans {W : List Addr} {h h' h'' : Heap} (a : Ext W h h') (b : Ext W h' h'') : Ext W h h'' := fun x o n e => b x o n (a x o n e)
theorem Ext.mono {W W' : List Addr} {h h' : Heap} (a : Ext W h h') (s : ∀ x ∈ W, x ∈ W') : Ext W' h h' := fun x o n e => a x o (fun q => n (s x q)) e
theorem Ext.of_keeps {W : List Addr} {h h' : Heap} (k : ∀ b o, h.get? b = some o → h'.get? b = some o) : Ext W h h' := fun b o _ e => k b o e
theorem Ext.same {W : List Addr} {a : Addr} {h h' : Heap} (k : Heap.SameBut a h h') (ha : a ∈ W) : Ext W h h' := fun b o n e => k.extBut b o (fun q => n (q ▸ ha)) e
theorem Ext.push (W : List Addr) (h : Heap) (o : Obj) : Ext W h (h.push o) := fun _ _ _ e => Heap.get?_push_of_some o e

/-- bytes -/
noncomputable def BytB (v : Value) (b : List Nat) : Prop := (∃ t, v = .bytes (b.map UInt8.ofNat).toArray t) ∧ ∀ x ∈ b, x < 256
/-- a tuple of ints and strs -/
noncomputable def KeyB (prog : Program) (w : World) (W : List Addr) (h : Heap) (a : Addr) (k : Key) : Prop := a ∉ W ∧ IsTupleKey (kiKind prog w) h k a
noncomputable def tupObj (vs : List Value) : Obj := { cls := .type "tuple", data := .seq vs.toArray }
noncomputable def ItB (prog : Program) (w : World) (W : List Addr) (h : Heap) (v : Value) : It → Prop
  | .int n => ∃ t, v = .int n t
  | .byt b => BytB v b
  | .pair k n => ∃ a ka t, v = .ref a ∧ a ∉ W ∧ h.get? a = some (tupObj [.ref ka, .int n t]) ∧ KeyB prog w W h ka k
noncomputable abbrev knd (prog : Program) (w : World) := tupleKind (kiKind prog w)
noncomputable def EntB (W : List Addr) (x : Key × Addr × Value) (p : Key × Int) : Prop := x.1 = p.1 ∧ x.2.1 ∉ W ∧ ∃ t, x.2.2 = .int p.2 t
/-- the dict at d, which may itself be of W -/
noncomputable def DictB (prog : Program) (w : World) (W : List Addr) (h : Heap) (d : Addr) (l : List (Key × Int)) : Prop :=
  ∃ xs, h.DictOfH (knd prog w) d xs ∧ Paired (EntB W) xs l
noncomputable def ListB (prog : Program) (w : World) (W : List Addr) (h : Heap) (a : Addr) (l : List It) : Prop :=
  ∃ vs, h.PlainList a vs ∧ Paired (ItB prog w W h) vs.toList l
noncomputable def DB (prog : Program) (w : World) (W : List Addr) (h : Heap) (v : Value) : D → Prop
  | .none => v = .none
  | .bool b => v = .bool b
  | .int n => ∃ t, v = .int n t
  | .str b => ∃ t, v = .str (strOf b) t
  | .byt b => BytB v b
  | .key k => ∃ a, v = .ref a ∧ KeyB prog w W h a k
  | .pair k n => ItB prog w W h v (.pair k n)
  | .list l => ∃ a, v = .ref a ∧ a ∉ W ∧ ListB prog w W h a l
  | .dict l => ∃ a, v = .ref a ∧ a ∉ W ∧ (a == sysModules) = false ∧ DictB prog w W h a l

noncomputable def itD : It → D
  | .int n => .int n
  | .byt b => .byt b
  | .pair k n => .pair k n
noncomputable def dIt : D → Option It
  | .int n => some (.int n)
  | .byt b => some (.byt b)
  | .pair k n => some (.pair k n)
  | _ => none
noncomputable def kiD : KI → D
  | .inl n => .int n
  | .inr b => .str b
noncomputable def dKi : D → Option KI
  | .int n => some (.inl n)
  | .str b => some (.inr b)
  | _ => none

section
variable {prog : Program} {w : World} {W W' : List Addr} {h h' : Heap}
theorem itD_ok {v : Value} : ∀ {i : It}, ItB prog w W h v i → DB prog w W h v (itD i)
  | .int _, x => x
  | .byt _, x => x
  | .pair _ _, x => x
theorem dIt_ok {v : Value} : ∀ {d : D} {i : It}, dIt d = some i → DB prog w W h v d → ItB prog w W h v i
  | .int _, _, e, x => by cases e; exact x
  | .byt _, _, e, x => by cases e; exact x
  | .pair _ _, _, e, x => by cases e; exact x
theorem kiD_ok {v : Value} : ∀ {i : KI}, kiIs i v = true → DB prog w W h v (kiD i)
  | .inl _, x => Value.isInt_shape x
  | .inr _, x => Value.isStrOf_shape x
theorem dKi_ok {v : Value} : ∀ {d : D} {i : KI}, dKi d = some i → DB prog w W h v d → kiIs i v = true
  | .int _, _, e, x => by cases e; obtain ⟨t, rfl⟩ := x; simp [kiIs, Value.isInt]
  | .str _, _, e, x => by cases e; obtain ⟨t, rfl⟩ := x; simp [kiIs, Value.isStrOf]
theorem IsTupleKey.up {k : Key} {a : Addr} (x : IsTupleKey (kiKind prog w) h k a) (e : ∀ o, h.get? a = some o → h'.get? a = some o) : IsTupleKey (kiKind prog w) h' k a :=
  let ⟨o, items, n, ho, r⟩ := x; ⟨o, items, n, e o ho, r⟩
theorem KeyB.up {a : Addr} {k : Key} (x : KeyB prog w W h a k) (e : Ext W h h') : KeyB prog w W h' a k := ⟨x.1, IsTupleKey.up x.2 fun o => e a o x.1⟩
theorem KeyB.less {a : Addr} {k : Key} (x : KeyB prog w W' h a k) (s : ∀ b ∈ W, b ∈ W') : KeyB prog w W h a k := ⟨fun q => x.1 (s a q), x.2⟩
theorem ItB.up {v : Value} : ∀ {i : It}, ItB prog w W h v i → Ext W h h' → ItB prog w W h' v i
  | .int _, x, _ => x
  | .byt _, x, _ => x
  | .pair _ _, ⟨a, ka, t, e1, n, e2, k⟩, e => ⟨a, ka, t, e1, n, e a _ n e2, k.up e⟩
theorem ItB.less {v : Value} : ∀ {i : It}, ItB prog w W' h v i → (∀ b ∈ W, b ∈ W') → ItB prog w W h v i
  | .int _, x, _ => x
  | .byt _, x, _ => x
  | .pair _ _, ⟨a, ka, t, e1, n, e2, k⟩, s => ⟨a, ka, t, e1, fun q => n (s a q), e2, k.less s⟩
theorem paired_mem {α β : Type} {F : α → β → Prop} : ∀ {l : List α} {m : List β}, Paired F l m → ∀ x ∈ l, ∃ y ∈ m, F x y
  | _, _, .cons h t, x, hx => by
    rcases List.mem_cons.mp hx with rfl | hx
    · exact ⟨_, .head _, h⟩
    · obtain ⟨y, hy, hf⟩ := paired_mem t x hx
      exact ⟨y, .tail _ hy, hf⟩
theorem DictB.at' {d : Addr} {l : List (Key × Int)} (x : DictB prog w W h d l) (e : Ext W h h') (ed : ∀ o, h.get? d = some o → h'.get? d = some o) : DictB prog w W h' d l := by
  obtain ⟨xs, ⟨o, es, ep, ho, hx, hd, he, hk, hn⟩, hp⟩ := x
  refine ⟨xs, ⟨o, es, ep, ed o ho, hx, hd, he, fun y hy => ?_, hn⟩, hp⟩
  obtain ⟨p, _, _, hy2, _⟩ := paired_mem hp y hy
  exact IsTupleKey.up (hk y hy) fun o => e _ o hy2
theorem DictB.less {d : Addr} {l : List (Key × Int)} (x : DictB prog w W' h d l) (s : ∀ b ∈ W, b ∈ W') : DictB prog w W h d l := by
  obtain ⟨xs, hx, hp⟩ := x
  exact ⟨xs, hx, hp.mono fun _ _ q => ⟨q.1, fun z => q.2.1 (s _ z), q.2.2⟩⟩
theorem ListB.at' {a : Addr} {l : List It} (x : ListB prog w W h a l) (e : Ext W h h') (ea : ∀ o, h.get? a = some o → h'.get? a = some o) : ListB prog w W h' a l := by
  obtain ⟨vs, hx, hp⟩ := x
  exact ⟨vs, hx.at ea, hp.mono fun _ _ q => q.up e⟩
theorem ListB.less {a : Addr} {l : List It} (x : ListB prog w W' h a l) (s : ∀ b ∈ W, b ∈ W') : ListB prog w W h a l := by
  obtain ⟨vs, hx, hp⟩ := x
  exact ⟨vs, hx, hp.mono fun _ _ q => q.less s⟩
theorem DB.up {v : Value} : ∀ {d : D}, DB prog w W h v d → Ext W h h' → DB prog w W h' v d
  | .none, x, _ => x
  | .bool _, x, _ => x
  | .int _, x, _ => x
  | .str _, x, _ => x
  | .byt _, x, _ => x
  | .key _, ⟨a, e1, k⟩, e => ⟨a, e1, k.up e⟩
  | .pair k n, x, e => ItB.up (i := .pair k n) x e
  | .list _, ⟨a, e1, n, x⟩, e => ⟨a, e1, n, x.at' e fun o => e a o n⟩
  | .dict _, ⟨a, e1, n, lo, x⟩, e => ⟨a, e1, n, lo, x.at' e fun o => e a o n⟩
theorem DB.less {v : Value} : ∀ {d : D}, DB prog w W' h v d → (∀ b ∈ W, b ∈ W') → DB prog w W h v d
  | .none, x, _ => x
  | .bool _, x, _ => x
  | .int _, x, _ => x
  | .str _, x, _ => x
  | .byt _, x, _ => x
  | .key _, ⟨a, e1, k⟩, s => ⟨a, e1, k.less s⟩
  | .pair k n, x, s => ItB.less (i := .pair k n) x s
  | .list _, ⟨a, e1, n, x⟩, s => ⟨a, e1, fun q => n (s a q), x.less s⟩
  | .dict _, ⟨a, e1, n, lo, x⟩, s => ⟨a, e1, fun q => n (s a q), lo, x.less s⟩
end
end Mine
end PartM1

section PartM2
open PySem PySem.W PySem.Calls PyProof.Rows
set_option Elab.async false
namespace Mine

section
variable {prog : Program} {w : World} {A : Around} {E : Value → Shared → Prop} {s : Shared} {W : List Addr}

/-- what a tree gives back: a value that bears d in a heap that kept all that stood -/
noncomputable def Gv (prog : Program) (w : World) (A : Around) (W : List Addr) (s : Shared) (t : Sem Value) (d : D) : Prop :=
  ∀ (Q : Value → Shared → Prop) (E : Value → Shared → Prop), (∀ v h' tk, Ext [] s.heap h' → DB prog w W h' v d → Q v { s with heap := h', toks := tk }) → wpAny (model prog w) A t Q E s

theorem len_paired {α β : Type} {F : α → β → Prop} {l : List α} {m : List β} (h : Paired F l m) : l.length = m.length := h.length
theorem paired_append {α β : Type} {F : α → β → Prop} : ∀ {l l' : List α} {m m' : List β}, Paired F l m → Paired F l' m' → Paired F (l ++ l') (m ++ m')
  | _, _, _, _, .nil, h => h
  | _, _, _, _, .cons a t, h => .cons a (paired_append t h)
theorem paired_get {α β : Type} {F : α → β → Prop} : ∀ {l : List α} {m : List β}, Paired F l m → ∀ {i : Nat} {y : β}, m[i]? = some y → ∃ x, l[i]? = some x ∧ F x y
  | _, _, .nil, i, y, h => by simp at h
  | _, _, .cons a t, 0, y, h => by simp at h; subst h; exact ⟨_, rfl, a⟩
  | _, _, .cons a t, i + 1, y, h => by simp at h; obtain ⟨x, hx, hf⟩ := paired_get t h; exact ⟨x, by simpa using hx, hf⟩

noncomputable def small (n : Int) : Bool := decide (n.natAbs < 1000000)
theorem small_bits {n : Int} (h : small n = true) : Builtin.Int.intBits n ≤ 64 := by
  unfold small at h
  have h := of_decide_eq_true h
  unfold Builtin.Int.intBits
  split
  · omega
  · have : n.natAbs.log2 < 64 := by
      rcases Nat.eq_zero_or_pos n.natAbs with e | e
      · rw [e]; decide
      · exact (Nat.log2_lt (by omega)).mpr (by omega)
    omega

noncomputable def binD : Operator → D → D → Option D
  | .Add, .int a, .int b => some (.int (a + b))
  | .Sub, .int a, .int b => some (.int (a - b))
  | .Mult, .int a, .int b => if small a = true then some (.int (a * b)) else none
  | .FloorDiv, .int a, .int b => if b = 0 then none else if Builtin.divisionGoesByPylong a b = true then none else some (.int (a.fdiv b))
  | .Mod, .int a, .int b => if b = 0 then none else some (.int (a.fmod b))
  | .Add, .byt a, .byt b => if a.length + b.length ≤ 1000 then some (.byt (a ++ b)) else none
  | .Add, .list a, .list b => if a.length + b.length ≤ 1000 then some (.list (a ++ b)) else none
  | _, _, _ => none

theorem line_is : sizeLine = 16777216 := sizeLine_eq
theorem gv_of_int {t : Sem Value} {n : Int} (h : ∀ (Q : Value → Shared → Prop) (E : Value → Shared → Prop), (∀ tk tk', Q (.int n tk) { s with toks := tk' }) → wpAny (model prog w) A t Q E s) : Gv prog w A W s t (.int n) :=
  fun Q E hQ => h Q E fun tk tk' => hQ (.int n tk) s.heap tk' (Ext.refl _ _) ⟨tk, rfl⟩

theorem add_lists_raw {l b : Addr} {its its2 : Array Value} {Q : Value → Shared → Prop} (hl : s.heap.IsList l its) (hb : s.heap.IsList b its2)
    (h : Q (.ref s.heap.objs.size) { s with heap := s.heap.push { cls := .type "list", data := .seq (its ++ its2) } }) (hsz : its.size + its2.size ≤ sizeLine) :
    wpAny (model prog w) A (binaryOp .Add (.ref l) (.ref b)) Q E s := by
  obtain ⟨⟨cls, dd, data, sl⟩, ho, hc, n, hd⟩ := id hl
  obtain ⟨⟨cls2, dd2, data2, sl2⟩, ho2, hc2, n2, hd2⟩ := id hb
  simp only at hc hd hc2 hd2
  subst hc hd hc2 hd2
  exact concat_meets ⟨_, ho, rfl⟩ ⟨_, ho2, rfl⟩ noFill_list_add seq_list_add PySem.F.slot_list_add PySem.F.entry_list_add (PySem.F.args_list_add_2 _ _) (list_addW l b its its2 n n2 dd dd2 sl sl2 hsz) ⟨ho, ho2, h⟩

theorem fresh_off {h : Heap} {W : List Addr} (hW : ∀ a ∈ W, a < h.objs.size) : h.objs.size ∉ W := fun q => Nat.lt_irrefl _ (hW _ q)
/-- a new list -/
theorem listB_new {h : Heap} {vs : Array Value} {l : List It} (hp : Paired (ItB prog w W h) vs.toList l) : ListB prog w W (h.push { cls := .type "list", data := .seq vs }) h.objs.size l :=
  ⟨vs, ⟨0, Heap.get?_push_size _ rfl⟩, hp.mono fun _ _ q => q.up (Ext.push _ _ _)⟩

theorem bin_ok {op : Operator} {a b : Value} {da db d : D} (hW : ∀ a ∈ W, a < s.heap.objs.size) (ha : DB prog w W s.heap a da) (hb : DB prog w W s.heap b db) (e : binD op da db = some d) : Gv prog w A W s (binaryOp op a b) d := by
  unfold binD at e
  split at e
  · cases e
    obtain ⟨t, rfl⟩ := ha; obtain ⟨u, rfl⟩ := hb
    exact gv_of_int fun Q E h => PyProof.Rows.add_int (h _ _)
  · cases e
    obtain ⟨t, rfl⟩ := ha; obtain ⟨u, rfl⟩ := hb
    exact gv_of_int fun Q E h => PyProof.Rows.sub_int' (h _ _)
  · split at e
    · rename_i hs; cases e
      obtain ⟨t, rfl⟩ := ha; obtain ⟨u, rfl⟩ := hb
      exact gv_of_int fun Q E h => PyProof.Rows.mul_int (h _ _) (.of_left (small_bits hs))
    · cases e
  · split at e
    · cases e
    · split at e
      · cases e
      · rename_i hs hq; cases e
        obtain ⟨t, rfl⟩ := ha; obtain ⟨u, rfl⟩ := hb
        exact gv_of_int fun Q E h => PyProof.Rows.floordiv_int hs (h _ _) (.inl (by simpa using hq))
  · split at e
    · cases e
    · rename_i hs; cases e
      obtain ⟨t, rfl⟩ := ha; obtain ⟨u, rfl⟩ := hb
      exact gv_of_int fun Q E h => PyProof.Rows.mod_int' hs (h _ _)
  · split at e
    · rename_i x y hs; cases e
      obtain ⟨⟨t, rfl⟩, h1⟩ := ha; obtain ⟨⟨u, rfl⟩, h2⟩ := hb
      intro Q E h
      refine KBy.add_bytes (by simp only [List.size_toArray, List.length_map]; omega) fun t' k => ?_
      refine h _ s.heap k (Ext.refl _ _) ⟨⟨t', by rw [List.append_toArray, ← List.map_append]⟩, fun z hz => ?_⟩
      rcases List.mem_append.mp hz with hz | hz
      · exact h1 z hz
      · exact h2 z hz
    · cases e
  · split at e
    · rename_i x y hs; cases e
      obtain ⟨l, rfl, n1, vs, p1, q1⟩ := ha; obtain ⟨m, rfl, n2, us, p2, q2⟩ := hb
      intro Q E h
      have z1 := q1.length; have z2 := q2.length
      have e1 : vs.size = x.length := by rw [← z1]; simp
      have e2 : us.size = y.length := by rw [← z2]; simp
      refine add_lists_raw p1.isList p2.isList ?_ (by rw [line_is]; omega)
      refine h _ _ _ (Ext.push _ _ _) ⟨_, rfl, fresh_off hW, listB_new ?_⟩
      rw [Array.toList_append]
      exact paired_append q1 q2
    · cases e
  · cases e
end
end Mine
end PartM2

section PartM3
open PySem PySem.W PySem.Calls PyProof.Rows
set_option Elab.async false
namespace Mine

noncomputable def keyEq (a b : Key) : Bool := decide (a = b)
noncomputable def lookD (l : List (Key × Int)) (k : Key) : Option Int := (l.find? fun p => decide (p.1 = k)).map (·.2)
noncomputable def putD (l : List (Key × Int)) (k : Key) (n : Int) : List (Key × Int) := if (lookD l k).isSome then l.map (fun p => if p.1 = k then (p.1, n) else p) else l ++ [(k, n)]
noncomputable def dictEq (a b : List (Key × Int)) : Bool := a.length == b.length && a.all fun p => lookD b p.1 == some p.2

section
variable {W : List Addr}
theorem look_pair : ∀ {xs : List (Key × Addr × Value)} {l : List (Key × Int)} (k : Key), Paired (EntB W) xs l →
    (atKey xs k = none ∧ lookD l k = none) ∨ ∃ a n t, atKey xs k = some (a, .int n t) ∧ a ∉ W ∧ lookD l k = some n
  | _, _, k, .nil => .inl ⟨rfl, rfl⟩
  | x :: xs, p :: l, k, .cons h t => by
    obtain ⟨x1, x2, x3⟩ := x
    obtain ⟨e, nW, tk, ev⟩ := h
    simp only at e nW ev
    subst e
    unfold atKey lookD
    simp only [List.find?_cons]
    by_cases hk : p.1 = k
    · simp only [hk, decide_true, Option.map_some]
      exact .inr ⟨x2, p.2, tk, by rw [ev], nW, rfl⟩
    · simp only [hk, decide_false]
      exact look_pair k t
theorem put_pair {xs : List (Key × Addr × Value)} {l : List (Key × Int)} {k : Key} {a : Addr} {n : Int} {t : Tok} (h : Paired (EntB W) xs l) (ha : a ∉ W) :
    Paired (EntB W) (storedH xs k a (.int n t)) (putD l k n) := by
  unfold storedH putD
  have e : (atKey xs k).isSome = (lookD l k).isSome := by
    rcases look_pair k h with ⟨e1, e2⟩ | ⟨_, _, _, e1, _, e2⟩ <;> rw [e1, e2] <;> rfl
  rw [e]
  split
  · rename_i hh
    clear e hh
    induction h with
    | nil => exact .nil
    | cons f _ ih =>
      refine .cons ?_ ih
      obtain ⟨f1, f2, f3⟩ := f
      unfold putAt EntB
      dsimp only
      rw [f1]
      split
      · exact ⟨rfl, f2, t, rfl⟩
      · exact ⟨f1, f2, f3⟩
  · exact paired_append h (.cons ⟨rfl, ha, t, rfl⟩ .nil)
theorem putD_length (l : List (Key × Int)) (k : Key) (n : Int) : (putD l k n).length ≤ l.length + 1 := by
  unfold putD
  split <;> simp
end

section
variable {prog : Program} {w : World} {A : Around} {E : Value → Shared → Prop} {s : Shared} {W : List Addr}

theorem lookD_of_get {xs : List (Key × Addr × Value)} {l : List (Key × Int)} (h : Paired (EntB W) xs l) (hn : (xs.map (·.1)).Nodup) {j : Nat} {k : Key} {p : Addr × Value} (hx : xs[j]? = some (k, p)) :
    ∃ n t, p.2 = .int n t ∧ lookD l k = some n := by
  have e := atKey_of_get hn hx
  rcases look_pair k h with ⟨e1, _⟩ | ⟨a, n, t, e1, _, e2⟩
  · rw [e1] at e; cases e
  · rw [e1] at e; cases e; exact ⟨n, t, rfl, e2⟩
theorem lookD_none_of_get {xs : List (Key × Addr × Value)} {l : List (Key × Int)} (h : Paired (EntB W) xs l) {k : Key} (hx : ∀ (j : Nat) (p : Addr × Value), xs[j]? ≠ some (k, p)) : lookD l k = none := by
  have e := atKey_none_of_get hx
  rcases look_pair k h with ⟨_, e2⟩ | ⟨a, n, t, e1, _, _⟩
  · exact e2
  · rw [e1] at e; cases e

theorem samePairsH {nm : String} {a b : Addr} {xa xb : List (Key × Addr × Value)} {la lb : List (Key × Int)} {Q : Bool → Shared → Prop} (ha : (a == sysModules) = false) (hb : (b == sysModules) = false)
    (hu : A.units < cLine) (da : s.heap.DictOfH (knd prog w) a xa) (db : s.heap.DictOfH (knd prog w) b xb) (pa : Paired (EntB W) xa la) (pb : Paired (EntB W) xb lb) (h : Q (dictEq la lb) s) :
    wpAny (model prog w) A (Builtin.Dict.samePairs nm a b) Q E s := by
  obtain ⟨oa, es, ep, hoa, _, hda, hea, hka, hna⟩ := da
  obtain ⟨ob, es', ep', hob, _, hdb, heb, hkb, hnb⟩ := db
  have hla : la.length = es.size := by rw [← pa.length, size_of_entries hea]
  have hlb : lb.length = es'.size := by rw [← pb.length, size_of_entries heb]
  unfold dictEq at h
  rw [hla, hlb] at h
  unfold Builtin.Dict.samePairs Builtin.Dict.showsAll
  rw [if_neg (show ¬ (a == sysModules) = true by rw [ha]; exact Bool.false_ne_true), if_neg (show ¬ (b == sysModules) = true by rw [hb]; exact Bool.false_ne_true)]
  refine wpAny_bind (wpAny_pure (wpAny_bind (wpAny_pure ?_)))
  refine wpAny_bind (wpAny_dictEntries hoa hda ?_)
  dsimp only
  refine wpAny_bind (wpAny_dictEntries hob hdb ?_)
  by_cases hsz : es.size = es'.size
  case neg =>
    rw [if_pos (by simpa using hsz)]
    have hbf : (es.size == es'.size) = false := by simpa using hsz
    rw [hbf, Bool.false_and] at h
    exact wpAny_bind (wpAny_rule (wpAny_pure h))
  case pos =>
    have h' : Q (la.all fun p => lookD lb p.1 == some p.2) s := by simpa [hsz] using h
    rw [if_neg (by rw [hsz]; simp)]
    refine wpAny_bind (wpAny_dictEpoch hoa hda ?_)
    refine wpAny_bind ?_
    rw [Std.Legacy.Range.forIn_eq_forIn_range']
    simp only [Std.Legacy.Range.size, Nat.sub_zero, Nat.add_sub_cancel, Nat.div_one]
    refine wpAny_forIn_list _
      (fun rest q s' => s' = s ∧ q = (none, ()) ∧ ∃ i, rest = List.range' i (es.size - i) ∧ i ≤ es.size ∧ (la.all fun p => lookD lb p.1 == some p.2) = ((la.drop i).all fun p => lookD lb p.1 == some p.2))
      _ ?_ ?_ _ _ ⟨rfl, rfl, 0, by simp, Nat.zero_le _, by rw [List.drop_zero]⟩
    · rintro x rest q s' ⟨rfl, rfl, i, hr, hi, hpre⟩
      have hlt : i < es.size := by
        rcases Nat.lt_or_ge i es.size with h | h
        · exact h
        · rw [Nat.sub_eq_zero_of_le h] at hr; simp at hr
      obtain ⟨rfl, hrest⟩ : x = i ∧ rest = List.range' (i + 1) (es.size - (i + 1)) := by
        have e : es.size - i = (es.size - (i + 1)) + 1 := by omega
        rw [e, List.range'_succ] at hr
        injection hr with h1 h2
        exact ⟨h1, h2⟩
      refine wpAny_bind (wpAny_dictEntries hoa hda ?_)
      have hlt' : x < la.length := by rw [hla]; exact hlt
      obtain ⟨⟨k, n⟩, hkn⟩ : ∃ p, la[x]? = some p := ⟨_, List.getElem?_eq_getElem hlt'⟩
      obtain ⟨⟨k', ka, v⟩, hxk, ek, _, t, ev⟩ := paired_get pa hkn
      simp only at ek ev
      subst ek ev
      have hdrop : la.drop x = (k', n) :: la.drop (x + 1) := by
        rw [List.drop_eq_getElem_cons hlt']
        rw [List.getElem?_eq_getElem hlt'] at hkn
        rw [Option.some.inj hkn]
      have hex : es[x]? = some ⟨(knd prog w).hash k', .ref ka, .int n t⟩ := by rw [entry_at hea x, hxk]; rfl
      have hkk : (knd prog w).is s'.heap k' ka := hka _ (List.mem_of_getElem? hxk)
      rw [hex]
      rw [hdrop, List.all_cons] at hpre
      show wpAny _ _ (holding [.ref ka, .int n t] _ >>= _) _ _ _
      refine wpAny_bind (wpAny_holding (wpAny_bind (wpAny_dictFind_heap (knd := knd prog w) (xs := xb) hu hkk hob hdb heb hkb hnb (fun hno => ?_) fun j p hj => ?_)))
      · have e := lookD_none_of_get pb hno
        refine wpAny_pure ?_
        show wpAny _ _ (if (!false) = true then _ else _) _ _ _
        rw [if_pos (by decide)]
        refine wpAny_pure (wpAny_pure ?_)
        rw [hpre, e] at h'
        exact h'
      · obtain ⟨n', t', ev', e⟩ := lookD_of_get pb hnb hj
        obtain ⟨kb, vb⟩ := p
        simp only at ev'
        subst ev'
        refine wpAny_bind (wpAny_dictEntries hob hdb ?_)
        have hej : es'[j]? = some ⟨(knd prog w).hash k', .ref kb, .int n' t'⟩ := by rw [entry_at heb j, hj]; rfl
        rw [hej]
        refine wpAny_holding (wpAny_eqBool_int ?_)
        rw [e] at hpre
        by_cases hnn : n = n'
        · subst hnn
          rw [beq_self_eq_true]
          show wpAny _ _ (if (!true) = true then _ else _) _ _ _
          rw [if_neg (by decide)]
          refine wpAny_bind (wpAny_dictEpoch hoa hda ?_)
          rw [if_neg (by simp)]
          refine wpAny_pure ⟨rfl, rfl, x + 1, hrest, hlt, ?_⟩
          rw [hpre]; simp
        · have hf : (n == n') = false := by simpa using hnn
          rw [hf]
          have hf' : ((some n' : Option Int) == some n) = false := by simpa using fun q => hnn q.symm
          rw [hf', Bool.false_and] at hpre
          show wpAny _ _ (if (!false) = true then _ else _) _ _ _
          rw [if_pos (by decide)]
          refine wpAny_pure (wpAny_pure ?_)
          rw [hpre] at h'
          exact h'
    · rintro q s' ⟨rfl, rfl, i, hr, hi, hpre⟩
      have hin : i = es.size := by
        rcases Nat.lt_or_ge i es.size with h | h
        · have e : es.size - i = (es.size - (i + 1)) + 1 := by omega
          rw [e, List.range'_succ] at hr; exact nomatch hr
        · exact Nat.le_antisymm hi h
      refine wpAny_pure ?_
      rw [hin, ← hla, List.drop_length] at hpre
      rw [hpre] at h'
      exact h'

theorem ne_dictH {a b : Addr} {la lb : List (Key × Int)} {Q : Value → Shared → Prop} (ha : (a == sysModules) = false) (hb : (b == sysModules) = false)
    (hu : A.units + 1 < cLine) (da : DictB prog w W s.heap a la) (db : DictB prog w W s.heap b lb) (h : Q (.bool (!dictEq la lb)) s) :
    wpAny (model prog w) A (compareOp .NotEq (.ref a) (.ref b)) Q E s := by
  obtain ⟨xa, da, pa⟩ := da
  obtain ⟨xb, db, pb⟩ := db
  refine wpAny_richCompare_same_room (op := .NotEq) da.typeIs db.typeIs PySem.F.slot_dict_ne (wpAny_call_entry PySem.F.slot_dict_ne da.typeIs PySem.F.entry_dict_ne ?_ (PySem.F.args_dict_ne_2 _ _)) (Nat.lt_of_succ_lt hu)
  show wpAny _ _ (Builtin.Dict.dictSlotArgs "__ne__" ⟨[.ref a, .ref b], []⟩ >>= _) _ _ s
  refine wpAny_bind ?_
  unfold Builtin.Dict.dictSlotArgs
  refine wpAny_bind (wpAny_notOrdered_dict da.typeIs ?_)
  show wpAny _ _ (pure (Value.ref a, Value.ref b)) _ _ s
  refine wpAny_pure ?_
  refine wpAny_bind (wpAny_isInstance (T := "dict") db.typeIs PySem.F.sub_dict_dict ?_)
  simp only [Bool.not_true, Bool.false_eq_true, if_false]
  refine wpAny_bind (wpAny_pure (wpAny_bind (wpAny_pure ?_)))
  refine wpAny_bind (samePairsH (A := A.in1) ha hb hu da db pa pb ?_)
  refine wpAny_pure ⟨_, rfl, ?_, ?_⟩
  · exact fun x => nomatch x
  · simpa using h
end
end Mine
end PartM3

section PartM4
open PySem PySem.W PySem.Calls PyProof.Rows
set_option Elab.async false
namespace Mine

noncomputable def cmpD : CmpOp → D → D → Option Bool
  | .Lt, .int a, .int b => some (decide (a < b))
  | .Gt, .int a, .int b => some (decide (b < a))
  | .Eq, .int a, .int b => some (a == b)
  | .NotEq, .int a, .int b => some (a != b)
  | .NotEq, .byt a, .byt b => some (a != b)
  | .NotEq, .dict a, .dict b => some (!dictEq a b)
  | _, _, _ => none

section
variable {prog : Program} {w : World} {A : Around} {E : Value → Shared → Prop} {s : Shared} {W : List Addr}

theorem byt_inj : ∀ {a b : List Nat}, (∀ x ∈ a, x < 256) → (∀ x ∈ b, x < 256) → ((a.map UInt8.ofNat) == (b.map UInt8.ofNat)) = (a == b)
  | [], [], _, _ => rfl
  | [], _ :: _, _, _ => rfl
  | _ :: _, [], _, _ => rfl
  | x :: a, y :: b, ha, hb => by
    have ih := byt_inj (a := a) (b := b) (fun z h => ha z (.tail _ h)) fun z h => hb z (.tail _ h)
    have hx := ha x (.head _); have hy := hb y (.head _)
    simp only [List.map_cons, List.cons_beq_cons, ih]
    congr 1
    by_cases e : x = y
    · subst e; simp
    · have : UInt8.ofNat x ≠ UInt8.ofNat y := fun q => e (by
        have := congrArg UInt8.toNat q
        simp only [UInt8.toNat_ofNat'] at this
        omega)
      rw [beq_eq_false_iff_ne.mpr this, beq_eq_false_iff_ne.mpr e]

/-- what a comparison gives -/
theorem cmp_ok {op : CmpOp} {a b : Value} {da db : D} {r : Bool} {Q : Value → Shared → Prop} (hu : A.units + 1 < cLine) (ha : DB prog w W s.heap a da) (hb : DB prog w W s.heap b db) (e : cmpD op da db = some r)
    (hQ : Q (.bool r) s) : wpAny (model prog w) A (compareOp op a b) Q E s := by
  unfold cmpD at e
  split at e
  · cases e
    obtain ⟨t, rfl⟩ := ha; obtain ⟨u, rfl⟩ := hb
    exact PyProof.Rows.lt_int hQ
  · cases e
    obtain ⟨t, rfl⟩ := ha; obtain ⟨u, rfl⟩ := hb
    exact PyProof.Rows.gt_int hQ
  · cases e
    obtain ⟨t, rfl⟩ := ha; obtain ⟨u, rfl⟩ := hb
    exact PyProof.Rows.eq_int hQ
  · cases e
    obtain ⟨t, rfl⟩ := ha; obtain ⟨u, rfl⟩ := hb
    exact PyProof.Rows.ne_int hQ
  · cases e
    obtain ⟨⟨t, rfl⟩, h1⟩ := ha; obtain ⟨⟨u, rfl⟩, h2⟩ := hb
    refine PySem.W.ne_bytes ?_
    simp only [bne] at hQ ⊢
    rw [byt_inj h1 h2]
    exact hQ
  · cases e
    obtain ⟨x, rfl, _, lx, hx⟩ := ha; obtain ⟨y, rfl, _, ly, hy⟩ := hb
    exact ne_dictH lx ly hu hx hy hQ
  · cases e

noncomputable def itemD : D → D → Option D
  | .byt b, .int i => if 0 ≤ i ∧ b.length ≤ 1000 then (b[i.toNat]?).map fun (x : Nat) => D.int x else none
  | .key k, .int i => if 0 ≤ i ∧ k.length ≤ 1000 then (k[i.toNat]?).map kiD else none
  | .list l, .int i => if 0 ≤ i ∧ l.length ≤ 1000 then (l[i.toNat]?).map itD else none
  | _, _ => none

theorem items_get {ks : Key} {vs : List Value} (h : ItemsAre (kiKind prog w) ks vs) : ∀ {i : Nat} {k : KI}, ks[i]? = some k → ∃ v, vs[i]? = some v ∧ kiIs k v = true := by
  induction h with
  | nil => intro i k e; simp at e
  | cons h1 _ ih =>
    intro i k e
    cases i with
    | zero => simp at e; subst e; exact ⟨_, rfl, h1⟩
    | succ i => simp at e; obtain ⟨v, e1, e2⟩ := ih e; exact ⟨v, by simpa using e1, e2⟩

theorem subs_int {o : Value} {value : Expr} {c k pos} {i : Value} : subscripted (.Constant c k pos) false o i = operate [o, i] (getItem o i) := rfl

/-- the subscript by an int -/
theorem item_ok {value slice : Expr} {o i : Value} {d j r : D} (ho : DB prog w W s.heap o d) (hi : DB prog w W s.heap i j) (e : itemD d j = some r)
    (hs : ∀ o i, subscripted slice false o i = operate [o, i] (getItem o i)) : Gv prog w A W s (subscriptTail value slice o i) r := by
  unfold itemD at e
  split at e
  · split at e
    · rename_i b i hb
      obtain ⟨⟨t, rfl⟩, h1⟩ := ho; obtain ⟨u, rfl⟩ := hi
      obtain ⟨x, hx, rfl⟩ := Option.map_eq_some_iff.mp e
      have hlt : i.toNat < b.length := (List.getElem?_eq_some_iff.mp hx).1
      intro Q E h
      refine tail_any (typeIs_bytes s _ t) FB.slot_bytes_getitem.lookup (PySem.W.getItem_bytes (by rw [List.length_map]; omega) hb.1 (by rw [List.length_map]; omega) ?_) (hs _ _)
      have e1 : ((b.map UInt8.ofNat).getD i.toNat 0).toNat = x := by
        rw [List.getD_eq_getElem?_getD, List.getElem?_map, hx]
        have := h1 x (List.mem_of_getElem? hx)
        simp only [Option.map_some, Option.getD_some, UInt8.toNat_ofNat']
        omega
      rw [e1]
      exact h _ s.heap _ (Ext.refl _ _) ⟨_, rfl⟩
    · cases e
  · split at e
    · rename_i ks i hb
      obtain ⟨a, rfl, na, o, items, n, hg, hc, hd, hit⟩ := ho; obtain ⟨u, rfl⟩ := hi
      obtain ⟨x, hx, rfl⟩ := Option.map_eq_some_iff.mp e
      obtain ⟨v, hv, hk⟩ := items_get hit hx
      have hlt : i.toNat < items.toList.length := (List.getElem?_eq_some_iff.mp hv).1
      rw [Array.length_toList] at hlt
      have hz : ks.length = items.size := (hit.length).trans (Array.length_toList)
      intro Q E h
      have ht : IsTup s.heap a items := ⟨_, hg, hc, n, hd⟩
      refine tail_any (⟨_, hg, hc⟩ : s.TypeIs (.ref a) "tuple") PySem.F.slot_tuple_getitem.lookup (PyProof.Rows.getItem_tuple ht (j := i.toNat) (x := v) (by omega) (by have := hb.1; have := hb.2; omega) ?_ (by simpa using hv) ?_) (hs _ _)
      · have hn : ¬ i < 0 := by omega
        unfold seqIndex?
        simp only [hn, if_false]
        rw [if_pos (by simp; omega)]
      · exact h _ s.heap _ (Ext.refl _ _) (kiD_ok hk)
    · cases e
  · split at e
    · rename_i l i hb
      obtain ⟨a, rfl, na, vs, hl, hp⟩ := ho; obtain ⟨u, rfl⟩ := hi
      obtain ⟨x, hx, rfl⟩ := Option.map_eq_some_iff.mp e
      obtain ⟨v, hv, hk⟩ := paired_get hp hx
      have hlt : i.toNat < l.length := (List.getElem?_eq_some_iff.mp hx).1
      intro Q E h
      refine tail_any (hl.isList.typeIs (s := s)) slot_list_getitem.lookup (wpAny_getItem_list hl.isList hb.1 (by omega) (by simpa using hv) ?_) (hs _ _)
      exact h _ s.heap _ (Ext.refl _ _) (itD_ok hk)
    · cases e
  · cases e
end
end Mine
end PartM4

section PartM5
open PySem PySem.W PySem.Calls PyProof.Rows
set_option Elab.async false
namespace Mine
section
variable {prog : Program} {w : World} {A : Around} {E : Value → Shared → Prop} {s : Shared} {W : List Addr}

/-! ## tuples -/
noncomputable def tupD : List D → Option D
  | [.key k, .int n] => some (.pair k n)
  | l => if l.length ≤ 1000 then (l.mapM dKi).map .key else none

theorem itemsAre_of {h : Heap} : ∀ {vs : List Value} {ds : List D} {ks : List KI}, Paired (DB prog w W h) vs ds → ds.mapM dKi = some ks → ItemsAre (kiKind prog w) ks vs
  | [], [], ks, .nil, e => by
    rw [List.mapM_nil] at e
    cases e; exact .nil
  | v :: vs, d :: ds, ks, .cons hd ht, e => by
    rw [List.mapM_cons] at e
    cases e1 : dKi d with
    | none => rw [e1] at e; cases e
    | some k =>
      cases e2 : ds.mapM dKi with
      | none => rw [e1, e2] at e; cases e
      | some ks' =>
        rw [e1, e2] at e
        cases e
        exact .cons (dKi_ok e1 hd) (itemsAre_of ht e2)

theorem newTup_ok {vs : List Value} {ds : List D} {d : D} (hW : ∀ a ∈ W, a < s.heap.objs.size) (h : Paired (DB prog w W s.heap) vs ds) (e : tupD ds = some d) : Gv prog w A W s (newTuple vs) d := by
  have ln := h.length
  unfold tupD at e
  split at e
  · cases e
    rename_i k n
    cases h with
    | cons h1 t =>
      cases t with
      | cons h2 t =>
        cases t
        obtain ⟨a, rfl, hk⟩ := h1
        obtain ⟨t, rfl⟩ := h2
        intro Q E hQ
        refine wpAny_newObj_type (hQ _ _ _ (Ext.push _ _ _) ?_) (by show _ ≤ sizeLine; rw [line_is]; simp)
        exact ⟨_, a, t, rfl, fresh_off hW, Heap.get?_push_size _ rfl, hk.up (Ext.push _ _ _)⟩
  · split at e
    · rename_i hz
      obtain ⟨ks, hk, rfl⟩ := Option.map_eq_some_iff.mp e
      have hi := itemsAre_of h hk
      intro Q E hQ
      refine wpAny_newObj_type (hQ _ _ _ (Ext.push _ _ _) ?_) (by show _ ≤ sizeLine; rw [line_is, List.size_toArray]; omega)
      exact ⟨_, rfl, fresh_off hW, _, vs.toArray, 0, Heap.get?_push_size _ rfl, rfl, rfl, by simpa using hi⟩
    · cases e

theorem newList_ok {vs : List Value} {l : List It} (hW : ∀ a ∈ W, a < s.heap.objs.size) (h : Paired (ItB prog w W s.heap) vs l) (hz : l.length ≤ 1000) : Gv prog w A W s (newList vs) (.list l) := by
  have ln := h.length
  intro Q E hQ
  refine wpAny_newObj_type (hQ _ _ _ (Ext.push _ _ _) ⟨_, rfl, fresh_off hW, listB_new (by simpa using h)⟩) (by show _ ≤ sizeLine; rw [line_is, List.size_toArray]; omega)

/-! ## slices -/
theorem items_take {ks : Key} {vs : List Value} (h : ItemsAre (kiKind prog w) ks vs) : ∀ n : Nat, ItemsAre (kiKind prog w) (ks.take n) (vs.take n) := by
  induction h with
  | nil => intro n; simp only [List.take_nil]; exact .nil
  | cons h1 _ ih =>
    intro n
    cases n with
    | zero => exact .nil
    | succ n => simp only [List.take_succ_cons]; exact .cons h1 (ih n)

theorem sliceApplied3 {sl : Addr} {u : Tok} {Q : Int × Int × Nat → Shared → Prop} (hs : s.heap.IsSliceOf sl .none (.int 3 u) .none) (h : Q ((0 : Int), 1, 3) s) :
    wpAny (model prog w) A (Builtin.Slice.sliceApplied (.ref sl) (pure (4 : Int))) Q E s := by
  obtain ⟨os, hos, hcs, hds⟩ := id hs
  unfold Builtin.Slice.sliceApplied Builtin.Slice.sliceFields
  refine wpAny_bind (wpAny_bind (wpAny_field hos hds (x := .none) rfl (wpAny_bind (wpAny_field hos hds (x := .int 3 u) rfl (wpAny_bind (wpAny_field hos hds (x := .none) rfl (wpAny_pure ?_)))))))
  refine wpAny_bind (slicePart_none ?_)
  show wpAny _ _ (if ((1 : Int) == 0) = true then _ else _) _ _ s
  rw [if_neg (by decide)]
  refine wpAny_bind (slicePart_none (wpAny_bind (slicePart_int (wpAny_bind (wpAny_pure ?_)))))
  exact wpAny_pure h

theorem key_upto3 {t sl : Addr} {u : Tok} {k : Key} {Q : Value → Shared → Prop} (hW : ∀ a ∈ W, a < s.heap.objs.size) (ht : KeyB prog w W s.heap t k) (hk4 : k.length = 4) (hs : s.heap.IsSliceOf sl .none (.int 3 u) .none)
    (h : ∀ h' a, Ext [] s.heap h' → KeyB prog w W h' a (k.take 3) → Q (.ref a) { s with heap := h' }) : wpAny (model prog w) A (getItem (.ref t) (.ref sl)) Q E s := by
  obtain ⟨nt, o, items, n, hg, hc, hd, hit⟩ := ht
  obtain ⟨os, hos, hcs, hds⟩ := id hs
  have hTs : s.TypeIs (.ref sl) "slice" := ⟨os, hos, hcs⟩
  have ht : IsTup s.heap t items := ⟨_, hg, hc, n, hd⟩
  have hsz : items.size = 4 := by rw [← hk4, hit.length]; exact Array.length_toList.symm
  unfold getItem
  try with_reducible refine wpAny_holding ?_
  first | refine wpAny_bind (wpAny_pure ?_) | skip
  refine wpAny_bind (wpAny_sequenceKey ht.typeIs (by decide) ?_)
  refine wpAny_bind (wpAny_callSpecial?_slot (name := Str.ofString "__getitem__") ht.typeIs slot_tuple_getitem
    (wpAny_call_entry slot_tuple_getitem ht.typeIs entry_tuple_getitem ?_ (args_tuple_getitem _ _)))
  show wpAny _ _ (Builtin.Tuple.tupleItemsOf (.ref t) >>= _) _ _ s
  refine wpAny_bind (tupleItemsOf_ ht ?_)
  refine wpAny_bind (wpAny_typeOf hTs ?_)
  rw [if_pos (by decide), hsz]
  refine wpAny_bind (sliceApplied3 hs ?_)
  show wpAny _ _ (if ((0 : Int) == 0 && (1 : Int) == 1 && (3 : Nat) == 4) = true then _ else _) _ _ s
  rw [if_neg (by decide)]
  have e3 : (List.filterMap (fun (k : Nat) => items[((0 : Int) + (k : Int) * 1).toNat]?) (List.range 3)).toArray = (items.toList.take 3).toArray := by
    have e : (fun (k : Nat) => items[((0 : Int) + (k : Int) * 1).toNat]?) = fun k => items[0 + k]? := by
      funext k
      have : ((0 : Int) + (k : Int) * 1).toNat = 0 + k := by omega
      rw [this]
    rw [e]
    have := pick_run items 0 3
    rw [List.filterMap_map] at this
    have e2 : ((fun x => items[x]?) ∘ fun x => 0 + x) = fun k => items[0 + k]? := rfl
    rw [e2] at this
    rw [this, List.drop_zero]
  rw [e3]
  refine wpAny_bind (m := Builtin.Tuple.tupleExact _) (wpAny_newObj_type (wpAny_pure ⟨_, rfl, wpAny_pure (h _ _ (Ext.push _ _ _) ⟨fresh_off hW, _, _, 0, Heap.get?_push_size _ rfl, rfl, rfl, ?_⟩)⟩) ?_)
  · show ItemsAre (kiKind prog w) (k.take 3) (items.toList.take 3)
    exact items_take hit 3
  · show _ ≤ sizeLine
    rw [line_is, List.size_toArray, List.length_take]
    omega

theorem newSlice {vl vu vk : Value} {Q : Value → Shared → Prop} (h : Q (.ref s.heap.objs.size) { s with heap := s.heap.push { cls := .type "slice", data := .fields #[vl, vu, vk] } }) :
    wpAny (model prog w) A (newFields "slice" [vl, vu, vk]) Q E s := wpAny_newObj_type h (by show _ ≤ sizeLine + 2; rw [line_is]; simp)

/-- x[:3] -/
theorem upto3_ok {value : Expr} {env : Env} {o : Value} {k : Key} {kc : Nat} {kp p : Pos} {ops : List Value} (hW : ∀ a ∈ W, a < s.heap.objs.size) (ho : DB prog w W s.heap o (.key k)) (hk4 : k.length = 4)
    (Q : Value → Shared → Prop) (E : Value → Shared → Prop) (hQ : ∀ v h' tk, Ext [] s.heap h' → DB prog w W h' v (.key (k.take 3)) → Q v { s with heap := h', toks := tk }) :
    wpAny (model prog w) A (eval (.Slice none (some (.Constant (.int 3) kc kp)) none p) env) (fun i s₂ => wpAny (model prog w) A (subscriptTail value (.Slice none (some (.Constant (.int 3) kc kp)) none p) o i) Q E s₂) E s := by
  obtain ⟨t, rfl, nt, hk⟩ := ho
  have e0 : eval (.Slice none (some (.Constant (.int 3) kc kp)) none p) env = (do
    let l ← (pure Value.none : Sem Value)
    let u ← holding [l] (eval (.Constant (.int 3) kc kp) env)
    let s ← holding [l, u] (pure Value.none)
    newFields "slice" [l, u, s]) := rfl
  rw [e0]
  refine wpAny_bind (wpAny_pure (wpAny_bind (wpAny_holding (wpAny_Constant_int ?_))))
  refine wpAny_bind (wpAny_holding (wpAny_pure ?_))
  refine newSlice ?_
  have hT : (IsTup (s.heap.push { cls := .type "slice", data := .fields #[.none, .int 3 s.toks, .none] }) t) = _ := rfl
  obtain ⟨o, items, n, hg, hc, hd, hit⟩ := hk
  refine tail_any (T := "tuple") ⟨_, Heap.get?_push_of_some _ hg, hc⟩ PySem.F.slot_tuple_getitem.lookup (key_upto3 (W := W) (k := k) (fun a ha => by
    show a < (s.heap.push _).objs.size
    rw [Heap.size_push]; exact Nat.lt_succ_of_lt (hW a ha)) ⟨nt, o, items, n, Heap.get?_push_of_some _ hg, hc, hd, hit⟩ hk4 (Heap.IsSliceOf.new ..) fun h' a he hb => ?_) rfl
  exact hQ _ h' _ (fun b o' nb e => he b o' nb (Heap.get?_push_of_some _ e)) ⟨a, rfl, hb⟩

/-- x[::-1] -/
theorem rev_ok {value : Expr} {env : Env} {o : Value} {l : List It} {kc : Nat} {kp up p : Pos} (hW : ∀ a ∈ W, a < s.heap.objs.size) (ho : DB prog w W s.heap o (.list l)) (hz : l.length ≤ 1000)
    (Q : Value → Shared → Prop) (E : Value → Shared → Prop) (hQ : ∀ v h' tk, Ext [] s.heap h' → DB prog w W h' v (.list l.reverse) → Q v { s with heap := h', toks := tk }) :
    wpAny (model prog w) A (eval (.Slice none none (some (.UnaryOp .USub (.Constant (.int 1) kc kp) up)) p) env)
      (fun i s₂ => wpAny (model prog w) A (subscriptTail value (.Slice none none (some (.UnaryOp .USub (.Constant (.int 1) kc kp) up)) p) o i) Q E s₂) E s := by
  obtain ⟨a, rfl, na, vs, hl, hp⟩ := ho
  have e0 : eval (.Slice none none (some (.UnaryOp .USub (.Constant (.int 1) kc kp) up)) p) env = (do
    let l ← (pure Value.none : Sem Value)
    let u ← holding [l] (pure Value.none)
    let s ← holding [l, u] (eval (.UnaryOp .USub (.Constant (.int 1) kc kp) up) env)
    newFields "slice" [l, u, s]) := rfl
  have ln : vs.size = l.length := by rw [← hp.length]; simp
  rw [e0]
  refine wpAny_bind (wpAny_pure (wpAny_bind (wpAny_holding (wpAny_pure ?_))))
  refine wpAny_bind (wpAny_holding (wpAny_UnaryOp (wpAny_Constant_int (PyProof.Rows.neg_int ?_))))
  refine newSlice ?_
  refine tail_any (T := "list") (Heap.IsList.typeIs (s := { s with heap := s.heap.push _, toks := _ }) (hl.isList.push _)) list_getitem_lookup
    (wpAny_getItem_list_slice (hl.isList.push _) (Heap.IsSliceOf.new ..) .none .none (IsPart.int _ _) (by decide) ?_ (by rw [line_is]; omega)) rfl
  rw [krv_pick]
  refine hQ _ _ _ (fun b o' nb e => Heap.get?_push_of_some _ (Heap.get?_push_of_some _ e)) ⟨_, rfl, fresh_off fun b hb => ?_, listB_new ?_⟩
  · show b < (s.heap.push _).objs.size
    rw [Heap.size_push]; exact Nat.lt_succ_of_lt (hW b hb)
  · have rv : ∀ {l : List Value} {m : List It}, Paired (ItB prog w W s.heap) l m → Paired (ItB prog w W s.heap) l.reverse m.reverse := by
      intro l m h
      induction h with
      | nil => exact .nil
      | cons h1 _ ih => rw [List.reverse_cons, List.reverse_cons]; exact paired_append ih (.cons h1 .nil)
    exact (rv hp).mono fun _ _ q => q.up (Ext.push _ _ _)
end
end Mine
end PartM5

section PartM6
open PySem PySem.W PySem.Calls PyProof.Rows
set_option Elab.async false
namespace Mine
section
variable {prog : Program} {w : World} {A : Around} {E : Value → Shared → Prop} {s : Shared} {W : List Addr}

/-! ## built-ins of one argument -/
theorem len_byt_ok {b : List Nat} {v : Value} (hv : DB prog w W s.heap v (.byt b)) (hz : b.length ≤ 1000) : Gv prog w A W s (call (.builtin "len") [v]) (.int b.length) := by
  obtain ⟨⟨t, rfl⟩, _⟩ := hv
  intro Q E hQ
  refine PySem.W.len_bytes (by rw [List.size_toArray, List.length_map]; omega) ?_
  rw [show (((b.map UInt8.ofNat).toArray.size : Nat) : Int) = (b.length : Int) by simp]
  exact hQ _ s.heap _ (Ext.refl _ _) ⟨_, rfl⟩
theorem len_list_ok {l : List It} {v : Value} (hv : DB prog w W s.heap v (.list l)) (hz : l.length ≤ 1000) : Gv prog w A W s (call (.builtin "len") [v]) (.int l.length) := by
  obtain ⟨a, rfl, _, vs, hl, hp⟩ := hv
  have ln : vs.size = l.length := by rw [← hp.length]; simp
  intro Q E hQ
  refine Calls.call_len_list hl.isList (by omega) ?_
  rw [ln]
  exact hQ _ s.heap _ (Ext.refl _ _) ⟨_, rfl⟩

noncomputable def intsOf (l : List It) : Option (List Int) := l.mapM fun | .int n => some n | _ => none
theorem intsAre_of {h : Heap} : ∀ {vs : List Value} {l : List It} {ns : List Int}, Paired (ItB prog w W h) vs l → intsOf l = some ns → IntsAre vs ns
  | [], [], ns, .nil, e => by
    unfold intsOf at e
    rw [List.mapM_nil] at e
    cases e; exact .nil
  | v :: vs, i :: l, ns, .cons hd ht, e => by
    unfold intsOf at e
    rw [List.mapM_cons] at e
    cases i with
    | int n =>
      simp only [Option.pure_def, Option.bind_eq_bind, Option.bind_some] at e
      cases e2 : intsOf l with
      | none => unfold intsOf at e2; rw [e2] at e; cases e
      | some ms =>
        have e3 := e2
        unfold intsOf at e2
        rw [e2] at e
        cases e
        obtain ⟨t, rfl⟩ := hd
        exact .cons n t (intsAre_of ht e3)
    | byt b => simp at e
    | pair k n => simp at e
theorem intsAre_it {h : Heap} : ∀ {vs : List Value} {ns : List Int}, IntsAre vs ns → Paired (ItB prog w W h) vs (ns.map It.int)
  | _, _, .nil => .nil
  | _, _, .cons n t r => .cons ⟨t, rfl⟩ (intsAre_it r)
theorem intsOf_length : ∀ {l : List It} {ns : List Int}, intsOf l = some ns → ns.length = l.length := by
  intro l
  unfold intsOf
  induction l with
  | nil => intro ns e; rw [List.mapM_nil] at e; cases e; rfl
  | cons i l ih =>
    intro ns e
    rw [List.mapM_cons] at e
    cases i with
    | int n =>
      simp only [Option.pure_def, Option.bind_eq_bind, Option.bind_some] at e
      obtain ⟨ms, e1, e2⟩ := Option.bind_eq_some_iff.mp e
      cases e2
      simp [ih e1]
    | byt b => simp at e
    | pair k n => simp at e

theorem sum_ok {l : List It} {ns : List Int} {v : Value} (hh : A.handled = none) (hv : DB prog w W s.heap v (.list l)) (e : intsOf l = some ns) : Gv prog w A W s (call (.builtin "sum") [v]) (.int ns.sum) := by
  obtain ⟨a, rfl, _, vs, hl, hp⟩ := hv
  have hi := intsAre_of hp e
  intro Q E hQ
  obtain ⟨xs, hx⟩ := hi.allInts.items
  have hx' : vs = intItems xs := by rw [← hx]
  subst hx'
  refine sum_intListG hh hl.isList fun h' tk t' hk => ?_
  have e1 : preSum (numAt xs) xs.size = ns.sum := by
    rw [preSum_eq, List.take_of_length_le (by simp), ← nums_intItems, hi.numsOf]
  rw [e1]
  exact hQ _ h' tk (Ext.of_keeps hk) ⟨_, rfl⟩

theorem isi_int_tuple {n : Int} {v : Value} (hv : DB prog w W s.heap v (.int n)) : Gv prog w A W s (call (.builtin "isinstance") [v, .type "tuple"]) (.bool false) := by
  obtain ⟨t, rfl⟩ := hv
  intro Q E hQ
  exact IsiPair.int_tuple (hQ _ s.heap _ (Ext.refl _ _) rfl)

noncomputable def inByte (n : Int) : Bool := decide (0 ≤ n ∧ n < 256)
theorem bytes_list_ok {l : List It} {ns : List Int} {v : Value} (hh : A.handled = none) (hv : DB prog w W s.heap v (.list l)) (e : intsOf l = some ns) (hr : ns.all inByte = true) (hz : l.length ≤ 1000) :
    Gv prog w A W s (call (.type "bytes") [v]) (.byt (ns.map Int.toNat)) := by
  obtain ⟨a, rfl, _, vs, hl, hp⟩ := hv
  have hi := intsAre_of hp e
  have hr' : ∀ n ∈ ns, 0 ≤ n ∧ n < 256 := fun n hn => of_decide_eq_true (List.all_eq_true.mp hr n hn)
  intro Q E hQ
  refine call_bytes_ints (vs := vs.toList) (ns := ns) (by simpa using hl.isList) hi hr' (by rw [line_is, hp.length]; omega) hh fun h' t k hk => ?_
  refine hQ _ h' k (Ext.of_keeps hk) ⟨⟨t, ?_⟩, fun x hx => ?_⟩
  · unfold byteArr; rw [List.map_map]; rfl
  · obtain ⟨n, hn, rfl⟩ := List.mem_map.mp hx
    have := hr' n hn
    omega
end
end Mine
end PartM6

section PartM7
open PySem PySem.W PySem.Calls PyProof.Rows
set_option Elab.async false
namespace Mine
section
variable {prog : Program} {w : World} {A : Around} {E : Value → Shared → Prop} {s : Shared} {W : List Addr}
set_option maxRecDepth 100000

theorem extend_bytes {R : Result → Shared → Prop} (hh : A.handled = none) (b : Array UInt8) (t : Tok) (S : Addr) (res : Value) (c₀ : Nat) (hS : s.heap.get? S = some { cls := .type "list", data := .seq #[] c₀ })
    (hR : ∀ h' tk acc' c', (∀ a o, a ≠ S → s.heap.get? a = some o → h'.get? a = some o) → h'.get? S = some { cls := .type "list", dict := none, data := .seq acc' c', slots := #[] } →
      ItemsOf (fun i v => ∃ c u, b[i]? = some c ∧ v = .int (c.toNat : Int) u) acc' b.size → R (.ok (.ret res)) { s with heap := h', toks := tk }) (hn : b.size ≤ sizeLine) :
    wpAny (model prog w) A.in1 (Builtin.List.listExtendWith (.ref S) (.bytes b t) res)
      (fun fin s' => match fin with | .done f => R (.ok f) s' | .again c' => c'.quiet = true ∧ codeAny (model prog w) A c' R s') (fun e s' => R (.error e) s') s := by
  have hSI : S ≠ s.heap.objs.size := Nat.ne_of_lt (Heap.lt_size hS)
  have hSf : S ∉ [s.heap.objs.size] := fun hm => hSI (List.mem_singleton.mp hm)
  unfold Builtin.List.listExtendWith
  refine wpAny_bind (wpAny_typeOf (T := "bytes") (v := .bytes b t) rfl ?_)
  have h1 : Builtin.List.listSameRef (.ref S) (.bytes b t) = false := rfl
  have h2 : (Value.type "bytes" == Value.type "list") = false := by decide
  have h3 : (Value.type "bytes" == Value.type "tuple") = false := by decide
  simp only [h1, h2, h3, Bool.or_false, Bool.false_eq_true, if_false]
  refine wpAny_bind (KBw.pyIter_bytes ?_)
  refine wpAny_bind (wpAny_holding ?_)
  unfold Builtin.List.listLengthHint
  refine wpAny_bind (wpAny_specialOf (T := "bytes") (v := .bytes b t) rfl FB.slot_bytes_len.lookup ?_)
  wp_delta
  refine wpAny_bind (wpAny_isInstance (T := "bytes") (v := .bytes b t) (b := true) rfl (by rw [isSubtype_type]; kernel_rfl) ?_)
  show wpAny _ _ (typeOf (Value.bytes b t) >>= _) _ _ _
  refine wpAny_bind (wpAny_typeOf (T := "bytes") (v := .bytes b t) rfl ?_)
  refine wpAny_pure ?_
  rw [if_neg (by decide)]
  refine wpAny_pure ⟨plainId_quiet F.plain_extend_loop _, codeAny_extend_loopS (KBw.walks (prog := prog) (w := w) (A := A.in1) hh s.heap.objs.size b t).toS hn _ hSf _ b.size 0 _ _ _ rfl (Nat.zero_le _) ⟨_, Heap.get?_push_size _ rfl, rfl, rfl⟩ (Heap.get?_push_of_some _ hS) (ItemsOf.nil _) fun s' acc' c' hm hS' hacc => ?_⟩
  rw [Moved.eq_with hm]
  refine hR s'.heap s'.toks acc' c' (fun b ob hb e => hm.heap b ob (fun hmem => ?_) (Heap.get?_push_of_some _ e)) hS' hacc
  rcases List.mem_cons.mp hmem with e' | hmem
  · exact hb e'
  · exact absurd (Heap.lt_size e) (by rw [List.mem_singleton.mp hmem]; exact Nat.lt_irrefl _)

theorem list_init_bytes {R : Result → Shared → Prop} (hh : A.handled = none) (b : Array UInt8) (t : Tok) (S : Addr) (hS : s.heap.get? S = some { cls := .type "list", data := .seq #[] })
    (hR : ∀ h' tk acc' c', (∀ b o, b ≠ S → s.heap.get? b = some o → h'.get? b = some o) → h'.get? S = some { cls := .type "list", dict := none, data := .seq acc' c', slots := #[] } →
      ItemsOf (fun i v => ∃ c u, b[i]? = some c ∧ v = .int (c.toNat : Int) u) acc' b.size → R (.ok (.ret .none)) { s with heap := h', toks := tk }) (hn : b.size ≤ sizeLine) :
    wpAny (model prog w) A.in1 (Builtin.«list.__init__» ⟨[.ref S, .bytes b t], []⟩)
      (fun fin s' => match fin with | .done f => R (.ok f) s' | .again c' => c'.quiet = true ∧ codeAny (model prog w) A c' R s') (fun e s' => R (.error e) s') s := by
  show wpAny _ _ (do let old ← Builtin.List.listItems (.ref S); Builtin.List.listUpdate (.ref S) (fun _ => #[]); letGo old.toList.reverse; Builtin.List.listExtendWith (.ref S) (.bytes b t) .none) _ _ s
  refine wpAny_bind ?_
  unfold Builtin.List.listItems
  refine wpAny_bind (wpAny_seqItems hS rfl (wpAny_pure ?_))
  show wpAny _ _ (updateSeq S (fun _ => #[]) >>= fun _ => letGo (#[] : Array Value).toList.reverse >>= fun _ => Builtin.List.listExtendWith (.ref S) (.bytes b t) .none) _ _ s
  refine wpAny_bind (wpAny_updateSeq hS rfl ?_)
  have hS₂ := Heap.get?_update_self (Obj.mapSeq (fun _ => (#[] : Array Value))) hS rfl
  have oth : ∀ b o, b ≠ S → s.heap.get? b = some o → (s.heap.update S (Obj.mapSeq (fun _ => (#[] : Array Value)))).get? b = some o :=
    fun b o hb e => (Heap.get?_update_other _ _ (Ne.symm hb)).trans e
  refine wpAny_bind (wpAny_letGo ?_)
  refine extend_bytes (hn := hn) hh b t S .none _ hS₂ fun h' tk acc' c' hk hS' hacc => ?_
  exact hR h' tk acc' c' (fun b o hb e => hk b o hb (oth b o hb e)) hS' hacc

theorem call_list_bytes {Q : Value → Shared → Prop} (hh : A.handled = none) (b : Array UInt8) (t : Tok)
    (hQ : ∀ h' tk acc' c', (∀ b o, s.heap.get? b = some o → h'.get? b = some o) →
      h'.get? s.heap.objs.size = some { cls := .type "list", dict := none, data := .seq acc' c', slots := #[] } → ItemsOf (fun i v => ∃ c u, b[i]? = some c ∧ v = .int (c.toNat : Int) u) acc' b.size → Q (.ref s.heap.objs.size) { s with heap := h', toks := tk }) (hn : b.size ≤ sizeLine) :
    wpAny (model prog w) A (call (.type "list") [.bytes b t]) Q E s := by
  refine callType_codes (Q₁ := fun obj s₁ => obj = .ref s.heap.objs.size ∧ s₁ = { s with heap := s.heap.push { cls := .type "list", data := .seq #[] } }) PySem.F.called_list (PySem.F.typeCall_list_1 _) PySem.F.entry_list_init
    (code_list_new _ ⟨rfl, rfl⟩) fun obj s₁ h₁ => ?_
  obtain ⟨rfl, rfl⟩ := h₁
  have hS : (s.heap.push { cls := .type "list", data := .seq #[] }).get? s.heap.objs.size = some { cls := .type "list", data := .seq #[] } := Heap.get?_push_size _ rfl
  refine ⟨⟨_, hS, rfl⟩, PySem.F.args_list_init_2 _ _, list_init_bytes (A := A.in1) (hn := hn) hh b t _ hS fun h' tk acc' c' hk hS' hacc => ?_⟩
  exact ⟨rfl, hQ h' tk acc' c' (fun b o e => hk b o (Nat.ne_of_lt (Heap.lt_size e)) (Heap.get?_push_of_some _ e)) hS' hacc⟩

theorem paired_of_get {α β : Type} {F : α → β → Prop} : ∀ {l : List α} {m : List β}, l.length = m.length → (∀ (i : Nat) (x : α) (y : β), l[i]? = some x → m[i]? = some y → F x y) → Paired F l m
  | [], [], _, _ => .nil
  | x :: l, y :: m, e, h => .cons (h 0 x y rfl rfl) (paired_of_get (by simpa using e) fun i a b ha hb => h (i + 1) a b (by simpa using ha) (by simpa using hb))
  | [], _ :: _, e, _ => by simp at e
  | _ :: _, [], e, _ => by simp at e

theorem list_byt_ok {b : List Nat} {v : Value} (hW : ∀ a ∈ W, a < s.heap.objs.size) (hh : A.handled = none) (hv : DB prog w W s.heap v (.byt b)) (hz : b.length ≤ 1000) :
    Gv prog w A W s (call (.type "list") [v]) (.list (b.map fun (n : Nat) => It.int n)) := by
  obtain ⟨⟨t, rfl⟩, hb⟩ := hv
  intro Q E hQ
  refine call_list_bytes hh _ t (fun h' tk acc c hk hS hacc => ?_) (by rw [line_is, List.size_toArray, List.length_map]; omega)
  refine hQ _ h' tk (Ext.of_keeps hk) ⟨_, rfl, fresh_off hW, acc, ⟨c, hS⟩, paired_of_get ?_ fun i x y hx hy => ?_⟩
  · rw [Array.length_toList, hacc.1]; simp
  · obtain ⟨c', u, hc, rfl⟩ := hacc.2 i x (by simpa using hx)
    rw [List.getElem?_map] at hy
    obtain ⟨n, hn, rfl⟩ := Option.map_eq_some_iff.mp hy
    have hc' : (b.map UInt8.ofNat)[i]? = some c' := by simpa using hc
    rw [List.getElem?_map, hn] at hc'
    cases hc'
    have := hb n (List.mem_of_getElem? hn)
    refine ⟨u, ?_⟩
    have e : ((UInt8.ofNat n).toNat : Int) = n := by
      simp only [UInt8.toNat_ofNat']; omega
    rw [e]
end
end Mine
end PartM7

section PartM8
open PySem PySem.W PySem.Calls PyProof.Rows
set_option Elab.async false
namespace Mine
set_option maxRecDepth 100000
theorem entry_dul : entryFor table "dict.update.loop" = some Builtin.«dict.update.loop» := entryFor_of_tree (by kernel_rfl)
theorem plain_dul : plainId "dict.update.loop" = true := by decide +kernel
theorem miss_keys : typeLookup (.type "list") "keys" = pure none := am_miss_of_fast (by decide +kernel)

section
variable {prog : Program} {w : World} {A : Around} {E : Value → Shared → Prop} {s : Shared} {W : List Addr}

theorem getAttrO_keys {a : Addr} {xs : Array Value} {Q : Option Value → Shared → Prop} (hl : s.heap.PlainList a xs) (hA : A.handled = none)
    (hQ : ∀ h' tk, Ext [] s.heap h' → Q none { s with heap := h', toks := tk }) : wpAny (model prog w) A (getAttr? (.ref a) "keys") Q E s := by
  obtain ⟨k, hx⟩ := hl
  obtain ⟨hp, g, d, tk, os⟩ := s
  have hT : ∀ tk', (⟨hp, g, d, tk', os⟩ : Shared).TypeIs (.ref a) "list" := fun _ => ⟨_, hx, rfl⟩
  have f1 := sub_AttributeError
  have f3 := PySem.F.slot_list_getattribute.lookup
  have f4 := PySem.F.slot_list_getattribute.bind (.ref a)
  have f5 := am_list_getattr_none
  unfold getAttr? getAttrBy? getAttrBy
  repeat (any_goals (first | assumption | exact hT _ | ((with_reducible show wpAny _ _ (call (Value.builtin "list.__getattribute__") _ _) _ _ _); refine call_meets PySem.F.slot_list_getattribute (hT _) am_entry_list_getattribute (PySem.F.args_list_getattribute_2 _ _) (meets_getattribute_miss_list a xs k #[] "keys" _ miss_keys (by decide +kernel) (by rw [line_is]; decide +kernel)) ⟨hx, hA, fun h' tk' e hx' => ?_⟩) | wp_step))
  obtain ⟨t', u', he⟩ := hx'.there
  show wpAny _ _ (getattributeRaised _ _ _ _ _ _ _) _ _ _
  unfold getattributeRaised
  repeat (any_goals (first | assumption | wp_step))
  exact hQ h' tk' fun b o _ e' => hx'.keeps b o e'

noncomputable def dictOfL : List (Key × Int) → List It → Option (List (Key × Int))
  | acc, [] => some acc
  | acc, .pair k n :: r => dictOfL (putD acc k n) r
  | _, _ => none

theorem EntB.less {W W' : List Addr} {x : Key × Addr × Value} {p : Key × Int} (h : EntB W' x p) (s : ∀ b ∈ W, b ∈ W') : EntB W x p := ⟨h.1, fun q => h.2.1 (s _ q), h.2.2⟩

theorem dict_loop {R : Result → Shared → Prop} {a I d : Addr} {items : Array Value} {l : List It} (hu : A.units + 1 < cLine) (hh : A.handled = none) (hId : I ≠ d) (haI : a ≠ I) (had : a ≠ d) (hz : l.length ≤ 1000)
    {h₁ : Heap} (hd0 : h₁.get? d = none) (hI0 : h₁.get? I = none) (hl : h₁.PlainList a items) (hp : Paired (ItB prog w W h₁) items.toList l) :
    ∀ (k i : Nat) (j : Int) (h : Heap) (tk : Nat) (acc res : List (Key × Int)) (xs : List (Key × Addr × Value)), l.length - i = k → i ≤ l.length → Ext [I, d] h₁ h → h.IsListIter I a i → h.DictOfH (knd prog w) d xs → Paired (EntB W) xs acc →
      acc.length ≤ i → dictOfL acc (l.drop i) = some res →
      (∀ h' tk' xs', Ext [I, d] h₁ h' → h'.DictOfH (knd prog w) d xs' → Paired (EntB W) xs' res → R (.ok (.ret .none)) { s with heap := h', toks := tk' }) →
      codeAny (model prog w) A (.builtin "dict.update.loop" ⟨[.ref d, .ref I, .int j 0, .none], []⟩) R { s with heap := h, toks := tk } := by
  have ln : items.size = l.length := by rw [← hp.length]; simp
  intro k
  induction k with
  | zero =>
    intro i j h tk acc res xs hk hi he hit hD hpx hacc hres hR
    have hin : i = l.length := by omega
    refine codeAny_builtin entry_dul ?_
    rw [Around.under_plainId plain_dul _]
    show wpAny _ _ (pyNext (.ref I) >>= _) _ _ _
    have hl' : h.IsList a items := (hl.at fun o e => he a o (by simp [haI, had]) e).isList
    refine wpAny_bind (wpAny_pyNext_list_end hh hit hl' (by simp; omega) fun h' he' => ?_)
    show wpAny _ _ (Builtin.Dict.addKeywords d [] >>= _) _ _ _
    refine wpAny_bind (wpAny_pure (wpAny_pure ?_))
    subst hin
    rw [List.drop_length] at hres
    cases hres
    obtain ⟨o, es, ep, hg, hx, hdd, hes, hkk, hn⟩ := hD
    have he2 : Ext [I, d] h h' := fun b o nb e => he' b o (fun q => nb (by simp [q])) e
    refine hR h' tk xs (he.trans he2) ⟨o, es, ep, he' d o (Ne.symm hId) hg, hx, hdd, hes, fun y hy => ?_, hn⟩ hpx
    have hy' := hkk y hy
    refine IsTupleKey.up hy' fun o' e => he' _ o' (fun q => ?_) e
    obtain ⟨o2, it2, n2, hg2, hc2, _⟩ := hy'
    rw [q] at hg2
    obtain ⟨o3, hg3, hc3, _⟩ := hit
    rw [hg3] at hg2
    cases hg2
    rw [hc3] at hc2; injection hc2 with q2; exact absurd q2 (by decide)
  | succ k ih =>
    intro i j h tk acc res xs hk hi he hit hD hpx hacc hres hR
    have hlt : i < l.length := by omega
    refine codeAny_builtin entry_dul ?_
    rw [Around.under_plainId plain_dul _]
    show wpAny _ _ (pyNext (.ref I) >>= _) _ _ _
    have hl' : h.IsList a items := (hl.at fun o e => he a o (by simp [haI, had]) e).isList
    obtain ⟨x, hx⟩ : ∃ x, l[i]? = some x := ⟨_, List.getElem?_eq_getElem hlt⟩
    obtain ⟨v, hv, hb⟩ := paired_get hp hx
    refine wpAny_bind (wpAny_pyNext_list_item hit hl' (x := v) (by simpa using hv) fun h' hit' hs' => ?_)
    have hdrop : l.drop i = x :: l.drop (i + 1) := by
      rw [List.drop_eq_getElem_cons hlt]
      rw [List.getElem?_eq_getElem hlt] at hx
      rw [Option.some.inj hx]
    rw [hdrop] at hres
    cases x with
    | int n => simp [dictOfL] at hres
    | byt b => simp [dictOfL] at hres
    | pair k' n =>
      obtain ⟨pa, ka, t, rfl, npa, hpa, nka, hka⟩ := hb
      have he1 : Ext [I, d] h₁ h' := he.trans (Ext.same hs' (by simp))
      have hpaI : pa ∉ [I, d] := by
        intro q
        rcases List.mem_cons.mp q with q | q
        · rw [q, hI0] at hpa; cases hpa
        · rw [List.mem_singleton.mp q, hd0] at hpa; cases hpa
      have hkaI : ka ∉ [I, d] := by
        obtain ⟨o2, _, _, hg2, _⟩ := hka
        intro q
        rcases List.mem_cons.mp q with q | q
        · rw [q, hI0] at hg2; cases hg2
        · rw [List.mem_singleton.mp q, hd0] at hg2; cases hg2
      have hpa' := he1 pa _ hpaI hpa
      have hka' : IsTupleKey (kiKind prog w) h' k' ka := IsTupleKey.up hka fun o e => he1 ka o hkaI e
      refine wpAny_bind (wpAny_holding (wpAny_bind (wpAny_tryCatch ?_)))
      unfold Builtin.Dict.pairItems
      refine wpAny_bind (wpAny_typeOf (T := "tuple") ⟨_, hpa', rfl⟩ ?_)
      rw [if_pos (by decide)]
      refine wpAny_bind (wpAny_seqItems hpa' rfl ?_)
      refine wpAny_pure ?_
      show wpAny _ _ (holding [.ref ka, .int n t] (dictSet d (.ref ka) (.int n t))) _ _ _
      have hD' : h'.DictOfH (knd prog w) d xs := by
        obtain ⟨o, es, ep, hg, hx, hdd, hes, hkk, hn⟩ := hD
        refine ⟨o, es, ep, hs'.extBut d o (Ne.symm hId) hg, hx, hdd, hes, fun y hy => ?_, hn⟩
        have hy' := hkk y hy
        refine IsTupleKey.up hy' fun o' e => hs'.extBut _ o' (fun q => ?_) e
        obtain ⟨o2, it2, n2, hg2, hc2, _⟩ := hy'
        rw [q] at hg2
        obtain ⟨o3, hg3, hc3, _⟩ := hit
        rw [hg3] at hg2
        cases hg2
        rw [hc3] at hc2; injection hc2 with q2; exact absurd q2 (by decide)
      have hxl : xs.length = acc.length := hpx.length
      refine wpAny_holding (wpAny_dictSet_heap (knd := knd prog w) (s := { s with heap := h', toks := tk }) (k := k') hu hka' hD' (fun h'' hD'' hs'' => ?_) (by rw [line_is]; omega))
      refine wpAny_pure ⟨plainId_quiet plain_dul _, ?_⟩
      have he2 : Ext [I, d] h' h'' := Ext.same hs'' (by simp)
      have hit'' : h''.IsListIter I a (i + 1) := hit'.extBut hs''.extBut hId
      have := ih (i + 1) (j + 1) h'' (tk + (knd prog w).draws k') (putD acc k' n) res (storedH xs k' ka (.int n t)) (by omega) (by omega) (he1.trans he2) hit'' hD'' (put_pair hpx nka)
        (by have := putD_length acc k' n; omega) (by simpa [dictOfL] using hres) hR
      exact this
end
end Mine
end PartM8

section PartM9
open PySem PySem.W PySem.Calls PyProof.Rows
set_option Elab.async false
namespace Mine
set_option maxRecDepth 100000
section
variable {prog : Program} {w : World} {A : Around} {E : Value → Shared → Prop} {s : Shared} {W : List Addr}

theorem dict_list_ok {l : List It} {res : List (Key × Int)} {v : Value} (hW : ∀ a ∈ W, a < s.heap.objs.size) (hsys : sysModules < s.heap.objs.size) (hh : A.handled = none) (hu : A.units + 3 < cLine)
    (hv : DB prog w W s.heap v (.list l)) (e : dictOfL [] l = some res) (hz : l.length ≤ 1000) : Gv prog w A W s (call (.type "dict") [v]) (.dict res) := by
  obtain ⟨a, rfl, na, items, hl, hp⟩ := hv
  intro Q E hQ
  have hal : a < s.heap.objs.size := let ⟨_, h⟩ := hl; Heap.lt_size h
  refine callType_codes (Q₁ := fun obj s₁ => obj = .ref s.heap.objs.size ∧ s₁ = { s with heap := s.heap.push { cls := .type "dict", data := .dict #[] } }) PySem.F.kt_called_dict (PySem.F.kt_typeCall_dict_1 _) PySem.F.entry_dict_init (kt_code_dict_new _ ⟨rfl, rfl⟩) ?_
  rintro obj s₁ ⟨rfl, rfl⟩
  have hnew : (s.heap.push { cls := .type "dict", data := .dict #[] }).DictOfH (knd prog w) s.heap.objs.size [] := Heap.DictOfH.new s.heap
  refine ⟨hnew.typeIs, PySem.F.args_dict_init_2 _ _, ?_⟩
  unfold Builtin.«dict.__init__»
  refine wpAny_bind ?_
  unfold Builtin.Dict.selfAndRest
  refine wpAny_bind (wpAny_notOrdered_dict hnew.typeIs ?_)
  show wpAny _ _ (pure (s.heap.objs.size, [Value.ref a])) _ _ _
  refine wpAny_pure ?_
  show wpAny _ _ (Builtin.Dict.updateFrom "dict.__init__" s.heap.objs.size (.ref a) [] .none) _ _ _
  unfold Builtin.Dict.updateFrom
  have hl1 : (s.heap.push { cls := .type "dict", data := .dict #[] }).PlainList a items := hl.at fun o e => Heap.get?_push_of_some _ e
  refine wpAny_bind (wpAny_typeOf (T := "list") hl1.isList.typeIs ?_)
  rw [if_pos (by decide)]
  refine wpAny_bind (getAttrO_keys hl1 hh fun h2 tk2 he2 => ?_)
  rw [if_pos (by rfl)]
  refine wpAny_bind (wpAny_rule ?_)
  have k2 : ∀ b o, (s.heap.push { cls := .type "dict", data := .dict #[] }).get? b = some o → h2.get? b = some o := fun b o e => he2 b o (by simp) e
  have hl2 : h2.PlainList a items := hl1.at fun o e => k2 a o e
  refine wpAny_bind (wpAny_pyIter_list hl2.isList ?_)
  have hsz2 : s.heap.objs.size < h2.objs.size := by
    have := Heap.lt_size (k2 _ _ (Heap.get?_push_size _ rfl))
    exact this
  have hok : ∀ b o, s.heap.get? b = some o → h2.get? b = some o := fun b o e => k2 b o (Heap.get?_push_of_some _ e)
  have none_at : ∀ c, s.heap.objs.size ≤ c → s.heap.get? c = none := fun c hc => by
    cases q : s.heap.get? c with
    | none => rfl
    | some o => exact absurd (Heap.lt_size q) (Nat.not_lt.mpr hc)
  generalize hd : s.heap.objs.size = d at *
  generalize hI : h2.objs.size = I at *
  have hId : I ≠ d := Nat.ne_of_gt hsz2
  refine wpAny_pure ⟨plainId_quiet plain_dul _, ?_⟩
  refine dict_loop (A := A.in1) (s := s) (h₁ := s.heap) (W := W) (a := a) (I := I) (d := d) (items := items) (l := l) ?_ hh hId (Nat.ne_of_lt (Nat.lt_trans hal hsz2)) (Nat.ne_of_lt hal) hz (none_at _ (Nat.le_refl _)) (none_at _ (Nat.le_of_lt hsz2)) hl hp l.length 0 0 _ _ [] res []
    rfl (Nat.zero_le _) ?_ ?_ ?_ .nil (by simp) (by rw [List.drop_zero]; exact e) ?_
  · show A.units + 1 + 1 < cLine; omega
  · intro b o _ q; exact Heap.get?_push_of_some _ (hok b o q)
  · exact ⟨_, by rw [← hI]; exact Heap.get?_push_size _ rfl, rfl, rfl⟩
  · obtain ⟨o, es, ep, hg, r1, r2, r3, r4, r5⟩ := hnew
    exact ⟨o, es, ep, Heap.get?_push_of_some _ (k2 _ _ hg), r1, r2, r3, (fun y hy => by simp at hy), r5⟩
  · intro h' tk' xs' he' hD' hp'
    refine ⟨rfl, hQ _ h' tk' (fun b o _ q => he' b o ?_ q) ⟨d, rfl, ?_, ?_, xs', hD', hp'⟩⟩
    · have := Heap.lt_size q
      rw [hd] at this
      simp only [List.mem_cons, List.not_mem_nil, or_false]
      rintro (q | q)
      · exact Nat.lt_irrefl _ (Nat.lt_trans (q ▸ this) hsz2)
      · exact Nat.lt_irrefl _ (q ▸ this)
    · intro q; exact Nat.lt_irrefl _ (hW d q)
    · have hne : d ≠ sysModules := Nat.ne_of_gt hsys
      simpa using hne
end
end Mine
end PartM9

section PartN1
open PySem PySem.W PySem.Calls PyProof.Rows
set_option Elab.async false
namespace Mine

/-! ## a small reckoner over the program's own trees -/
inductive Slot where
  | val (d : D) | own (l : List (Key × Int)) | buf (b : List Nat)
noncomputable abbrev Sg := List (Str × Slot)

noncomputable def upd : Sg → Str → Slot → Sg
  | [], x, v => [(x, v)]
  | (y, u) :: r, x, v => if y = x then (x, v) :: r else (y, u) :: upd r x v
noncomputable def getS : Sg → Str → Option Slot
  | [], _ => none
  | (y, u) :: r, x => if x = y then some u else getS r x
theorem getS_upd : ∀ (σ : Sg) (x y : Str) (v : Slot), getS (upd σ x v) y = if y = x then some v else getS σ y
  | [], x, y, v => rfl
  | (z, u) :: r, x, y, v => by
    unfold upd
    by_cases h : z = x
    · subst h
      rw [if_pos rfl]
      show (if y = z then some v else getS r y) = (if y = z then some v else (if y = z then some u else getS r y))
      split <;> rfl
    · rw [if_neg h]
      show (if y = z then some u else getS (upd r x v) y) = (if y = x then some v else (if y = z then some u else getS r y))
      rw [getS_upd r x y v]
      by_cases hy : y = z
      · subst hy; rw [if_pos rfl, if_neg h, if_pos rfl]
      · rw [if_neg hy, if_neg hy]

noncomputable def kindIs (sc : Scope) (x : Str) : Option NameKind := sc.names.lookup x
noncomputable def held (sc : Scope) (σ : Sg) (x : Str) : Option Slot :=
  match kindIs sc x with
  | some .local | some .cell => getS σ x
  | some .free => if x = Str.ofString "__classdict__" then none else getS σ x
  | _ => none
noncomputable def heldOwn (sc : Scope) (σ : Sg) (x : Str) : Option Slot := if kindIs sc x = some .local then getS σ x else none
noncomputable def isGlob (sc : Scope) (x : Str) : Bool := kindIs sc x == some .globalImplicit

structure Lv where
  ev : Scope → Sg → Expr → Option D
  tr : Scope → Sg → Expr → Option Bool
  xs : Scope → Sg → List Stmt → Option (Sg × Option D)

noncomputable def plainE : Expr → Bool
  | .Starred .. => false
  | .ListComp .. | .SetComp .. | .DictComp .. => false
  | .Set .. => false
  | _ => true
noncomputable def starless : Expr → Bool
  | .Starred .. => false
  | _ => true

noncomputable def evList (f : Expr → Option D) : List Expr → Option (List D)
  | [] => some []
  | e :: r => if starless e = true then (match f e with | some d => (match evList f r with | some ds => some (d :: ds) | none => none) | none => none) else none

noncomputable def constD : Const → Option D
  | .int n => some (.int n)
  | .bool b => some (.bool b)
  | .str x => if x = sWrong then some (.str true) else if x = sRow then some (.str false) else none
  | .bytes b => if b.length ≤ 1000 then some (.byt (b.map UInt8.toNat)) else none
  | _ => none

noncomputable def upFrom (a c : Int) : Nat → List D
  | 0 => []
  | n + 1 => .int a :: upFrom (a + c) c n
noncomputable def rangeD : List D → Option (List D)
  | [.int n] => if Builtin.Range.small 0 n 1 = true then some (upFrom 0 1 (Builtin.Range.rangeSize 0 n 1).toNat) else none
  | [.int a, .int b, .int c] => if c ≠ 0 ∧ Builtin.Range.small a b c = true ∧ Builtin.divisionGoesByPylong (b - a) c = false then some (upFrom a c (Builtin.Range.rangeSize a b c).toNat) else none
  | _ => none
noncomputable def isTup : Expr → Bool
  | .Tuple .. => true
  | _ => false
noncomputable def listD : D → Option (List D)
  | .list l => if l.length ≤ 1000 then some (l.map itD) else none
  | _ => none
noncomputable def sRange : Str := Str.ofString "range"
noncomputable def sItems : Str := Str.ofString "items"
noncomputable def sValues : Str := Str.ofString "values"
noncomputable def sLen : Str := Str.ofString "len"
noncomputable def sSum : Str := Str.ofString "sum"
noncomputable def sList : Str := Str.ofString "list"
noncomputable def sBytes : Str := Str.ofString "bytes"
noncomputable def sDict : Str := Str.ofString "dict"
noncomputable def sIsi : Str := Str.ofString "isinstance"
noncomputable def sTuple : Str := Str.ofString "tuple"

noncomputable def iterS (L : Lv) (sc : Scope) (σ : Sg) (t : Expr) : Expr → Option (List D)
  | .Call (.Name f _) args [] _ =>
    if f = sRange ∧ isGlob sc f = true then (match evList (L.ev sc σ) args with | some ds => rangeD ds | none => none) else none
  | .Call (.Attribute (.Name x _) m ap) [] [] cp =>
    if x ≠ Str.ofString "__debug__" ∧ (ap.endLine == cp.line) = true then
    match held sc σ x with
    | some (.val (.dict l)) => if m = sItems then (if isTup t = true then some (l.map fun p => .pair p.1 p.2) else none) else if m = sValues then some (l.map fun p => .int p.2) else none
    | _ => none
    else none
  | .Name x p => match L.ev sc σ (.Name x p) with | some d => listD d | none => none
  | _ => none
noncomputable def callIter (L : Lv) (sc : Scope) (σ : Sg) (t e : Expr) : Option (List D) :=
  match iterS L sc σ t e with
  | some l => some l
  | none => match e with
    | .Call (.Name f p) args [] q => (match L.ev sc σ (.Call (.Name f p) args [] q) with | some d => listD d | none => none)
    | _ => none

noncomputable def primD (f : Str) (ds : List D) : Option D :=
  match ds with
  | [.byt b] => if b.length ≤ 1000 then (if f = sLen then some (.int b.length) else if f = sList then some (.list (b.map fun (n : Nat) => It.int n)) else none) else none
  | [.list l] => if l.length ≤ 1000 then (
      if f = sLen then some (.int l.length)
      else if f = sSum then (intsOf l).map fun ns => .int ns.sum
      else if f = sBytes then (match intsOf l with | some ns => if ns.all inByte = true then some (.byt (ns.map Int.toNat)) else none | none => none)
      else if f = sDict then (dictOfL [] l).map .dict
      else none) else none
  | _ => none

noncomputable def bindT (sc : Scope) (σ : Sg) : Expr → D → Option Sg
  | .Name x _, d => match kindIs sc x with | some .local | some .cell => some (upd σ x (.val d)) | _ => none
  | .Tuple [.Name a _, .Name b _] _ _, .pair k n =>
    match kindIs sc a, kindIs sc b with | some .local, some .local => some (upd (upd σ a (.val (.key k))) b (.val (.int n))) | _, _ => none
  | _, _ => none

noncomputable def locT (sc : Scope) : Expr → Bool
  | .Name x _ => kindIs sc x == some .local
  | .Tuple .. => true
  | _ => false
noncomputable def relS (scope sc : Scope) : Scope :=
  { scope with names := scope.names.map fun (n, k) => if (k == .free && sc.kind == .function && kindIs sc n == some .cell) then (n, .cell) else (n, k) }

noncomputable def testsS (L : Lv) (sc : Scope) (σ : Sg) : List Expr → Option Bool
  | [] => some true
  | c :: r => match L.tr sc σ c with | some true => testsS L sc σ r | some false => (match r with | [] => some false | _ => none) | none => none

noncomputable def compItems (L : Lv) (sc : Scope) (emit : Sg → Option (List It)) (target : Expr) (ifs : List Expr) : List D → Sg → Option (List It)
  | [], _ => some []
  | d :: ds, σ =>
    match bindT sc σ target d with
    | none => none
    | some σ₁ => match testsS L sc σ₁ ifs with
      | some true => (match emit σ₁ with | some l => (match compItems L sc emit target ifs ds σ₁ with | some l' => some (l ++ l') | none => none) | none => none)
      | some false => compItems L sc emit target ifs ds σ₁
      | none => none
noncomputable def emitOne (L : Lv) (sc : Scope) (elt : Expr) (σ : Sg) : Option (List It) :=
  match L.ev sc σ elt with
  | some d => (dIt d).map fun i => [i]
  | none => none
noncomputable def emitTwo (L : Lv) (sc : Scope) (elt : Expr) (j : Str) (jp : Pos) (it2 : Expr) (ifs2 : List Expr) (σ : Sg) : Option (List It) :=
  if locT sc (.Name j jp) = true then match getS σ j with
  | none => (match iterS L sc σ (.Name j jp) it2 with | some items2 => compItems L sc (emitOne L sc elt) (.Name j jp) ifs2 items2 σ | none => none)
  | some _ => none
  else none
noncomputable def compS (L : Lv) (sc : Scope) (σ : Sg) (elt : Expr) (gens : List Comprehension) (scope : Scope) : Option D :=
  let sc' := relS scope sc
  let σ' := σ.filter fun p => !(scope.names.lookup p.1 == some .local)
  if scope.kind = .function ∧ (scope.names.all fun y => y.2 != .cell) = true ∧ (scope.names.all fun y => y.2 != .local || scope.names.lookup y.1 == some .local) = true ∧ (scope.names.all fun y => y.2 != .free || kindIs sc y.1 == some .cell) = true then
  match gens with
  | [⟨t, it, ifs, 0⟩] => if locT sc' t = true then match callIter L sc σ t it with
    | some items => (match compItems L sc' (emitOne L sc' elt) t ifs items σ' with | some l => if l.length ≤ 1000 then some (.list l) else none | none => none)
    | none => none
    else none
  | [⟨t, it, ifs, 0⟩, ⟨.Name j jp, it2, ifs2, 0⟩] => if locT sc' t = true then match iterS L sc σ t it with
    | some items => (match compItems L sc' (emitTwo L sc' elt j jp it2 ifs2) t ifs items σ' with
      | some l => if l.length ≤ 1000 then some (.list l) else none | none => none)
    | none => none
    else none
  | _ => none
  else none

noncomputable def simpleArgs (a : Arguments) : Bool := a.posonlyargs.isEmpty && a.vararg.isNone && a.kwonlyargs.isEmpty && a.kwarg.isNone && a.defaults.isEmpty
noncomputable def zipS : List Str → List D → Sg
  | x :: xs, d :: ds => (x, .val d) :: zipS xs ds
  | _, _ => []
noncomputable def parOk (sc : Scope) (x : Str) : Bool := match kindIs sc x with | some .local | some .cell => true | _ => false
noncomputable def retD : Option (Sg × Option D) → Option D
  | some (_, some d) => some d
  | _ => none
noncomputable def stores : List Stmt → Bool
  | .For _ _ (.Assign [.Subscript _ _ _] _ _ :: _) _ _ :: _ => true
  | _ => false
noncomputable def ownOf : List Stmt → Option (Str × List Stmt)
  | .Assign [.Name x _] (.Dict [] [] _) _ :: rest => if stores rest = true then some (x, rest) else none
  | _ => none
noncomputable def bodyS (L : Lv) (sc : Scope) (σ : Sg) (body : List Stmt) : Option D :=
  match ownOf body with
  | some (x, rest) => if kindIs sc x = some .local ∧ (σ.all fun p => !(p.1 == x)) = true then retD (L.xs sc (upd σ x (.own [])) rest) else none
  | none => retD (L.xs sc σ body)
noncomputable def enterOk (d : DefRec) (n : Nat) : Bool :=
  simpleArgs d.params && decide (d.params.args.length = n) && decide (n = 1 ∨ n = 2) && decide (d.scope.kind = .function) && !d.scope.isGenerator && !d.scope.isCoroutine && (d.params.args.all fun a => parOk d.scope a.arg)
    && decide ((d.params.args.map (·.arg)).Nodup)
noncomputable def callD (L : Lv) (tab : Str → Option DefRec) (f : Str) (ds : List D) : Option D :=
  match tab f with
  | some d => if enterOk d ds.length = true then bodyS L d.scope (zipS (d.params.args.map (·.arg)) ds) d.body else none
  | none => none

noncomputable def isPrim (f : Str) : Bool := decide (f = sLen) || decide (f = sSum) || decide (f = sList) || decide (f = sBytes) || decide (f = sDict)

noncomputable def idxOk : Expr → Bool
  | .Constant .. | .Name .. | .BinOp .. => true
  | _ => false

noncomputable def subS (L : Lv) (sc : Scope) (σ : Sg) (value slice : Expr) : Option D :=
  match slice with
  | .Slice none (some (.Constant (.int 3) _ _)) none _ => match L.ev sc σ value with | some (.key k) => if k.length = 4 then some (.key (k.take 3)) else none | _ => none
  | .Slice none none (some (.UnaryOp .USub (.Constant (.int 1) _ _) _)) _ => match L.ev sc σ value with | some (.list l) => if l.length ≤ 1000 then some (.list l.reverse) else none | _ => none
  | slice => if idxOk slice = true then match L.ev sc σ value with | some a => (match L.ev sc σ slice with | some b => itemD a b | none => none) | none => none else none
noncomputable def dictS (L : Lv) (sc : Scope) (σ : Sg) (ks : List (Option Expr)) (vs : List Expr) : Option D :=
  match ks, vs with
  | [], [] => some (.dict [])
  | [some k], [v] => match L.ev sc σ k with | some (.key a) => (match L.ev sc σ v with | some (.int n) => some (.dict [(a, n)]) | _ => none) | _ => none
  | _, _ => none
noncomputable def evS (L : Lv) (tab : Str → Option DefRec) (sc : Scope) (σ : Sg) : Expr → Option D
  | .Constant c _ _ => constD c
  | .Name x _ => if x = Str.ofString "__debug__" then none else match held sc σ x with | some (.val d) => some d | _ => none
  | .BinOp l op r _ => match L.ev sc σ l with | some a => (match L.ev sc σ r with | some b => binD op a b | none => none) | none => none
  | .Compare l [op] [r] _ =>
    if behindInMarks op r = false then match L.ev sc σ l with | some a => (match L.ev sc σ r with | some b => (cmpD op a b).map .bool | none => none) | none => none else none
  | .Tuple elts _ _ => match evList (L.ev sc σ) elts with | some ds => tupD ds | none => none
  | .List elts _ => match evList (L.ev sc σ) elts with | some ds => (if ds.length ≤ 1000 then (ds.mapM dIt).map .list else none) | none => none
  | .Subscript value slice _ => subS L sc σ value slice
  | .IfExp t b o _ => match L.tr sc σ t with | some true => L.ev sc σ b | some false => L.ev sc σ o | none => none
  | .Call (.Name f _) args [] _ =>
    if isGlob sc f = true then
      if f = sIsi then match args with
        | [a, .Name t _] => if t = sTuple ∧ isGlob sc t = true ∧ starless a = true then (match L.ev sc σ a with | some (.int _) => some (.bool false) | _ => none) else none
        | _ => none
      else if isPrim f = true then match evList (L.ev sc σ) args with | some ds => primD f ds | none => none
      else match evList (L.ev sc σ) args with | some ds => callD L tab f ds | none => none
    else none
  | .ListComp elt gens scope _ => compS L sc σ elt gens scope
  | .Dict ks vs _ => dictS L sc σ ks vs
  | _ => none

noncomputable def allS (L : Lv) (sc : Scope) (σ : Sg) (op : BoolOp) : List Expr → Option Bool
  | [] => some (op == .And)
  | x :: r => match op, L.tr sc σ x with
    | .And, some false => some false
    | .Or, some true => some true
    | _, some _ => allS L sc σ op r
    | _, none => none

noncomputable def inName : CmpOp → Expr → Option Str
  | .In, .Name x _ => some x
  | _, _ => none
noncomputable def trS (L : Lv) (sc : Scope) (σ : Sg) : Expr → Option Bool
  | .Compare l [op] [r] _ =>
    match inName op r with
    | some x => if x = Str.ofString "__debug__" then none else match L.ev sc σ l with | some (.key k) => (match heldOwn sc σ x with | some (.own m) => some (lookD m k).isSome | _ => none) | _ => none
    | none => if behindInMarks op r = false then match L.ev sc σ l with | some a => (match L.ev sc σ r with | some b => cmpD op a b | none => none) | none => none else none
  | .BoolOp op vs _ => allS L sc σ op vs
  | .Call f args kw p => match L.ev sc σ (.Call f args kw p) with | some (.bool b) => some b | _ => none
  | _ => none

noncomputable def forS (L : Lv) (sc : Scope) (target : Expr) (body : List Stmt) : List D → Sg → Option Sg
  | [], σ => some σ
  | d :: ds, σ => match bindT sc σ target d with
    | none => none
    | some σ₁ => match L.xs sc σ₁ body with
      | some (σ₂, none) => forS L sc target body ds σ₂
      | _ => none

noncomputable def keyOk : Expr → Bool
  | .Constant .. | .Name .. | .BinOp .. => true
  | _ => false

noncomputable def asgS (L : Lv) (sc : Scope) (σ : Sg) (t e : Expr) : Option (Sg × Option D) :=
  match t with
  | .Name x _ =>
    if plainE e = true then match L.ev sc σ e with | some d => (match kindIs sc x with | some .local | some .cell => some (upd σ x (.val d), none) | _ => none) | none => none else none
  | .Tuple [.Name a pa, .Name b pb] _ _ =>
    match e with
    | .Tuple [e, f] _ _ =>
      if a ≠ b ∧ kindIs sc a = some .local ∧ kindIs sc b = some .local ∧ starless e = true ∧ starless f = true ∧ (pa.line == pb.line) = true ∧ ([e, f].all (foldedForSure 8)) = false ∧ ([e, f].all (constantsAlone 8)) = false then
        match L.ev sc σ e with | some d => (match L.ev sc σ f with | some u => some (upd (upd σ a (.val d)) b (.val u), none) | none => none) | none => none
      else none
    | _ => none
  | .Subscript (.Name x _) k _ =>
    if plainE e = true ∧ keyOk k = true ∧ x ≠ Str.ofString "__debug__" then
      match L.ev sc σ e with
      | some (.int n) => (match heldOwn sc σ x with
        | some (.own l) => (match L.ev sc σ k with | some (.key q) => if l.length ≤ 1000 then some (upd σ x (.own (putD l q n)), none) else none | _ => none)
        | some (.buf b) => (match L.ev sc σ k with | some (.int i) => if 0 ≤ i ∧ i < b.length ∧ b.length ≤ 1000 ∧ inByte n = true then some (upd σ x (.buf (b.set i.toNat n.toNat)), none) else none | _ => none)
        | _ => none)
      | _ => none
    else none
  | _ => none
noncomputable def augS (L : Lv) (sc : Scope) (σ : Sg) (t : Expr) (op : Operator) (e : Expr) : Option (Sg × Option D) :=
  match t with
  | .Name x _ =>
    match held sc σ x with
    | some (.val (.int a)) => (match L.ev sc σ e with | some (.int b) => (match op, kindIs sc x with | .Add, some .local => some (upd σ x (.val (.int (a + b))), none) | _, _ => none) | _ => none)
    | _ => none
  | .Subscript (.Name x _) (.Name k kp) _ =>
    match op with
    | .Add =>
      if x ≠ Str.ofString "__debug__" then
      match heldOwn sc σ x with
      | some (.own l) => (match L.ev sc σ (.Name k kp) with
        | some (.key q) => if ¬ l.length ≤ 1000 then none else (match lookD l q with | some a => (match L.ev sc σ e with | some (.int b) => some (upd σ x (.own (putD l q (a + b))), none) | _ => none) | none => none)
        | _ => none)
      | _ => none
      else none
    | _ => none
  | _ => none
noncomputable def retS (L : Lv) (sc : Scope) (σ : Sg) (e : Expr) : Option (Sg × Option D) :=
  match e with
  | .Name x p => match heldOwn sc σ x with
    | some (.own l) => if x = Str.ofString "__debug__" then none else some (σ, some (.dict l))
    | _ => match L.ev sc σ (.Name x p) with | some d => some (σ, some d) | none => none
  | .Call (.Name f fp) [.Name x xp] [] cp =>
    if isGlob sc f = true ∧ f = sBytes ∧ x ≠ Str.ofString "__debug__" then
      match heldOwn sc σ x with
      | some (.buf b) => if b.length ≤ 1000 then some (σ, some (.byt b)) else none
      | _ => none
    else match L.ev sc σ (.Call (.Name f fp) [.Name x xp] [] cp) with | some d => some (σ, some d) | none => none
  | e => match L.ev sc σ e with | some d => some (σ, some d) | none => none

noncomputable def stS (L : Lv) (sc : Scope) (σ : Sg) : Stmt → Option (Sg × Option D)
  | .Assign [t] e _ => asgS L sc σ t e
  | .AugAssign t op e _ => augS L sc σ t op e
  | .For target iter body [] _ => match callIter L sc σ target iter with
    | some items => (match forS L sc target body items σ with | some σ' => some (σ', none) | none => none)
    | none => none
  | .If t body orelse _ => match L.tr sc σ t with | some true => L.xs sc σ body | some false => L.xs sc σ orelse | none => none
  | .Return (some e) _ => retS L sc σ e
  | _ => none

noncomputable def xsS (L : Lv) (sc : Scope) : List Stmt → Sg → Option (Sg × Option D)
  | [], σ => some (σ, none)
  | st :: r, σ => match stS L sc σ st with
    | some (σ', none) => xsS L sc r σ'
    | some (σ', some d) => some (σ', some d)
    | none => none

noncomputable def lv0 : Lv := ⟨fun _ _ _ => none, fun _ _ _ => none, fun _ _ _ => none⟩
noncomputable def lvUp (tab : Str → Option DefRec) (L : Lv) : Lv := ⟨evS L tab, trS L, fun sc σ sts => xsS L sc sts σ⟩
noncomputable def lv (tab : Str → Option DefRec) : Nat → Lv
  | 0 => lv0
  | n + 1 => lvUp tab (lv tab n)
end Mine
end PartN1

section PartN2
open PySem PySem.W PySem.Calls PyProof.Rows
set_option Elab.async false
namespace Mine

noncomputable def sByteswap : Str := Str.ofString "_byteswap"
noncomputable def sBytearray : Str := Str.ofString "bytearray"
noncomputable def asN : Stmt → Option (Str × Expr)
  | .Assign [.Name x _] e _ => some (x, e)
  | _ => none
noncomputable def asAdd : Expr → Option (Expr × Expr)
  | .BinOp l .Add r _ => some (l, r)
  | _ => none
noncomputable def asMod : Expr → Option (Expr × Expr)
  | .BinOp l .Mod r _ => some (l, r)
  | _ => none
noncomputable def asI : Expr → Option Int
  | .Constant (.int i) _ _ => some i
  | _ => none
noncomputable def asName : Expr → Option Str
  | .Name x _ => some x
  | _ => none
noncomputable def asCall : Expr → Option (Expr × Expr)
  | .Call f [y] [] _ => some (f, y)
  | _ => none
noncomputable def asSub : Expr → Option (Expr × Expr)
  | .Subscript a b _ => some (a, b)
  | _ => none
noncomputable def asList : Expr → Option Expr
  | .List [a] _ => some a
  | _ => none
theorem asN_is {st : Stmt} {q : Str × Expr} (h : asN st = some q) : ∃ p p', st = .Assign [.Name q.1 p] q.2 p' := by
  cases st
  case Assign ts e p' =>
    cases ts with
    | nil => (have h : none = some _ := h; cases h)
    | cons t r =>
      cases r with
      | cons _ _ => cases t <;> (have h : none = some _ := h; cases h)
      | nil =>
        cases t
        case Name x p => have h : some (x, e) = some q := h; cases h; exact ⟨p, p', rfl⟩
        all_goals (have h : none = some _ := h; cases h)
  all_goals (have h : none = some _ := h; cases h)
theorem asAdd_is {e : Expr} {q : Expr × Expr} (h : asAdd e = some q) : ∃ p, e = .BinOp q.1 .Add q.2 p := by
  cases e
  case BinOp l op r p =>
    cases op
    case Add => have h : some (l, r) = some q := h; cases h; exact ⟨p, rfl⟩
    all_goals (have h : none = some _ := h; cases h)
  all_goals (have h : none = some _ := h; cases h)
theorem asMod_is {e : Expr} {q : Expr × Expr} (h : asMod e = some q) : ∃ p, e = .BinOp q.1 .Mod q.2 p := by
  cases e
  case BinOp l op r p =>
    cases op
    case Mod => have h : some (l, r) = some q := h; cases h; exact ⟨p, rfl⟩
    all_goals (have h : none = some _ := h; cases h)
  all_goals (have h : none = some _ := h; cases h)
theorem asI_is {e : Expr} {i : Int} (h : asI e = some i) : ∃ k p, e = .Constant (.int i) k p := by
  cases e
  case Constant c k p =>
    cases c
    case int n => have h : some n = some i := h; cases h; exact ⟨k, p, rfl⟩
    all_goals (have h : none = some _ := h; cases h)
  all_goals (have h : none = some _ := h; cases h)
theorem asName_is {e : Expr} {x : Str} (h : asName e = some x) : ∃ p, e = .Name x p := by
  cases e
  case Name y p => have h : some y = some x := h; cases h; exact ⟨p, rfl⟩
  all_goals (have h : none = some _ := h; cases h)
theorem asCall_is {e : Expr} {q : Expr × Expr} (h : asCall e = some q) : ∃ p, e = .Call q.1 [q.2] [] p := by
  cases e
  case Call f as kw p =>
    cases as with
    | nil => (have h : none = some _ := h; cases h)
    | cons a r =>
      cases r with
      | cons _ _ => (have h : none = some _ := h; cases h)
      | nil =>
        cases kw with
        | cons _ _ => (have h : none = some _ := h; cases h)
        | nil => have h : some (f, a) = some q := h; cases h; exact ⟨p, rfl⟩
  all_goals (have h : none = some _ := h; cases h)
theorem asSub_is {e : Expr} {q : Expr × Expr} (h : asSub e = some q) : ∃ p, e = .Subscript q.1 q.2 p := by
  cases e
  case Subscript a b p => have h : some (a, b) = some q := h; cases h; exact ⟨p, rfl⟩
  all_goals (have h : none = some _ := h; cases h)
theorem asList_is {e a : Expr} (h : asList e = some a) : ∃ p, e = .List [a] p := by
  cases e
  case List as p =>
    cases as with
    | nil => (have h : none = some _ := h; cases h)
    | cons b r =>
      cases r with
      | cons _ _ => (have h : none = some _ := h; cases h)
      | nil => have h : some b = some a := h; cases h; exact ⟨p, rfl⟩
  all_goals (have h : none = some _ := h; cases h)

noncomputable def asCalls : Expr → Option (Expr × List Expr)
  | .Call f as [] _ => some (f, as)
  | _ => none
theorem asCalls_is {e : Expr} {q : Expr × List Expr} (h : asCalls e = some q) : ∃ p, e = .Call q.1 q.2 [] p := by
  cases e
  case Call f as kw p =>
    cases kw with
    | cons _ _ => (have h : none = some _ := h; cases h)
    | nil => have h : some (f, as) = some q := h; cases h; exact ⟨p, rfl⟩
  all_goals (have h : none = some _ := h; cases h)
noncomputable def forOf : Stmt → Option ((Expr × Expr) × (Stmt × List Stmt))
  | .For target iter (st :: rest) [] _ => some ((target, iter), (st, rest))
  | _ => none
theorem forOf_is {st : Stmt} {q : (Expr × Expr) × (Stmt × List Stmt)} (h : forOf st = some q) : ∃ p, st = .For q.1.1 q.1.2 (q.2.1 :: q.2.2) [] p := by
  cases st
  case For target iter body orelse p =>
    cases body with
    | nil => (have h : none = some _ := h; cases h)
    | cons s0 r =>
      cases orelse with
      | cons _ _ => (have h : none = some _ := h; cases h)
      | nil => have h : some ((target, iter), (s0, r)) = some q := h; cases h; exact ⟨p, rfl⟩
  all_goals (have h : none = some _ := h; cases h)
noncomputable def madeOf (st : Stmt) : Option (Str × Str × Str × Str) :=
  (asN st).bind fun a => (asCall a.2).bind fun b => (asName b.1).bind fun f => (asCall b.2).bind fun c => (asName c.1).bind fun g => (asName c.2).bind fun y => some (a.1, f, g, y)
theorem madeOf_is {st : Stmt} {x f g y : Str} (h : madeOf st = some (x, f, g, y)) : ∃ xp fp gp yp ip cp ap, st = .Assign [.Name x xp] (.Call (.Name f fp) [.Call (.Name g gp) [.Name y yp] [] ip] [] cp) ap := by
  simp only [madeOf, Option.bind_eq_some_iff] at h
  obtain ⟨⟨x', e⟩, h1, ⟨b1, b2⟩, h2, f', h3, ⟨c1, c2⟩, h4, g', h5, y', h6, h⟩ := h
  obtain ⟨xp, ap, rfl⟩ := asN_is h1
  obtain ⟨cp, rfl⟩ := asCall_is h2
  obtain ⟨fp, rfl⟩ := asName_is h3
  obtain ⟨ip, rfl⟩ := asCall_is h4
  obtain ⟨gp, rfl⟩ := asName_is h5
  obtain ⟨yp, rfl⟩ := asName_is h6
  cases h
  exact ⟨xp, fp, gp, yp, ip, cp, ap, rfl⟩
noncomputable def hotOf (st : Stmt) : Option (Expr × Expr × Str × Str × List Expr × List Stmt) :=
  (forOf st).bind fun q => (asN q.2.1).bind fun a => (asCalls a.2).bind fun b => (asName b.1).bind fun f => some (q.1.1, q.1.2, a.1, f, b.2, q.2.2)
theorem hotOf_is {st : Stmt} {target iter : Expr} {t f : Str} {args : List Expr} {rest : List Stmt} (h : hotOf st = some (target, iter, t, f, args, rest)) : ∃ tp fp cp ap p, st = .For target iter (.Assign [.Name t tp] (.Call (.Name f fp) args [] cp) ap :: rest) [] p := by
  simp only [hotOf, Option.bind_eq_some_iff] at h
  obtain ⟨⟨⟨ta, it⟩, ⟨s0, r0⟩⟩, h1, ⟨t', e⟩, h2, ⟨b1, b2⟩, h3, f', h4, h⟩ := h
  obtain ⟨p, rfl⟩ := forOf_is h1
  obtain ⟨tp, ap, h2⟩ := asN_is h2
  obtain ⟨cp, h3⟩ := asCalls_is h3
  obtain ⟨fp, h4⟩ := asName_is h4
  cases h
  dsimp only at h2 h3 h4
  subst h4
  subst h3
  subst h2
  exact ⟨tp, fp, cp, ap, p, rfl⟩
/-- the one function that makes a bytearray -/
noncomputable def swapD (L : Lv) (tab : Str → Option DefRec) (ds : List D) : Option D :=
  match tab sByteswap with
  | some d => if enterOk d ds.length = true then
      match d.body with
      | st :: rest =>
        match madeOf st with
        | some (x, f, g, y) =>
          if f = sBytearray ∧ isGlob d.scope f = true ∧ g = sLen ∧ isGlob d.scope g = true ∧ kindIs d.scope x = some .local ∧ ((zipS (d.params.args.map (·.arg)) ds).all fun p => !(p.1 == x)) = true ∧ y ≠ Str.ofString "__debug__" then
            match held d.scope (zipS (d.params.args.map (·.arg)) ds) y with
            | some (.val (.byt b)) => if b.length ≤ 1000 then (match L.xs d.scope (upd (zipS (d.params.args.map (·.arg)) ds) x (.buf (List.replicate b.length 0))) rest with | some (_, some r) => some r | _ => none) else none
            | _ => none
          else none
        | none => none
      | [] => none
    else none
  | none => none

/-- the hot loop: for target in iter: t = _byteswap(a, b); rest -/
noncomputable def hotFor (L : Lv) (tab : Str → Option DefRec) (sc : Scope) (target : Expr) (t : Str) (args : List Expr) (rest : List Stmt) : List D → Sg → Option (Sg × Option D)
  | [], σ => some (σ, none)
  | d :: ds, σ => match bindT sc σ target d with
    | none => none
    | some σ₁ => match evList (L.ev sc σ₁) args with
      | none => none
      | some as => match swapD L tab as with
        | none => none
        | some r => match L.xs sc (upd σ₁ t (.val r)) rest with
          | some (σ₂, none) => hotFor L tab sc target t args rest ds σ₂
          | _ => none
noncomputable def lawXs (L : Lv) (tab : Str → Option DefRec) (sc : Scope) : List Stmt → Sg → Option D
  | [], _ => none
  | st :: r, σ =>
    match hotOf st with
    | some (target, iter, t, f, args, rest) =>
      if f = sByteswap ∧ isGlob sc f = true ∧ kindIs sc t = some .local then
        match iterS L sc σ target iter with
        | some items => (match hotFor L tab sc target t args rest items σ with | some (σ', none) => lawXs L tab sc r σ' | _ => none)
        | none => none
      else match stS L sc σ st with
        | some (σ', none) => lawXs L tab sc r σ'
        | some (_, some d) => some d
        | none => none
    | none => match stS L sc σ st with
      | some (σ', none) => lawXs L tab sc r σ'
      | some (_, some d) => some d
      | none => none
noncomputable def lawD (L : Lv) (tab : Str → Option DefRec) (d : DefRec) (ds : List D) : Option D :=
  if enterOk d ds.length = true then lawXs L tab d.scope d.body (zipS (d.params.args.map (·.arg)) ds) else none

noncomputable def tabOf (p : Program) (n : Str) : Option DefRec := (recsOf p).find? fun d => d.name == n
noncomputable def lawIs (p : Program) (n : Nat) (script : List Int) : Option D :=
  match tabOf p (Str.ofString "law") with
  | some d => lawD (lv (tabOf p) n) (tabOf p) d [.list (script.map It.int)]
  | none => none
noncomputable def isTrueD : Option D → Bool
  | some (.bool true) => true
  | _ => false
end Mine
end PartN2

section PartN3
open PySem PySem.W PySem.Calls PyProof.Rows
set_option Elab.async false
namespace Mine

section
variable {prog : Program} {w : World} {W W' N : List Addr} {h h' : Heap}

theorem fresh_not {a : Addr} {o : Obj} (hN : ∀ I ∈ N, h.get? I = none) (e : h.get? a = some o) : a ∉ N := fun q => by rw [hN a q] at e; cases e
theorem off_app {a : Addr} {o : Obj} (hN : ∀ I ∈ N, h.get? I = none) (e : h.get? a = some o) (n : a ∉ W) : a ∉ N ++ W := fun q => by
  rcases List.mem_append.mp q with q | q
  · exact fresh_not hN e q
  · exact n q
theorem KeyB.more {a : Addr} {k : Key} (x : KeyB prog w W h a k) (hN : ∀ I ∈ N, h.get? I = none) : KeyB prog w (N ++ W) h a k := by
  obtain ⟨n, o, items, c, ho, r⟩ := x
  exact ⟨off_app hN ho n, o, items, c, ho, r⟩
theorem ItB.more {v : Value} (hN : ∀ I ∈ N, h.get? I = none) : ∀ {i : It}, ItB prog w W h v i → ItB prog w (N ++ W) h v i
  | .int _, x => x
  | .byt _, x => x
  | .pair _ _, ⟨a, ka, t, e1, n, e2, k⟩ => ⟨a, ka, t, e1, off_app hN e2 n, e2, k.more hN⟩
theorem DictB.more {d : Addr} {l : List (Key × Int)} (x : DictB prog w W h d l) (hN : ∀ I ∈ N, h.get? I = none) : DictB prog w (N ++ W) h d l := by
  obtain ⟨xs, hx, hp⟩ := x
  refine ⟨xs, hx, ?_⟩
  obtain ⟨o, es, ep, ho, hc, hd, he, hk, hn⟩ := hx
  have : ∀ {ys : List (Key × Addr × Value)} {m : List (Key × Int)}, Paired (EntB W) ys m → (∀ y ∈ ys, y ∈ xs) → Paired (EntB (N ++ W)) ys m := by
    intro ys m hq
    induction hq with
    | nil => intro _; exact .nil
    | cons a t ih =>
      intro hs
      refine .cons ⟨a.1, ?_, a.2.2⟩ (ih fun y hy => hs y (.tail _ hy))
      obtain ⟨o', items, c, ho', r⟩ := hk _ (hs _ (.head _))
      exact off_app hN ho' a.2.1
  exact this hp fun _ y => y
theorem ListB.more {a : Addr} {l : List It} (x : ListB prog w W h a l) (hN : ∀ I ∈ N, h.get? I = none) : ListB prog w (N ++ W) h a l := by
  obtain ⟨vs, hx, hp⟩ := x
  exact ⟨vs, hx, hp.mono fun _ _ q => ItB.more hN q⟩
theorem DB.more {v : Value} (hN : ∀ I ∈ N, h.get? I = none) : ∀ {d : D}, DB prog w W h v d → DB prog w (N ++ W) h v d
  | .none, x => x
  | .bool _, x => x
  | .int _, x => x
  | .str _, x => x
  | .byt _, x => x
  | .key _, ⟨a, e1, k⟩ => ⟨a, e1, k.more hN⟩
  | .pair k n, x => ItB.more (i := .pair k n) hN x
  | .list _, ⟨a, e1, n, x⟩ => ⟨a, e1, (by obtain ⟨vs, ⟨c, hx⟩, hp⟩ := x; exact off_app hN hx n), x.more hN⟩
  | .dict _, ⟨a, e1, n, lo, x⟩ => ⟨a, e1, (by obtain ⟨xs, ⟨o, es, ep, ho, r⟩, hp⟩ := x; exact off_app hN ho n), lo, x.more hN⟩
end

/-! ## a frame and what its names bear -/
noncomputable def bufObj (b : List Nat) : Obj := { cls := .type "bytearray", data := .bytearray (b.map UInt8.ofNat).toArray 0 }
noncomputable def Slot.isOwn : Slot → Bool
  | .val _ => false
  | _ => true
noncomputable def SlB (prog : Program) (w : World) (W F : List Addr) (env : Env) (h : Heap) (v : Value) : Slot → Prop
  | .val d => DB prog w W h v d
  | .own l => ∃ a, v = .ref a ∧ a ∈ F ∧ a ≠ env.locals ∧ (∀ x c, env.cells.lookup x = some c → c ≠ a) ∧ (a == sysModules) = false ∧ DictB prog w W h a l
  | .buf b => ∃ a, v = .ref a ∧ a ∈ F ∧ a ≠ env.locals ∧ (∀ x c, env.cells.lookup x = some c → c ≠ a) ∧ h.get? a = some (bufObj b) ∧ ∀ x ∈ b, x < 256

structure EnvR (prog : Program) (w : World) (B : Heap) (W F : List Addr) (env : Env) (sc : Scope) (σ : Sg) (h : Heap) : Prop where
  keep : ∀ b o, B.get? b = some o → h.get? b = some o
  sub : ∀ a ∈ F, a ∈ W
  here : ∀ a ∈ W, ∃ o, h.get? a = some o
  off : ∀ a ∈ W, B.get? a = none
  is : env.scope = sc
  fn : sc.kind = .function
  gl : env.globals = mainGlobals
  bl : env.builtins = builtinsNs
  LF : env.locals ∈ F
  ns : ∃ m, h.Ns env.locals m ∧ ∀ x sl, kindIs sc x = some .local → getS σ x = some sl → ∃ v, m x = some v ∧ SlB prog w W F env h v sl
  cl : ∀ x c, env.cells.lookup x = some c → c ∈ F ∧ c ≠ env.locals ∧ ∃ v₀, h.IsCell c v₀
  apart : ∀ x y c, env.cells.lookup x = some c → env.cells.lookup y = some c → x = y
  kc : ∀ x, kindIs sc x = some .cell → ∃ c, env.cells.lookup x = some c
  cs : ∀ x sl, (kindIs sc x = some .cell ∨ kindIs sc x = some .free) → getS σ x = some sl → ∃ c v, env.cells.lookup x = some c ∧ h.IsCell c (some v) ∧ SlB prog w W F env h v sl
  one : ∀ x y sl sl', getS σ x = some sl → getS σ y = some sl' → sl.isOwn = true → sl'.isOwn = true → x = y

section
variable {prog : Program} {w : World} {A : Around} {E : Value → Shared → Prop} {s : Shared} {B : Heap} {W W' F N X : List Addr} {env : Env} {sc : Scope} {σ : Sg} {h h' : Heap}

theorem EnvR.low (R : EnvR prog w B W F env sc σ h) : ∀ a ∈ W, a < h.objs.size := fun a ha => let ⟨_, e⟩ := R.here a ha; Heap.lt_size e

theorem SlB.move {v : Value} {sl : Slot} (x : SlB prog w W' F env h v sl) (e : Ext X h h') (hX : ∀ a ∈ X, a ∈ W') (hXF : ∀ a ∈ X, a ∉ F) (hW : ∀ a ∈ W, a ∈ W') : SlB prog w W F env h' v sl := by
  have eW : Ext W' h h' := e.mono hX
  cases sl with
  | val d => exact (DB.up x eW).less hW
  | own l =>
    obtain ⟨a, e1, e2, e3, e4, e5, e6⟩ := x
    exact ⟨a, e1, e2, e3, e4, e5, (e6.at' eW fun o q => e a o (fun z => hXF a z e2) q).less hW⟩
  | buf b =>
    obtain ⟨a, e1, e2, e3, e4, e5, e6⟩ := x
    exact ⟨a, e1, e2, e3, e4, e a _ (fun z => hXF a z e2) e5, e6⟩

/-- the heap moves off the frame -/
theorem EnvR.move (R : EnvR prog w B W' F env sc σ h) (e : Ext X h h') (hX : ∀ a ∈ X, a ∈ W') (hXF : ∀ a ∈ X, a ∉ F) (hW : ∀ a ∈ W, a ∈ W') (hF : ∀ a ∈ F, a ∈ W) (hh : ∀ a ∈ W, a ∈ X → ∃ o, h'.get? a = some o) :
    EnvR prog w B W F env sc σ h' := by
  refine ⟨fun b o q => e b o (fun z => by rw [R.off b (hX b z)] at q; cases q) (R.keep b o q), hF, fun a ha => ?_, fun a ha => R.off a (hW a ha), R.is, R.fn, R.gl, R.bl, R.LF, ?_, fun x c hc => ?_, R.apart, R.kc, fun x sl hk hs => ?_, R.one⟩
  · by_cases q : a ∈ X
    · exact hh a ha q
    · obtain ⟨o, ho⟩ := R.here a (hW a ha); exact ⟨o, e a o q ho⟩
  · obtain ⟨m, hm, hv⟩ := R.ns
    refine ⟨m, hm.at' fun o => e _ o fun z => hXF _ z R.LF, fun x sl hk hs => ?_⟩
    obtain ⟨v, e1, e2⟩ := hv x sl hk hs
    exact ⟨v, e1, e2.move e hX hXF hW⟩
  · obtain ⟨c1, c2, v₀, o, ho, hd⟩ := R.cl x c hc
    exact ⟨c1, c2, v₀, o, e c o (fun z => hXF c z c1) ho, hd⟩
  · obtain ⟨c, v, e1, ⟨o, ho, hd⟩, e3⟩ := R.cs x sl hk hs
    exact ⟨c, v, e1, ⟨o, e c o (fun z => hXF c z (R.cl x c e1).1) ho, hd⟩, e3.move e hX hXF hW⟩
theorem EnvR.up (R : EnvR prog w B W F env sc σ h) (e : Ext [] h h') : EnvR prog w B W F env sc σ h' :=
  R.move e (fun _ q => by cases q) (fun _ q => by cases q) (fun _ q => q) R.sub (fun _ _ q => by cases q)
theorem SlB.more {v : Value} {sl : Slot} (x : SlB prog w W F env h v sl) (hN : ∀ I ∈ N, h.get? I = none) : SlB prog w (N ++ W) F env h v sl := by
  cases sl with
  | val d => exact DB.more hN x
  | own l =>
    obtain ⟨a, e1, e2, e3, e4, e5, e6⟩ := x
    exact ⟨a, e1, e2, e3, e4, e5, e6.more hN⟩
  | buf b => exact x
/-- new addresses that the values do not lean on -/
theorem EnvR.more (R : EnvR prog w B W F env sc σ h) (hN : ∀ I ∈ N, h.get? I = none) (e : Ext [] h h') (hh : ∀ I ∈ N, ∃ o, h'.get? I = some o) : EnvR prog w B (N ++ W) F env sc σ h' := by
  have nB : ∀ I ∈ N, B.get? I = none := fun I hI => by
    cases q : B.get? I with
    | none => rfl
    | some o => have := R.keep I o q; rw [hN I hI] at this; cases this
  have up : ∀ {v : Value} {sl : Slot}, SlB prog w W F env h v sl → SlB prog w (N ++ W) F env h' v sl := fun x => (x.more hN).move e (fun _ q => by cases q) (fun _ q => by cases q) (fun _ q => q)
  refine ⟨fun b o q => e b o (fun z => by cases z) (R.keep b o q), fun a ha => List.mem_append_right _ (R.sub a ha), fun a ha => ?_, fun a ha => ?_, R.is, R.fn, R.gl, R.bl, R.LF, ?_, fun x c hc => ?_, R.apart, R.kc, fun x sl hk hs => ?_, R.one⟩
  · rcases List.mem_append.mp ha with ha | ha
    · exact hh a ha
    · obtain ⟨o, ho⟩ := R.here a ha; exact ⟨o, e a o (fun z => by cases z) ho⟩
  · rcases List.mem_append.mp ha with ha | ha
    · exact nB a ha
    · exact R.off a ha
  · obtain ⟨m, hm, hv⟩ := R.ns
    refine ⟨m, hm.at' fun o => e _ o fun z => (by cases z), fun x sl hk hs => ?_⟩
    obtain ⟨v, e1, e2⟩ := hv x sl hk hs
    exact ⟨v, e1, up e2⟩
  · obtain ⟨c1, c2, v₀, o, ho, hd⟩ := R.cl x c hc
    exact ⟨c1, c2, v₀, o, e c o (fun z => by cases z) ho, hd⟩
  · obtain ⟨c, v, e1, ⟨o, ho, hd⟩, e3⟩ := R.cs x sl hk hs
    exact ⟨c, v, e1, ⟨o, e c o (fun z => by cases z) ho, hd⟩, up e3⟩

theorem apart_of (hp : ∀ x y c, env.cells.lookup x = some c → env.cells.lookup y = some c → x = y) {x y : Str} {c : Addr} (hx : env.cells.lookup x = some c) (hy : env.cells.lookup y = some c) : x = y := hp x y c hx hy

/-- a value is bound to a local name or to a cell's -/
theorem EnvR.bind (R : EnvR prog w B W F env sc σ s.heap) {x : Str} {v : Value} {d : D} {Q : Unit → Shared → Prop} (hk : kindIs sc x = some .local ∨ kindIs sc x = some .cell) (hv : DB prog w W s.heap v d)
    (h : ∀ h' tk, Ext F s.heap h' → (kindIs sc x = some .local → Ext [env.locals] s.heap h') → EnvR prog w B W F env sc (upd σ x (.val d)) h' → Q () { s with heap := h', toks := tk }) : wpAny (model prog w) A (storeName env x v) Q E s := by
  have onep : ∀ y z sl sl', getS (upd σ x (.val d)) y = some sl → getS (upd σ x (.val d)) z = some sl' → sl.isOwn = true → sl'.isOwn = true → y = z := by
    intro y z sl sl' hy hz oy oz
    rw [getS_upd] at hy hz
    split at hy
    · cases hy; cases oy
    · split at hz
      · cases hz; cases oz
      · exact R.one y z sl sl' hy hz oy oz
  rcases hk with hk | hk
  · obtain ⟨m, hm, hval⟩ := R.ns
    refine wpAny_storeName_local (by show env.scope.names.lookup x = some .local; rw [R.is]; exact hk) hm (fun h' hn hs => ?_) (by rw [R.is, R.fn]; rfl)
    have eL : Ext [env.locals] s.heap h' := Ext.same hs (List.mem_singleton.mpr rfl)
    have eF : Ext F s.heap h' := Ext.same hs R.LF
    have eW : Ext W s.heap h' := eF.mono R.sub
    have up : ∀ {u : Value} {sl : Slot}, SlB prog w W F env s.heap u sl → SlB prog w W F env h' u sl := by
      intro u sl q
      cases sl with
      | val d => exact DB.up q eW
      | own l =>
        obtain ⟨a, e1, e2, e3, e4, e5, e6⟩ := q
        exact ⟨a, e1, e2, e3, e4, e5, e6.at' eW fun o z => hs.extBut a o e3 z⟩
      | buf b =>
        obtain ⟨a, e1, e2, e3, e4, e5, e6⟩ := q
        exact ⟨a, e1, e2, e3, e4, hs.extBut a _ e3 e5, e6⟩
    refine h h' _ eF (fun _ => eL) ⟨fun b o q => eW b o (fun z => by rw [R.off b z] at q; cases q) (R.keep b o q), R.sub, fun a ha => ?_, R.off, R.is, R.fn, R.gl, R.bl, R.LF, ⟨_, hn, fun y sl hy hg => ?_⟩, fun y c hc => ?_, R.apart, R.kc, fun y sl hy hg => ?_, onep⟩
    · by_cases q : a = env.locals
      · subst q; obtain ⟨o, _, _, ho, _⟩ := hn; exact ⟨o, ho⟩
      · obtain ⟨o, ho⟩ := R.here a ha; exact ⟨o, hs.extBut a o q ho⟩
    · rw [getS_upd] at hg
      by_cases q : y = x
      · subst q
        rw [if_pos rfl] at hg; cases hg
        exact ⟨v, if_pos rfl, DB.up hv eW⟩
      · rw [if_neg q] at hg
        obtain ⟨u, e1, e2⟩ := hval y sl hy hg
        exact ⟨u, by rw [if_neg q]; exact e1, up e2⟩
    · obtain ⟨c1, c2, v₀, o, ho, hd⟩ := R.cl y c hc
      exact ⟨c1, c2, v₀, o, hs.extBut c o c2 ho, hd⟩
    · rw [getS_upd] at hg
      by_cases q : y = x
      · subst q; rw [hk] at hy; rcases hy with hy | hy <;> cases hy
      · rw [if_neg q] at hg
        obtain ⟨c, u, e1, ⟨o, ho, hd⟩, e3⟩ := R.cs y sl hy hg
        exact ⟨c, u, e1, ⟨o, hs.extBut c o (R.cl y c e1).2.1 ho, hd⟩, up e3⟩
  · obtain ⟨c, hc⟩ := R.kc x hk
    obtain ⟨c1, c2, v₀, hc0⟩ := R.cl x c hc
    refine wpAny_storeName_cell (by rw [R.is, R.fn]) (by show env.scope.names.lookup x = some .cell; rw [R.is]; exact hk) hc hc0 fun h' hn hs => ?_
    have eF : Ext F s.heap h' := Ext.same hs c1
    have eW : Ext W s.heap h' := eF.mono R.sub
    have up : ∀ {u : Value} {sl : Slot}, SlB prog w W F env s.heap u sl → SlB prog w W F env h' u sl := by
      intro u sl q
      cases sl with
      | val d => exact DB.up q eW
      | own l =>
        obtain ⟨a, e1, e2, e3, e4, e5, e6⟩ := q
        exact ⟨a, e1, e2, e3, e4, e5, e6.at' eW fun o z => hs.extBut a o (Ne.symm (e4 x c hc)) z⟩
      | buf b =>
        obtain ⟨a, e1, e2, e3, e4, e5, e6⟩ := q
        exact ⟨a, e1, e2, e3, e4, hs.extBut a _ (Ne.symm (e4 x c hc)) e5, e6⟩
    refine h h' _ eF (fun q => by rw [hk] at q; cases q) ⟨fun b o q => eW b o (fun z => by rw [R.off b z] at q; cases q) (R.keep b o q), R.sub, fun a ha => ?_, R.off, R.is, R.fn, R.gl, R.bl, R.LF, ?_, fun y c' hc' => ?_, R.apart, R.kc, fun y sl hy hg => ?_, onep⟩
    · by_cases q : a = c
      · subst q; obtain ⟨o, ho, _⟩ := hn; exact ⟨o, ho⟩
      · obtain ⟨o, ho⟩ := R.here a ha; exact ⟨o, hs.extBut a o q ho⟩
    · obtain ⟨m, hm, hval⟩ := R.ns
      refine ⟨m, hm.sameBut hs (Ne.symm c2), fun y sl hy hg => ?_⟩
      rw [getS_upd] at hg
      by_cases q : y = x
      · subst q; rw [hk] at hy; cases hy
      · rw [if_neg q] at hg
        obtain ⟨u, e1, e2⟩ := hval y sl hy hg
        exact ⟨u, e1, up e2⟩
    · obtain ⟨d1, d2, v₁, o, ho, hd⟩ := R.cl y c' hc'
      by_cases q : c' = c
      · subst q; exact ⟨d1, d2, _, hn⟩
      · exact ⟨d1, d2, v₁, o, hs.extBut c' o q ho, hd⟩
    · rw [getS_upd] at hg
      by_cases q : y = x
      · subst q
        rw [if_pos rfl] at hg; cases hg
        exact ⟨c, v, hc, hn, DB.up hv eW⟩
      · rw [if_neg q] at hg
        obtain ⟨c', u, e1, ⟨o, ho, hd⟩, e3⟩ := R.cs y sl hy hg
        have cne : c' ≠ c := fun z => q (apart_of R.apart (z ▸ e1) hc)
        exact ⟨c', u, e1, ⟨o, hs.extBut c' o cne ho, hd⟩, up e3⟩

/-- a name is read -/
theorem EnvR.load (R : EnvR prog w B W F env sc σ s.heap) {x : Str} {sl : Slot} (hx : held sc σ x = some sl) :
    ∃ v, SlB prog w W F env s.heap v sl ∧ ∀ (Q : Value → Shared → Prop) (E : Value → Shared → Prop), Q v s → wpAny (model prog w) A (loadName env x) Q E s := by
  unfold held at hx
  have hfn : env.scope.kind = .function := by rw [R.is, R.fn]
  split at hx
  · rename_i hk
    obtain ⟨m, hm, hval⟩ := R.ns
    obtain ⟨v, e1, e2⟩ := hval x sl hk hx
    exact ⟨v, e2, fun Q E h => wpAny_loadName_local hfn (by show env.scope.names.lookup x = some .local; rw [R.is]; exact hk) hm e1 h⟩
  · rename_i hk
    obtain ⟨c, v, e1, e2, e3⟩ := R.cs x sl (.inl hk) hx
    exact ⟨v, e3, fun Q E h => wpAny_loadName_cell hfn (by show env.scope.names.lookup x = some .cell; rw [R.is]; exact hk) e1 e2 h⟩
  · rename_i hk
    split at hx
    · cases hx
    · rename_i hne
      obtain ⟨c, v, e1, e2, e3⟩ := R.cs x sl (.inr hk) hx
      exact ⟨v, e3, fun Q E h => wpAny_loadName_free hfn (by show env.scope.names.lookup x = some .free; rw [R.is]; exact hk) e1 e2 h (beq_eq_false_iff_ne.mpr hne)⟩
  · cases hx
theorem EnvR.name (R : EnvR prog w B W F env sc σ s.heap) {x : Str} {sl : Slot} {p : Pos} (hx : held sc σ x = some sl) (hd : x ≠ Str.ofString "__debug__") :
    ∃ v, SlB prog w W F env s.heap v sl ∧ ∀ (Q : Value → Shared → Prop) (E : Value → Shared → Prop), Q v s → wpAny (model prog w) A (eval (.Name x p) env) Q E s := by
  obtain ⟨v, e1, e2⟩ := R.load (A := A) hx
  exact ⟨v, e1, fun Q E h => wpAny_Name (e2 Q E h) (beq_eq_false_iff_ne.mpr hd)⟩
end
end Mine
end PartN3

section PartN4
open PySem PySem.W PySem.Calls PyProof.Rows
set_option Elab.async false
namespace Mine

structure Room (n : Nat) (A : Around) : Prop where
  hh : A.handled = none
  dep : A.depth + n + 2 < recursionLimit
  un : A.units + 10 * n + 20 < cLine
theorem Room.less {n : Nat} {A : Around} (r : Room (n + 1) A) : Room n A := ⟨r.hh, by have := r.dep; omega, by have := r.un; omega⟩
theorem Room.deep {n : Nat} {A : Around} {env : Env} (r : Room (n + 1) A) : Room n (A.deeper env) :=
  ⟨r.hh, by have := r.dep; show A.depth + 1 + n + 2 < _; omega, by have := r.un; show A.units + 3 + 10 * n + 20 < _; omega⟩

section
variable {prog : Program} {w : World} {B : Heap} 

noncomputable def EvOk (prog : Program) (w : World) (B : Heap) (n : Nat) (f : Scope → Sg → Expr → Option D) : Prop :=
  ∀ {sc σ e d}, f sc σ e = some d → ∀ {A W F env s}, Room n A → EnvR prog w B W F env sc σ s.heap → Gv prog w A W s (eval e env) d
noncomputable def TrOk (prog : Program) (w : World) (B : Heap) (n : Nat) (f : Scope → Sg → Expr → Option Bool) : Prop :=
  ∀ {sc σ e b}, f sc σ e = some b → ∀ {A W F env} {s : Shared}, Room n A → EnvR prog w B W F env sc σ s.heap → ∀ (Q : Bool → Shared → Prop) (E : Value → Shared → Prop),
    (∀ h' tk, Ext [] s.heap h' → Q b { s with heap := h', toks := tk }) → wpAny (model prog w) A (isTrue e env (eval e env)) Q E s
/-- what a block leaves behind -/
noncomputable def Left (prog : Program) (w : World) (B : Heap) (W F W₀ : List Addr) (env : Env) (sc : Scope) (s : Shared) (σ' : Sg) (r : Option D) (Q : Flow → Shared → Prop) : Prop :=
  ∀ fl h' tk, Ext F s.heap h' → (match r with | none => fl = .next ∧ EnvR prog w B W F env sc σ' h' | some d => ∃ v, fl = .ret v ∧ DB prog w W₀ h' v d) → Q fl { s with heap := h', toks := tk }
noncomputable def XsOk (prog : Program) (w : World) (B : Heap) (n : Nat) (f : Scope → Sg → List Stmt → Option (Sg × Option D)) : Prop :=
  ∀ {sc σ sts σ' r}, f sc σ sts = some (σ', r) → ∀ {A W F W₀ env} {s : Shared}, Room n A → EnvR prog w B W F env sc σ s.heap → (∀ a ∈ W₀, a ∈ W ∧ a ∉ F) → ∀ (Q : Flow → Shared → Prop) (E : Value → Shared → Prop),
    Left prog w B W F W₀ env sc s σ' r Q → wpAny (model prog w) A (execs sts env) Q E s
structure LvOk (prog : Program) (w : World) (B : Heap) (n : Nat) (L : Lv) : Prop where
  ev : EvOk prog w B n L.ev
  tr : TrOk prog w B n L.tr
  xs : XsOk prog w B n L.xs

section
variable {A : Around} {E : Value → Shared → Prop} {s : Shared} {W F : List Addr} {env : Env} {sc : Scope} {σ : Sg} {n : Nat}

theorem gv_then {t : Sem Value} {d : D} (g : Gv prog w A W s t d) (Q : Value → Shared → Prop) (E : Value → Shared → Prop) (h : ∀ v h' tk, Ext [] s.heap h' → DB prog w W h' v d → Q v { s with heap := h', toks := tk }) :
    wpAny (model prog w) A t Q E s := g Q E h

theorem star_plain {e : Expr} {r : List Expr} {env : Env} (h : starless e = true) : starEach (e :: r) env = (false, eval e env) :: starEach r env := by
  cases e <;> first | rfl | cases h

/-- the arguments, one behind the other -/
theorem evList_ok {f : Scope → Sg → Expr → Option D} (ok : EvOk prog w B n f) (hr : Room n A) {pos : Pos} : ∀ {es : List Expr} {ds : List D} {s : Shared}, evList (f sc σ) es = some ds → EnvR prog w B W F env sc σ s.heap →
    ∀ (Q : List Value → Shared → Prop) (E : Value → Shared → Prop), (∀ vs h' tk, Ext [] s.heap h' → Paired (DB prog w W h') vs ds → Q vs { s with heap := h', toks := tk }) → wpAny (model prog w) A (spliced (backTo pos (starEach es env))) Q E s
  | [], ds, s, e, R, Q, E, h => by
    cases e
    exact args_nil (h [] s.heap s.toks (Ext.refl _ _) .nil)
  | x :: r, ds, s, e, R, Q, E, h => by
    unfold evList at e
    split at e
    · rename_i hs
      split at e
      · rename_i d hd
        split at e
        · rename_i ds' hds
          cases e
          refine args_cons ?_ (star_plain hs)
          refine ok hd hr R _ _ fun v h₁ tk₁ e₁ b₁ => ?_
          refine evList_ok ok hr (s := { s with heap := h₁, toks := tk₁ }) hds (R.up e₁) _ _ fun vs h₂ tk₂ e₂ p₂ => ?_
          exact h _ _ _ (e₁.trans e₂) (.cons (b₁.up (e₂.mono fun _ q => by cases q)) p₂)
        · cases e
      · cases e
    · cases e
theorem evList_plain {f : Expr → Option D} : ∀ {es : List Expr} {ds : List D}, evList f es = some ds → ∀ (env : Env) (pos : Pos), (backTo pos (starEach es env)).any (·.1) = false
  | [], _, _, _, _ => rfl
  | x :: r, ds, e, env, pos => by
    unfold evList at e
    split at e
    · rename_i hs
      split at e
      · split at e
        · rename_i hds
          rw [star_plain hs]
          show (false || (backTo pos (starEach r env)).any (·.1)) = false
          rw [evList_plain hds env pos]; rfl
        · cases e
      · cases e
    · cases e

theorem const_ok {c : Const} {k : Nat} {p : Pos} {d : D} (e : constD c = some d) : Gv prog w A W s (eval (.Constant c k p) env) d := by
  intro Q E h
  unfold constD at e
  split at e
  · cases e
    exact wpAny_Constant_int (h _ s.heap _ (Ext.refl _ _) ⟨_, rfl⟩)
  · cases e
    exact fun _ _ _ => h _ s.heap s.toks (Ext.refl _ _) rfl
  · split at e
    · rename_i hx; subst hx; cases e
      exact Constant_str (h _ s.heap _ (Ext.refl _ _) ⟨_, rfl⟩)
    · split at e
      · rename_i hx; subst hx; cases e
        exact Constant_str (h _ s.heap _ (Ext.refl _ _) ⟨_, rfl⟩)
      · cases e
  · split at e
    · rename_i b hb
      cases e
      refine fun _ _ _ => h _ s.heap (s.toks + 1) (Ext.refl _ _) ⟨⟨s.toks, ?_⟩, fun x hx => ?_⟩
      · rw [List.map_map]
        congr
        rw [show (UInt8.ofNat ∘ UInt8.toNat) = id from funext fun x => by simp, List.map_id]
      · obtain ⟨y, _, rfl⟩ := List.mem_map.mp hx
        exact y.toNat_lt
    · cases e
  · cases e

variable {L : Lv}
theorem binop_ok (ok : LvOk prog w B n L) (hr : Room n A) (R : EnvR prog w B W F env sc σ s.heap) {l r : Expr} {op : Operator} {p : Pos} {a b d : D} (ha : L.ev sc σ l = some a) (hb : L.ev sc σ r = some b) (e : binD op a b = some d) :
    Gv prog w A W s (eval (.BinOp l op r p) env) d := by
  intro Q E h
  refine wpAny_BinOp (ok.ev ha hr R _ _ fun v h₁ tk₁ e₁ b₁ => ?_)
  have R₁ := R.up e₁
  refine ok.ev hb hr (s := { s with heap := h₁, toks := tk₁ }) R₁ _ _ fun u h₂ tk₂ e₂ b₂ => ?_
  have R₂ := R₁.up e₂
  refine bin_ok (s := { s with heap := h₂, toks := tk₂ }) R₂.low (b₁.up (e₂.mono fun _ q => by cases q)) b₂ e _ _ fun x h₃ tk₃ e₃ b₃ => ?_
  exact h _ _ _ ((e₁.trans e₂).trans e₃) b₃

theorem cmp_then (ok : LvOk prog w B n L) (hr : Room n A) (R : EnvR prog w B W F env sc σ s.heap) {l r : Expr} {op : CmpOp} {a b : D} {c : Bool} (ha : L.ev sc σ l = some a) (hb : L.ev sc σ r = some b) (e : cmpD op a b = some c)
    (Q : Value → Shared → Prop) (h : ∀ h' tk, Ext [] s.heap h' → Q (.bool c) { s with heap := h', toks := tk }) :
    wpAny (model prog w) A (eval l env) (fun x s₁ => wpAny (model prog w) A (eval r env) (fun y s₂ => wpAny (model prog w) A (compareOp op x y) Q E s₂) E s₁) E s := by
  refine ok.ev ha hr R _ _ fun v h₁ tk₁ e₁ b₁ => ?_
  refine ok.ev hb hr (s := { s with heap := h₁, toks := tk₁ }) (R.up e₁) _ _ fun u h₂ tk₂ e₂ b₂ => ?_
  exact cmp_ok (s := { s with heap := h₂, toks := tk₂ }) (by have := hr.un; omega) (b₁.up (e₂.mono fun _ q => by cases q)) b₂ e (h _ _ (e₁.trans e₂))

theorem compare_ok (ok : LvOk prog w B n L) (hr : Room n A) (R : EnvR prog w B W F env sc σ s.heap) {l r : Expr} {op : CmpOp} {p : Pos} {a b : D} {c : Bool} (hm : behindInMarks op r = false) (ha : L.ev sc σ l = some a) (hb : L.ev sc σ r = some b) (e : cmpD op a b = some c) :
    Gv prog w A W s (eval (.Compare l [op] [r] p) env) (.bool c) := by
  intro Q E h
  exact wpAny_Compare1 (cmp_then ok hr R ha hb e _ fun h' tk e' => h _ _ _ e' rfl) hm
theorem isTrue_compare_ok (ok : LvOk prog w B n L) (hr : Room n A) (R : EnvR prog w B W F env sc σ s.heap) {l r : Expr} {op : CmpOp} {p : Pos} {a b : D} {c : Bool} (hm : behindInMarks op r = false) (ha : L.ev sc σ l = some a) (hb : L.ev sc σ r = some b) (e : cmpD op a b = some c)
    (Q : Bool → Shared → Prop) (E : Value → Shared → Prop) (h : ∀ h' tk, Ext [] s.heap h' → Q c { s with heap := h', toks := tk }) : wpAny (model prog w) A (isTrue (.Compare l [op] [r] p) env (eval (.Compare l [op] [r] p) env)) Q E s :=
  wpAny_isTrue_Compare1 (cmp_then ok hr R ha hb e _ fun h' tk e' => wpAny_truthy_bool (h _ _ e')) hm

theorem tuple_ok (ok : LvOk prog w B n L) (hr : Room n A) (R : EnvR prog w B W F env sc σ s.heap) {elts : List Expr} {k : Nat} {p : Pos} {ds : List D} {d : D} (he : evList (L.ev sc σ) elts = some ds) (e : tupD ds = some d) :
    Gv prog w A W s (eval (.Tuple elts k p) env) d := by
  intro Q E h
  refine Tuple_ (evList_ok ok.ev hr he R _ _ fun vs h₁ tk₁ e₁ p₁ => ?_)
  refine newTup_ok (s := { s with heap := h₁, toks := tk₁ }) (R.up e₁).low p₁ e _ _ fun v h₂ tk₂ e₂ b₂ => ?_
  exact h _ _ _ (e₁.trans e₂) b₂
theorem its_of {h : Heap} : ∀ {vs : List Value} {ds : List D} {is : List It}, Paired (DB prog w W h) vs ds → ds.mapM dIt = some is → Paired (ItB prog w W h) vs is
  | [], [], is, .nil, e => by rw [List.mapM_nil] at e; cases e; exact .nil
  | v :: vs, d :: ds, is, .cons hd ht, e => by
    rw [List.mapM_cons] at e
    cases e1 : dIt d with
    | none => rw [e1] at e; cases e
    | some i =>
      rw [e1] at e
      cases e2 : ds.mapM dIt with
      | none => rw [e2] at e; cases e
      | some is' =>
        rw [e2] at e
        cases e
        exact .cons (dIt_ok e1 hd) (its_of ht e2)
theorem list_ok (ok : LvOk prog w B n L) (hr : Room n A) (R : EnvR prog w B W F env sc σ s.heap) {elts : List Expr} {p : Pos} {ds : List D} {is : List It} (he : evList (L.ev sc σ) elts = some ds) (hl : ds.length ≤ 1000) (e : ds.mapM dIt = some is) :
    Gv prog w A W s (eval (.List elts p) env) (.list is) := by
  intro Q E h
  refine List_ (evList_ok ok.ev hr he R _ _ fun vs h₁ tk₁ e₁ p₁ => ?_)
  have q := its_of p₁ e
  refine newList_ok (s := { s with heap := h₁, toks := tk₁ }) (R.up e₁).low q (by rw [← q.length, p₁.length]; exact hl) _ _ fun v h₂ tk₂ e₂ b₂ => ?_
  exact h _ _ _ (e₁.trans e₂) b₂

theorem idx_sub {slice : Expr} (h : idxOk slice = true) (o i : Value) : subscripted slice false o i = operate [o, i] (getItem o i) := by
  cases slice <;> first | rfl | cases h
theorem index_ok (ok : LvOk prog w B n L) (hr : Room n A) (R : EnvR prog w B W F env sc σ s.heap) {value slice : Expr} {p : Pos} {a b d : D} (hi : idxOk slice = true) (ha : L.ev sc σ value = some a) (hb : L.ev sc σ slice = some b) (e : itemD a b = some d) :
    Gv prog w A W s (eval (.Subscript value slice p) env) d := by
  intro Q E h
  refine Subscript_ (ok.ev ha hr R _ _ fun v h₁ tk₁ e₁ b₁ => ?_)
  refine ok.ev hb hr (s := { s with heap := h₁, toks := tk₁ }) (R.up e₁) _ _ fun u h₂ tk₂ e₂ b₂ => ?_
  refine item_ok (s := { s with heap := h₂, toks := tk₂ }) (b₁.up (e₂.mono fun _ q => by cases q)) b₂ e (idx_sub hi) _ _ fun x h₃ tk₃ e₃ b₃ => ?_
  exact h _ _ _ ((e₁.trans e₂).trans e₃) b₃
theorem upto_ok (ok : LvOk prog w B n L) (hr : Room n A) (R : EnvR prog w B W F env sc σ s.heap) {value : Expr} {kc : Nat} {kp sp p : Pos} {k : Key} (ha : L.ev sc σ value = some (.key k)) (hk : k.length = 4) :
    Gv prog w A W s (eval (.Subscript value (.Slice none (some (.Constant (.int 3) kc kp)) none sp) p) env) (.key (k.take 3)) := by
  intro Q E h
  refine Subscript_ (ok.ev ha hr R _ _ fun v h₁ tk₁ e₁ b₁ => ?_)
  refine upto3_ok (s := { s with heap := h₁, toks := tk₁ }) (ops := []) (R.up e₁).low b₁ hk _ _ fun x h₃ tk₃ e₃ b₃ => ?_
  exact h _ _ _ (e₁.trans e₃) b₃
theorem back_ok (ok : LvOk prog w B n L) (hr : Room n A) (R : EnvR prog w B W F env sc σ s.heap) {value : Expr} {kc : Nat} {kp up sp p : Pos} {l : List It} (ha : L.ev sc σ value = some (.list l)) (hl : l.length ≤ 1000) :
    Gv prog w A W s (eval (.Subscript value (.Slice none none (some (.UnaryOp .USub (.Constant (.int 1) kc kp) up)) sp) p) env) (.list l.reverse) := by
  intro Q E h
  refine Subscript_ (ok.ev ha hr R _ _ fun v h₁ tk₁ e₁ b₁ => ?_)
  refine rev_ok (s := { s with heap := h₁, toks := tk₁ }) (R.up e₁).low b₁ hl _ _ fun x h₃ tk₃ e₃ b₃ => ?_
  exact h _ _ _ (e₁.trans e₃) b₃
theorem ifexp_ok (ok : LvOk prog w B n L) (hr : Room n A) (R : EnvR prog w B W F env sc σ s.heap) {t b o : Expr} {p : Pos} {c : Bool} {d : D} (ht : L.tr sc σ t = some c) (hb : (if c = true then L.ev sc σ b else L.ev sc σ o) = some d) :
    Gv prog w A W s (eval (.IfExp t b o p) env) d := by
  intro Q E h
  refine wpAny_IfExp (ok.tr ht hr R _ _ fun h₁ tk₁ e₁ => ?_)
  cases c with
  | true => exact ok.ev (by simpa using hb) hr (s := { s with heap := h₁, toks := tk₁ }) (R.up e₁) _ _ fun v h₂ tk₂ e₂ b₂ => h _ _ _ (e₁.trans e₂) b₂
  | false => exact ok.ev (by simpa using hb) hr (s := { s with heap := h₁, toks := tk₁ }) (R.up e₁) _ _ fun v h₂ tk₂ e₂ b₂ => h _ _ _ (e₁.trans e₂) b₂
end
end
end Mine
end PartN4

section PartN5
open PySem PySem.W PySem.Calls PyProof.Rows
set_option Elab.async false
namespace Mine

noncomputable def builtOf (f : Str) : Option Value :=
  if f = sLen then some (.builtin "len") else if f = sSum then some (.builtin "sum") else if f = sList then some (.type "list") else if f = sBytes then some (.type "bytes")
  else if f = sDict then some (.type "dict") else if f = sIsi then some (.builtin "isinstance") else if f = sTuple then some (.type "tuple") else if f = sRange then some (.type "range")
  else if f = sBytearray then some (.type "bytearray") else none

/-- what stands under every frame -/
structure Bas (tab : Str → Option DefRec) (mg mb : Str → Option Value) (B : Heap) : Prop where
  g : B.Ns mainGlobals mg
  b : B.Ns builtinsNs mb
  nolimit : B.NoLimit
  prim : ∀ f v, builtOf f = some v → mg f = none ∧ mb f = some v
  fn : ∀ f d, tab f = some d → f ≠ Str.ofString "__debug__" ∧ ∃ a o pm code doc, mg f = some (.ref a) ∧ B.get? a = some o ∧ o.data = .func (docDef d.name d.params d.body d.scope pm code doc) ∧ B.CodeRec code d.name

section
variable {prog : Program} {w : World} {A : Around} {E : Value → Shared → Prop} {s : Shared} {B : Heap} {W F : List Addr} {env : Env} {sc : Scope} {σ : Sg} {n : Nat} {L : Lv} {tab : Str → Option DefRec} {mg mb : Str → Option Value}

theorem Bas.sys (K : Bas tab mg mb B) (R : EnvR prog w B W F env sc σ s.heap) : sysModules < s.heap.objs.size := by
  obtain ⟨mc, ⟨o, es, ep, ho, _⟩, _⟩ := K.nolimit
  exact Nat.lt_trans (by decide : sysModules < cStatics) (Heap.lt_size (R.keep _ _ ho))
theorem EnvR.keeps (R : EnvR prog w B W F env sc σ s.heap) : ∀ b o, B.get? b = some o → s.heap.get? b = some o := R.keep

theorem glob_ok (K : Bas tab mg mb B) (R : EnvR prog w B W F env sc σ s.heap) {f : Str} {p : Pos} {v : Value} (hg : isGlob sc f = true) (hb : builtOf f = some v) {Q : Value → Shared → Prop} (h : Q v s) :
    wpAny (model prog w) A (eval (.Name f p) env) Q E s := by
  obtain ⟨h1, h2⟩ := K.prim f v hb
  have hx : env.kindOf f = some .globalImplicit := by show env.scope.names.lookup f = _; rw [R.is]; exact eq_of_beq hg
  refine Name_function_global (by rw [R.is, R.fn]) hx (loadGlobal_builtin (mg := mg) (mb := mb) ?_ h1 ?_ h2 h) ?_
  · rw [R.gl]; exact K.g.keeps R.keep
  · rw [R.bl]; exact K.b.keeps R.keep
  · refine beq_eq_false_iff_ne.mpr fun q => ?_
    subst q
    rw [show builtOf (Str.ofString "__debug__") = none by decide +kernel] at hb
    cases hb

theorem evalArgs_of {f : Value} {x : Expr} {r : List Expr} {pos : Pos} {Q : Args → Shared → Prop} (hx : starless x = true)
    (h : wpAny (model prog w) A (spliced (backTo pos (starEach (x :: r) env))) (fun vs s' => Q ⟨vs, []⟩ s') E s) : wpAny (model prog w) A (evalArgs f true (backTo pos (starEach (x :: r) env)) []) Q E s := by
  rw [star_plain hx] at h ⊢
  exact evalArgs_plain h

theorem dict0_ok (K : Bas tab mg mb B) (R : EnvR prog w B W F env sc σ s.heap) {p : Pos} : Gv prog w A W s (eval (.Dict [] [] p) env) (.dict []) := by
  intro Q E h
  refine wpAny_Dict_empty (h _ _ _ (Ext.push _ _ _) ⟨_, rfl, fresh_off R.low, ?_, [], Heap.DictOfH.new s.heap, .nil⟩)
  have : s.heap.objs.size ≠ sysModules := Nat.ne_of_gt (K.sys R)
  simpa using this
theorem dict1_ok (K : Bas tab mg mb B) (ok : LvOk prog w B n L) (hr : Room n A) (R : EnvR prog w B W F env sc σ s.heap) {k v : Expr} {p : Pos} {a : Key} {m : Int} (hk : L.ev sc σ k = some (.key a)) (hv : L.ev sc σ v = some (.int m)) :
    Gv prog w A W s (eval (.Dict [some k] [v] p) env) (.dict [(a, m)]) := by
  intro Q E h
  have hs : s.heap.objs.size ≠ sysModules := Nat.ne_of_gt (K.sys R)
  have e0 : eval (.Dict [some k] [v] p) env = (do standAt p; dictDisplay ([(eval k env, do let x ← eval v env; standAt p; pure x)].map fun q => (some q.1, q.2))) := by
    rw [arm_eval_Dict]; rfl
  rw [e0, dictDisplay_pairs _ (by simp) (by simp)]
  refine wpAny_bind (wpAny_standAt (wpAny_bind ?_))
  unfold subDict
  refine wpAny_bind (wpAny_alloc (wpAny_bind (wpAny_holding ?_)))
  rw [if_pos (by simp)]
  have eP : Ext [] s.heap (s.heap.push { cls := .type "dict", data := .dict #[] }) := Ext.push _ _ _
  have hdn : s.heap.get? s.heap.objs.size = none := by
    cases q : s.heap.get? s.heap.objs.size with
    | none => rfl
    | some o => exact absurd (Heap.lt_size q) (Nat.lt_irrefl _)
  have hnew : (s.heap.push { cls := .type "dict", data := .dict #[] }).DictOfH (knd prog w) s.heap.objs.size [] := Heap.DictOfH.new s.heap
  have hd0 : ∃ o, (s.heap.push { cls := .type "dict", data := .dict #[] }).get? s.heap.objs.size = some o := ⟨_, Heap.get?_push_size _ rfl⟩
  generalize hd : s.heap.objs.size = d at *
  have R0 := R.more (N := [d]) (fun I hI => by rw [List.mem_singleton.mp hI]; exact hdn) eP (fun I hI => by rw [List.mem_singleton.mp hI]; exact hd0)
  refine wpAny_bind ?_
  refine evalPairs_cons (ok.ev hk hr (s := { s with heap := s.heap.push { cls := .type "dict", data := .dict #[] } }) R0 _ _ fun x h₁ tk₁ e₁ b₁ => ?_)
  refine wpAny_bind ?_
  refine ok.ev hv hr (s := { s with heap := h₁, toks := tk₁ }) (R0.up e₁) _ _ fun y h₂ tk₂ e₂ b₂ => ?_
  refine wpAny_bind (wpAny_standAt (wpAny_pure (evalPairs_nil ?_)))
  obtain ⟨ka, rfl, kn, kt⟩ := b₁
  obtain ⟨t, rfl⟩ := b₂
  have e12 := e₁.trans e₂
  have hD : h₂.DictOfH (knd prog w) d [] := by
    obtain ⟨o, es, ep, r0, r1, r2, r3, r4, r5⟩ := hnew
    exact ⟨o, es, ep, e12 _ _ (by simp) r0, r1, r2, r3, fun y hy => (by cases hy), r5⟩
  refine wpAny_holding ?_
  simp only [List.forIn_cons, List.forIn_nil]
  refine wpAny_bind (wpAny_bind (wpAny_bind (wpAny_dictSet_heap (knd := knd prog w) (k := a) (xs := []) (by show A.units < cLine; have := hr.un; omega) (IsTupleKey.up kt fun o => e₂ ka o (by simp)) hD (fun h' hD' hs' => ?_) (by simp))))
  refine wpAny_pure (wpAny_pure (wpAny_pure (wpAny_pure (wpAny_pure ?_))))
  have kd : ka ≠ d := fun q => kn (by rw [q]; simp)
  refine h _ h' _ (fun b o _ q => ?_) ⟨d, rfl, ?_, by simpa using hs, _, hD', ?_⟩
  · refine hs'.extBut b o (fun z => ?_) (e12 _ _ (by simp) (eP _ _ (by simp) q))
    subst z; rw [hdn] at q; cases q
  · intro q; exact Nat.lt_irrefl _ (hd ▸ R.low d q)
  · exact put_pair (xs := []) (l := []) .nil (fun q => kn (by simp [q]))

/-- the calls of the kit's own functions -/
theorem prim_ok (K : Bas tab mg mb B) (ok : LvOk prog w B n L) (hr : Room n A) (R : EnvR prog w B W F env sc σ s.heap) {f : Str} {fp p : Pos} {args : List Expr} {ds : List D} {d : D} (hg : isGlob sc f = true) (he : evList (L.ev sc σ) args = some ds) (e : primD f ds = some d) :
    Gv prog w A W s (eval (.Call (.Name f fp) args [] p) env) d := by
  intro Q E h
  have hne : ∃ x r, args = x :: r := by
    cases args with
    | nil => cases he; cases e
    | cons x r => exact ⟨x, r, rfl⟩
  obtain ⟨x, r, rfl⟩ := hne
  have hx : starless x = true := by
    unfold evList at he
    split at he
    · assumption
    · cases he
  have pl := evList_plain he env p
  have go : ∀ v, builtOf f = some v → (∀ vs (s' : Shared), s'.gens = s.gens → s'.drawn = s.drawn → s'.os = s.os → EnvR prog w B W F env sc σ s'.heap → Paired (DB prog w W s'.heap) vs ds → Gv prog w A W s' (call v vs) d) →
      (∀ Q' E' s', wpAny (model prog w) A (evalArgs v true (backTo p (starEach (x :: r) env)) []) (fun a s₁ => wpAny (model prog w) A (call v ([] ++ a.pos) a.kw) Q' E' s₁) E' s' → wpAny (model prog w) A (callWith p v [] (backTo p (starEach (x :: r) env)) []) Q' E' s') →
      wpAny (model prog w) A (eval (.Call (.Name f fp) (x :: r) [] p) env) Q E s := by
    intro v hv hcall hwith
    refine Call_ (glob_ok K R hg hv (hwith _ _ _ ?_))
    refine evalArgs_of hx ?_
    refine evList_ok ok.ev hr he R _ _ fun vs h₁ tk₁ e₁ p₁ => ?_
    refine hcall vs { s with heap := h₁, toks := tk₁ } rfl rfl rfl (R.up e₁) p₁ _ _ fun u h₂ tk₂ e₂ b₂ => ?_
    exact h _ _ _ (e₁.trans e₂) b₂
  have wb : ∀ id Q' E' s', wpAny (model prog w) A (evalArgs (.builtin id) true (backTo p (starEach (x :: r) env)) []) (fun a s₁ => wpAny (model prog w) A (call (.builtin id) ([] ++ a.pos) a.kw) Q' E' s₁) E' s' → wpAny (model prog w) A (callWith p (.builtin id) [] (backTo p (starEach (x :: r) env)) []) Q' E' s' :=
    fun id Q' E' s' => callWith_builtin pl
  have wt : ∀ T Q' E' s', wpAny (model prog w) A (evalArgs (.type T) true (backTo p (starEach (x :: r) env)) []) (fun a s₁ => wpAny (model prog w) A (call (.type T) ([] ++ a.pos) a.kw) Q' E' s₁) E' s' → wpAny (model prog w) A (callWith p (.type T) [] (backTo p (starEach (x :: r) env)) []) Q' E' s' :=
    fun T Q' E' s' => PySem.callWith_type pl
  have one : ∀ {u : D} {vs : List Value} {hp : Heap}, Paired (DB prog w W hp) vs [u] → ∃ v, vs = [v] ∧ DB prog w W hp v u := by
    intro u vs hp q
    cases q with
    | cons a t => cases t; exact ⟨_, rfl, a⟩
  unfold primD at e
  split at e
  · split at e
    · rename_i b hb
      split at e
      · rename_i hf; cases e
        refine go (.builtin "len") (by rw [hf]; rfl) (fun vs s' _ _ _ R' q => ?_) (wb _)
        obtain ⟨v, rfl, z⟩ := one q
        exact len_byt_ok z hb
      · split at e
        · rename_i hf; cases e
          refine go (.type "list") (by rw [hf]; rfl) (fun vs s' _ _ _ R' q => ?_) (wt _)
          obtain ⟨v, rfl, z⟩ := one q
          exact list_byt_ok R'.low hr.hh z hb
        · cases e
    · cases e
  · split at e
    · rename_i l hl
      split at e
      · rename_i hf; cases e
        refine go (.builtin "len") (by rw [hf]; rfl) (fun vs s' _ _ _ R' q => ?_) (wb _)
        obtain ⟨v, rfl, z⟩ := one q
        exact len_list_ok z hl
      · split at e
        · rename_i hf
          obtain ⟨ns, hns, rfl⟩ := Option.map_eq_some_iff.mp e
          refine go (.builtin "sum") (by rw [hf]; rfl) (fun vs s' _ _ _ R' q => ?_) (wb _)
          obtain ⟨v, rfl, z⟩ := one q
          exact sum_ok hr.hh z hns
        · split at e
          · rename_i hf
            split at e
            · rename_i ns hns
              split at e
              · rename_i hall; cases e
                refine go (.type "bytes") (by rw [hf]; rfl) (fun vs s' _ _ _ R' q => ?_) (wt _)
                obtain ⟨v, rfl, z⟩ := one q
                exact bytes_list_ok hr.hh z hns hall hl
              · cases e
            · cases e
          · split at e
            · rename_i hf
              obtain ⟨res, hres, rfl⟩ := Option.map_eq_some_iff.mp e
              refine go (.type "dict") (by rw [hf]; rfl) (fun vs s' _ _ _ R' q => ?_) (wt _)
              obtain ⟨v, rfl, z⟩ := one q
              exact dict_list_ok R'.low (K.sys R') hr.hh (by have := hr.un; omega) z hres hl
            · cases e
    · cases e
  · cases e

theorem isi_ok (K : Bas tab mg mb B) (ok : LvOk prog w B n L) (hr : Room n A) (R : EnvR prog w B W F env sc σ s.heap) {fp tp p : Pos} {a : Expr} {m : Int} (hg : isGlob sc sIsi = true) (ht : isGlob sc sTuple = true) (hs : starless a = true) (ha : L.ev sc σ a = some (.int m)) :
    Gv prog w A W s (eval (.Call (.Name sIsi fp) [a, .Name sTuple tp] [] p) env) (.bool false) := by
  intro Q E h
  refine Call_ (glob_ok K R hg (v := .builtin "isinstance") rfl (callWith_builtin ?_ ?_))
  · rw [star_plain hs]; rfl
  rw [star_plain hs]
  refine evalArgs_plain ?_
  refine spliced_cons (ok.ev ha hr R _ _ fun v h₁ tk₁ e₁ b₁ => ?_)
  refine spliced_cons (glob_ok (s := { s with heap := h₁, toks := tk₁ }) K (R.up e₁) ht (v := .type "tuple") rfl (spliced_nil ?_))
  refine isi_int_tuple (s := { s with heap := h₁, toks := tk₁ }) (W := W) b₁ _ _ fun u h₂ tk₂ e₂ b₂ => ?_
  exact h _ _ _ (e₁.trans e₂) b₂
end
end Mine
end PartN5

section PartN6
open PySem PySem.W PySem.Calls PyProof.Rows
set_option Elab.async false
namespace Mine

/-- a dict's rows, whatever its keys are -/
noncomputable def RawD (h : Heap) (d : Addr) (es : Array DictEntry) (ep : Nat) : Prop := ∃ o, h.get? d = some o ∧ o.ExactDict ∧ o.data = .dict es ep
theorem RawD.at {h h' : Heap} {d : Addr} {es ep} (x : RawD h d es ep) (e : ∀ o, h.get? d = some o → h'.get? d = some o) : RawD h' d es ep := let ⟨o, ho, r⟩ := x; ⟨o, e o ho, r⟩
theorem RawD.typeIs {s : Shared} {d : Addr} {es ep} (x : RawD s.heap d es ep) : s.TypeIs (.ref d) "dict" := let ⟨o, ho, hc, _⟩ := x; ⟨o, ho, hc.1⟩

section
variable {prog : Program} {w : World} {A : Around} {E : Value → Shared → Prop} {s : Shared}

theorem made_items {d : Addr} {es ep} (hd : (d == sysModules) = false) :
    MeetsIn prog w (Builtin.«dict.items» ⟨[.ref d], []⟩) (fun _ R s => RawD s.heap d es ep ∧ R (.ok (.ret (.ref s.heap.objs.size))) { s with heap := s.heap.push { cls := .type "dict_items", data := .fields #[.ref d] } }) :=
  .of_wp fun A R s ⟨hm, h⟩ => by
    unfold Builtin.«dict.items»
    refine wpAny_bind ?_
    unfold Builtin.Dict.noArgs
    refine wpAny_bind (wpAny_notOrdered_dict hm.typeIs ?_)
    show wpAny _ _ (pure d) _ _ s
    refine wpAny_pure ?_
    show wpAny _ _ (Builtin.Dict.showsAll d >>= _) _ _ s
    unfold Builtin.Dict.showsAll
    rw [if_neg (by rw [hd]; exact Bool.false_ne_true)]
    exact wpAny_bind (wpAny_pure (wpAny_bind (wpAny_newObj_type (wpAny_pure ⟨_, rfl, h⟩))))
theorem made_values {d : Addr} {es ep} (hd : (d == sysModules) = false) :
    MeetsIn prog w (Builtin.«dict.values» ⟨[.ref d], []⟩) (fun _ R s => RawD s.heap d es ep ∧ R (.ok (.ret (.ref s.heap.objs.size))) { s with heap := s.heap.push { cls := .type "dict_values", data := .fields #[.ref d] } }) :=
  .of_wp fun A R s ⟨hm, h⟩ => by
    refine wpAny_bind ?_
    unfold Builtin.Dict.noArgs
    refine wpAny_bind (wpAny_notOrdered_dict hm.typeIs ?_)
    show wpAny _ _ (pure d) _ _ s
    refine wpAny_pure ?_
    show wpAny _ _ (Builtin.Dict.showsAll d >>= _) _ _ s
    unfold Builtin.Dict.showsAll
    rw [if_neg (by rw [hd]; exact Bool.false_ne_true)]
    exact wpAny_bind (wpAny_pure (wpAny_bind (wpAny_newObj_type (wpAny_pure ⟨_, rfl, h⟩))))

theorem iter_items {v d : Addr} {es ep} {Q : Value → Shared → Prop} (hv : s.heap.IsItemsView v d) (hm : RawD s.heap d es ep)
    (hQ : Q (.ref s.heap.objs.size) { s with heap := s.heap.push { cls := .type "dict_itemiterator", data := .fields #[.none, .bool false, .ref d, .int 0 0, .int es.size 0, .int ep 0, .none, .none] } }) :
    wpAny (model prog w) A (pyIter (.ref v)) Q E s := by
  obtain ⟨ov, hov, hcv, hdv⟩ := id hv
  obtain ⟨o, ho, hc, hdat⟩ := id hm
  refine wpAny_pyIter_slot hv.typeIs PySem.F.slot_dict_items_iter (wpAny_call_entry PySem.F.slot_dict_items_iter hv.typeIs PySem.F.entry_dict_items_iter ?_ (PySem.F.args_dict_items_iter_1 _))
  unfold Builtin.«dict_items.__iter__»
  refine wpAny_bind (wpAny_pure (wpAny_bind ?_))
  unfold Builtin.Dict_items.dictOf
  refine wpAny_bind (wpAny_field hov hdv (x := .ref d) rfl (wpAny_pure (wpAny_bind ?_)))
  unfold Builtin.Dict_items.newIterator
  refine wpAny_bind (wpAny_dictEntries ho hdat (wpAny_bind (wpAny_dictEpoch ho hdat ?_)))
  have hown : Builtin.Dict_items.ownsTuple "dict_itemiterator" = true := by decide
  simp only [hown, if_true]
  refine wpAny_newObj_type (wpAny_pure ⟨_, rfl, "dict_itemiterator", _, ⟨_, Heap.get?_push_size _ rfl, rfl⟩, PySem.F.slot_dict_itemiterator_next.lookup, ?_⟩)
    (by simp only [sizeOk, Builtin.Dict_items.ownedTupleFields, List.size_toArray, List.length_append, List.length_cons, List.length_nil, sizeLine_eq]; omega)
  simpa [rawInt, Builtin.Dict_items.ownedTupleFields] using hQ
theorem iter_values {v d : Addr} {es ep} {Q : Value → Shared → Prop} (hv : s.heap.IsValuesView v d) (hm : RawD s.heap d es ep)
    (hQ : Q (.ref s.heap.objs.size) { s with heap := s.heap.push { cls := .type "dict_valueiterator", data := .fields #[.ref d, .int 0 0, .int es.size 0, .int ep 0] } }) :
    wpAny (model prog w) A (pyIter (.ref v)) Q E s := by
  obtain ⟨ov, hov, hcv, hdv⟩ := id hv
  obtain ⟨o, ho, hc, hdat⟩ := id hm
  refine wpAny_pyIter_slot hv.typeIs PySem.F.slot_dict_values_iter (wpAny_call_entry PySem.F.slot_dict_values_iter hv.typeIs PySem.F.entry_dict_values_iter ?_ (PySem.F.args_dict_values_iter_1 _))
  unfold Builtin.«dict_values.__iter__»
  refine wpAny_bind (wpAny_pure (wpAny_bind ?_))
  unfold Builtin.Dict_items.dictOf
  refine wpAny_bind (wpAny_field hov hdv (x := .ref d) rfl (wpAny_pure (wpAny_bind ?_)))
  unfold Builtin.Dict_items.newIterator
  refine wpAny_bind (wpAny_dictEntries ho hdat (wpAny_bind (wpAny_dictEpoch ho hdat ?_)))
  have hown : Builtin.Dict_items.ownsTuple "dict_valueiterator" = false := by decide
  simp only [hown, Bool.false_eq_true, if_false]
  refine wpAny_newObj_type (wpAny_pure ⟨_, rfl, "dict_valueiterator", _, ⟨_, Heap.get?_push_size _ rfl, rfl⟩, PySem.F.slot_dict_valueiterator_next.lookup, ?_⟩)
  simpa [rawInt] using hQ


theorem next_item {it d : Addr} {i ep : Nat} {es : Array DictEntry} {x : DictEntry} {ok ov : Value} {Q : Option Value → Shared → Prop} (hit : IsItemIter s.heap it d i es.size ep ok ov)
    (hm : RawD s.heap d es ep) (hx : es[i]? = some x)
    (hQ : ∀ h', IsItemIterOut h' it d (i + 1) es.size ep x.key x.val s.heap.objs.size → h'.get? s.heap.objs.size = some { cls := .type "tuple", data := .seq #[x.key, x.val] } →
      (∀ b o, b ≠ it → s.heap.get? b = some o → h'.get? b = some o) → Q (some (.ref s.heap.objs.size)) { s with heap := h' }) :
    wpAny (model prog w) A (pyNext (.ref it)) Q E s := by
  obtain ⟨hp, g, dr, tk, os⟩ := s
  obtain ⟨od, hod, hcd, hdd⟩ := id hm
  have hT : Shared.TypeIs ⟨hp, g, dr, tk, os⟩ (.ref it) "dict_itemiterator" := ⟨_, hit, rfl⟩
  unfold pyNext
  refine wpAny_bind (wpAny_attempt (wpAny_callSpecial?_slot (name := Str.ofString "__next__") hT PySem.F.slot_dict_itemiterator_next
    (wpAny_call_entry PySem.F.slot_dict_itemiterator_next hT PySem.F.entry_dict_itemiterator_next ?_ (PySem.F.args_dict_itemiterator_next_1 _))))
  refine wpAny_bind (wpAny_pure (wpAny_bind (wpAny_bind ?_)))
  first | refine wpAny_bind (wpAny_typeNameOfWhole_itemiter hT (wpAny_pure ?_)) | refine wpAny_bind (wpAny_typeNameOf_itemiter hT (wpAny_pure ?_))
  refine wpAny_bind (wpAny_fieldsOf hit rfl ?_)
  have hown : Builtin.Dict_items.ownsTuple "dict_itemiterator" = true := by decide
  simp only [hown, if_true]
  show wpAny _ _ (if (Value.ref d == Value.none) = true then _ else _) _ _ _
  rw [if_neg (show ¬ ((Value.ref d == Value.none) = true) from Bool.false_ne_true)]
  refine wpAny_bind (wpAny_pure (wpAny_bind (wpAny_dictEntries hod hdd ?_)))
  rw [if_neg (by simp)]
  refine wpAny_bind (wpAny_pure (wpAny_bind (wpAny_dictEpoch hod hdd ?_)))
  rw [if_neg (by simp)]
  refine wpAny_pure ?_
  have hlt : i < es.size := (Array.getElem?_eq_some_iff.mp hx).1
  have hxe : es[i] = x := (Array.getElem?_eq_some_iff.mp hx).2
  simp only [show ¬ ((i : Int) < 0) from by omega, if_false, Int.toNat_natCast, Array.getElem?_eq_getElem hlt]
  rw [hxe]
  refine wpAny_bind ?_
  first | refine wpAny_bind (wpAny_typeNameOfWhole_itemiter hT (wpAny_pure ?_)) | refine wpAny_bind (wpAny_typeNameOf_itemiter hT (wpAny_pure ?_))
  refine wpAny_bind (wpAny_isOneOf_itemiter hT ?_)
  show wpAny _ _ (setField (.ref it) 3 (rawInt ((i : Int) + 1)) >>= _) _ _ ⟨hp, g, dr, tk, os⟩
  refine wpAny_bind (wpAny_setField_rec hit (by simp) fun h₁ he₁ hs₁ => ?_)
  replace hs₁ : Heap.SameBut it hp h₁ := hs₁
  replace he₁ : IsItemIter h₁ it d (i + 1) es.size ep ok ov := by
    have e : ((i + 1 : Nat) : Int) = (i : Int) + 1 := by omega
    unfold IsItemIter; rw [e]; simpa [rawInt] using he₁
  have hT₁ : Shared.TypeIs ⟨h₁, g, dr, tk, os⟩ (.ref it) "dict_itemiterator" := ⟨_, he₁, rfl⟩
  refine wpAny_bind (wpAny_holding ?_)
  refine wpAny_bind (wpAny_isOneOf_itemiter hT₁ ?_)
  refine wpAny_bind (wpAny_isOneOf_itemiter hT₁ ?_)
  show wpAny _ _ (Builtin.Dict_items.pairFromOwner (.ref it) 6 x.key x.val) _ _ ⟨h₁, g, dr, tk, os⟩
  unfold Builtin.Dict_items.pairFromOwner
  refine wpAny_bind (wpAny_newTuple ?_)
  have he₂ : IsItemIter (h₁.push { cls := .type "tuple", data := .seq #[x.key, x.val] }) it d (i + 1) es.size ep ok ov := Heap.get?_push_of_some _ he₁
  generalize hh₂ : h₁.push { cls := .type "tuple", data := .seq #[x.key, x.val] } = h₂ at he₂
  have hz₁ : h₁.objs.size = hp.objs.size := hs₁.1
  have hil : it < hp.objs.size := Heap.lt_size hit
  have ht₂ : h₂.get? hp.objs.size = some { cls := .type "tuple", data := .seq #[x.key, x.val] } := by rw [← hh₂, ← hz₁]; exact Heap.get?_push_size _ rfl
  have hk₂ : ∀ b o, b ≠ it → hp.get? b = some o → h₂.get? b = some o := fun b o hb e => by rw [← hh₂]; exact Heap.get?_push_of_some _ (hs₁.extBut b o hb e)
  show wpAny _ _ (Builtin.Dict_items.ownedTupleIsFree (.ref it) >>= _) _ _ ⟨h₂, g, dr, tk, os⟩
  rw [hz₁]
  clear hh₂ he₁ hs₁ hT₁ hz₁ h₁
  refine wpAny_bind ?_
  unfold Builtin.Dict_items.ownedTupleIsFree
  refine wpAny_bind (wpAny_field he₂ rfl (x := .none) rfl (wpAny_pure ?_))
  simp only [if_true]
  refine wpAny_bind (wpAny_field he₂ rfl (x := ok) rfl ?_)
  refine wpAny_bind (wpAny_field he₂ rfl (x := ov) rfl ?_)
  refine wpAny_bind (wpAny_setField_rec he₂ (by simp) fun h₃ he₃ hs₃ => ?_)
  replace hs₃ : Heap.SameBut it h₂ h₃ := hs₃
  replace he₃ : IsItemIter h₃ it d (i + 1) es.size ep x.key ov := he₃
  refine wpAny_bind (wpAny_setField_rec he₃ (by simp) fun h₄ he₄ hs₄ => ?_)
  replace hs₄ : Heap.SameBut it h₃ h₄ := hs₄
  replace he₄ : IsItemIter h₄ it d (i + 1) es.size ep x.key x.val := he₄
  refine wpAny_bind (wpAny_setField_rec he₄ (by simp) fun h₅ he₅ hs₅ => ?_)
  replace hs₅ : Heap.SameBut it h₄ h₅ := hs₅
  replace he₅ : IsItemIterOut h₅ it d (i + 1) es.size ep x.key x.val hp.objs.size := he₅
  refine wpAny_bind (wpAny_setField_rec he₅ (by simp) fun h₆ he₆ hs₆ => ?_)
  replace hs₆ : Heap.SameBut it h₅ h₆ := hs₆
  replace he₆ : IsItemIterOut h₆ it d (i + 1) es.size ep x.key x.val hp.objs.size := he₆
  have al : ∀ b o, b ≠ it → h₂.get? b = some o → h₆.get? b = some o := fun b o hb e => hs₆.extBut b o hb (hs₅.extBut b o hb (hs₄.extBut b o hb (hs₃.extBut b o hb e)))
  exact wpAny_bind (wpAny_letGo (wpAny_pure (wpAny_pure ⟨_, rfl, wpAny_pure (hQ h₆ he₆ (al _ _ (Nat.ne_of_gt hil) ht₂) fun b o hb e => al b o hb (hk₂ b o hb e))⟩)))

theorem next_item_end {it d : Addr} {i ep : Nat} {es : Array DictEntry} {ok ov : Value} {Q : Option Value → Shared → Prop} (hh : A.handled = none) (hit : IsItemIter s.heap it d i es.size ep ok ov)
    (hm : RawD s.heap d es ep) (hx : es.size ≤ i) (hQ : ∀ h', Heap.ExtBut it s.heap h' → Q none { s with heap := h' }) : wpAny (model prog w) A (pyNext (.ref it)) Q E s := by
  obtain ⟨od, hod, hcd, hdd⟩ := id hm
  have hT : s.TypeIs (.ref it) "dict_itemiterator" := ⟨_, hit, rfl⟩
  unfold pyNext
  refine wpAny_bind (wpAny_attempt (wpAny_callSpecial?_slot (name := Str.ofString "__next__") hT PySem.F.slot_dict_itemiterator_next
    (wpAny_call_entry PySem.F.slot_dict_itemiterator_next hT PySem.F.entry_dict_itemiterator_next ?_ (PySem.F.args_dict_itemiterator_next_1 _))))
  refine wpAny_bind (wpAny_pure (wpAny_bind (wpAny_bind ?_)))
  first | refine wpAny_bind (wpAny_typeNameOfWhole_itemiter hT (wpAny_pure ?_)) | refine wpAny_bind (wpAny_typeNameOf_itemiter hT (wpAny_pure ?_))
  refine wpAny_bind (wpAny_fieldsOf hit rfl ?_)
  have hown : Builtin.Dict_items.ownsTuple "dict_itemiterator" = true := by decide
  simp only [hown, if_true]
  show wpAny _ _ (if (Value.ref d == Value.none) = true then _ else _) _ _ s
  rw [if_neg (show ¬ ((Value.ref d == Value.none) = true) from Bool.false_ne_true)]
  refine wpAny_bind (wpAny_pure (wpAny_bind (wpAny_dictEntries hod hdd ?_)))
  rw [if_neg (by simp)]
  refine wpAny_bind (wpAny_pure (wpAny_bind (wpAny_dictEpoch hod hdd ?_)))
  rw [if_neg (by simp)]
  refine wpAny_pure ?_
  simp only [show ¬ ((i : Int) < 0) from by omega, if_false, Int.toNat_natCast, Array.getElem?_eq_none hx]
  refine wpAny_bind ?_
  first | refine wpAny_bind (wpAny_typeNameOfWhole_itemiter hT (wpAny_pure ?_)) | refine wpAny_bind (wpAny_typeNameOf_itemiter hT (wpAny_pure ?_))
  show wpAny _ _ (setField (.ref it) 2 .none >>= _) _ _ s
  refine wpAny_bind (wpAny_setField hit rfl (by simp) ?_)
  show wpAny _ _ (newExc (.type "StopIteration") [] >>= _) _ _ _
  refine wpAny_bind ?_
  simp only [newExc, newTuple]
  refine wpAny_bind (wpAny_newObj_type ?_ (by size_fits))
  refine wpAny_bind (m := firstArgMember _ _) (wpAny_of_eq (a := Value.none) (by first | rfl | (simp only [firstArgMember]; rfl)) ?_)
  refine wpAny_newObj_type ?_ (by size_fits)
  simp only [raiseNew]
  refine wpAny_bind (wpAny_handled ?_)
  rw [show A.in1.handled = none from hh]
  refine wpAny_bind (wpAny_pure (wpAny_throw ?_))
  refine wpAny_bind (wpAny_isInstance (T := "StopIteration") (b := true) ⟨_, Heap.get?_push_size _ rfl, rfl⟩ isSubtype_stop ?_)
  exact wpAny_pure (hQ _ (((Heap.SameBut.update ..).extBut.push _).push _))

theorem next_value {it d : Addr} {i ep : Nat} {es : Array DictEntry} {x : DictEntry} {Q : Option Value → Shared → Prop} (hit : s.heap.IsValIter it d i es.size ep) (hm : RawD s.heap d es ep) (hx : es[i]? = some x)
    (hQ : ∀ h', h'.IsValIter it d (i + 1) es.size ep → Heap.SameBut it s.heap h' → Q (some x.val) { s with heap := h' }) : wpAny (model prog w) A (pyNext (.ref it)) Q E s := by
  obtain ⟨o, ho, hc, hd⟩ := id hit
  obtain ⟨od, hod, hcd, hdd⟩ := id hm
  unfold pyNext
  refine wpAny_bind (wpAny_attempt (wpAny_callSpecial?_slot (name := Str.ofString "__next__") hit.typeIs PySem.F.slot_dict_valueiterator_next
    (wpAny_call_entry PySem.F.slot_dict_valueiterator_next hit.typeIs PySem.F.entry_dict_valueiterator_next ?_ (PySem.F.args_dict_valueiterator_next_1 _))))
  refine wpAny_bind (wpAny_pure (wpAny_bind (wpAny_bind ?_)))
  first | refine wpAny_bind (wpAny_typeNameOfWhole_valiter hit.typeIs (wpAny_pure ?_)) | refine wpAny_bind (wpAny_typeNameOf_valiter hit.typeIs (wpAny_pure ?_))
  refine wpAny_bind (wpAny_fieldsOf ho hd ?_)
  have hown : Builtin.Dict_items.ownsTuple "dict_valueiterator" = false := by decide
  simp only [hown, Bool.false_eq_true, if_false]
  show wpAny _ _ (if (Value.ref d == Value.none) = true then _ else _) _ _ s
  rw [if_neg (show ¬ ((Value.ref d == Value.none) = true) from Bool.false_ne_true)]
  refine wpAny_bind (wpAny_pure (wpAny_bind (wpAny_dictEntries hod hdd ?_)))
  rw [if_neg (by simp)]
  refine wpAny_bind (wpAny_pure (wpAny_bind (wpAny_dictEpoch hod hdd ?_)))
  rw [if_neg (by simp)]
  refine wpAny_pure ?_
  have hlt : i < es.size := (Array.getElem?_eq_some_iff.mp hx).1
  have hxe : es[i] = x := (Array.getElem?_eq_some_iff.mp hx).2
  simp only [show ¬ ((i : Int) < 0) from by omega, if_false, Int.toNat_natCast, Array.getElem?_eq_getElem hlt]
  rw [hxe]
  refine wpAny_bind ?_
  first | refine wpAny_bind (wpAny_typeNameOfWhole_valiter hit.typeIs (wpAny_pure ?_)) | refine wpAny_bind (wpAny_typeNameOf_valiter hit.typeIs (wpAny_pure ?_))
  refine wpAny_bind (wpAny_isOneOf_valiter hit.typeIs ?_)
  show wpAny _ _ (setField (.ref it) 1 (rawInt ((i : Int) + 1)) >>= _) _ _ s
  refine wpAny_bind (wpAny_setField ho hd (by simp) ?_)
  have hit' : (s.heap.update it (Obj.mapFields (·.setIfInBounds 1 (rawInt ((i : Int) + 1))))).IsValIter it d (i + 1) es.size ep :=
    ⟨_, Heap.get?_update_self _ ho (Obj.isFreed_of_fields (Obj.data_mapFields hd _)), (Obj.cls_mapFields ..).trans hc, by rw [Obj.data_mapFields hd]; simp [rawInt]⟩
  refine wpAny_bind (wpAny_holding ?_)
  refine wpAny_bind (wpAny_isOneOf_valiter (s := { s with heap := s.heap.update it (Obj.mapFields (·.setIfInBounds 1 (rawInt ((i : Int) + 1)))) }) hit'.typeIs ?_)
  refine wpAny_bind (wpAny_isOneOf_valiter (s := { s with heap := s.heap.update it (Obj.mapFields (·.setIfInBounds 1 (rawInt ((i : Int) + 1)))) }) hit'.typeIs ?_)
  show wpAny _ _ (pure x.val) _ _ _
  exact wpAny_pure (wpAny_pure ⟨_, rfl, wpAny_pure (hQ _ hit' (Heap.SameBut.update ..))⟩)

theorem next_value_end {it d : Addr} {i ep : Nat} {es : Array DictEntry} {Q : Option Value → Shared → Prop} (hh : A.handled = none) (hit : s.heap.IsValIter it d i es.size ep)
    (hm : RawD s.heap d es ep) (hx : es.size ≤ i) (hQ : ∀ h', Heap.ExtBut it s.heap h' → Q none { s with heap := h' }) : wpAny (model prog w) A (pyNext (.ref it)) Q E s := by
  obtain ⟨o, ho, hc, hd⟩ := id hit
  obtain ⟨od, hod, hcd, hdd⟩ := id hm
  unfold pyNext
  refine wpAny_bind (wpAny_attempt (wpAny_callSpecial?_slot (name := Str.ofString "__next__") hit.typeIs PySem.F.slot_dict_valueiterator_next
    (wpAny_call_entry PySem.F.slot_dict_valueiterator_next hit.typeIs PySem.F.entry_dict_valueiterator_next ?_ (PySem.F.args_dict_valueiterator_next_1 _))))
  refine wpAny_bind (wpAny_pure (wpAny_bind (wpAny_bind ?_)))
  first | refine wpAny_bind (wpAny_typeNameOfWhole_valiter hit.typeIs (wpAny_pure ?_)) | refine wpAny_bind (wpAny_typeNameOf_valiter hit.typeIs (wpAny_pure ?_))
  refine wpAny_bind (wpAny_fieldsOf ho hd ?_)
  have hown : Builtin.Dict_items.ownsTuple "dict_valueiterator" = false := by decide
  simp only [hown, Bool.false_eq_true, if_false]
  show wpAny _ _ (if (Value.ref d == Value.none) = true then _ else _) _ _ s
  rw [if_neg (show ¬ ((Value.ref d == Value.none) = true) from Bool.false_ne_true)]
  refine wpAny_bind (wpAny_pure (wpAny_bind (wpAny_dictEntries hod hdd ?_)))
  rw [if_neg (by simp)]
  refine wpAny_bind (wpAny_pure (wpAny_bind (wpAny_dictEpoch hod hdd ?_)))
  rw [if_neg (by simp)]
  refine wpAny_pure ?_
  simp only [show ¬ ((i : Int) < 0) from by omega, if_false, Int.toNat_natCast, Array.getElem?_eq_none hx]
  refine wpAny_bind ?_
  first | refine wpAny_bind (wpAny_typeNameOfWhole_valiter hit.typeIs (wpAny_pure ?_)) | refine wpAny_bind (wpAny_typeNameOf_valiter hit.typeIs (wpAny_pure ?_))
  show wpAny _ _ (setField (.ref it) 0 .none >>= _) _ _ s
  refine wpAny_bind (wpAny_setField ho hd (by simp) ?_)
  show wpAny _ _ (newExc (.type "StopIteration") [] >>= _) _ _ _
  refine wpAny_bind ?_
  simp only [newExc, newTuple]
  refine wpAny_bind (wpAny_newObj_type ?_ (by size_fits))
  refine wpAny_bind (m := firstArgMember _ _) (wpAny_of_eq (a := Value.none) (by first | rfl | (simp only [firstArgMember]; rfl)) ?_)
  refine wpAny_newObj_type ?_ (by size_fits)
  simp only [raiseNew]
  refine wpAny_bind (wpAny_handled ?_)
  rw [show A.in1.handled = none from hh]
  refine wpAny_bind (wpAny_pure (wpAny_throw ?_))
  refine wpAny_bind (wpAny_isInstance (T := "StopIteration") (b := true) ⟨_, Heap.get?_push_size _ rfl, rfl⟩ isSubtype_stop ?_)
  exact wpAny_pure (hQ _ (((Heap.SameBut.update ..).extBut.push _).push _))
end
end Mine
end PartN6

section PartN7
open PySem PySem.W PySem.Calls PyProof.Rows
set_option Elab.async false
namespace Mine

/-- an iterator at I that still gives the data l -/
structure Tn (prog : Program) (w : World) (A : Around) (target : Expr) (W : List Addr) (I : Addr) (St : List D → Heap → Prop) (Md : D → List D → Value → Heap → Prop) : Prop where
  frame : ∀ l h h', St l h → Ext W h h' → (∀ o, h.get? I = some o → h'.get? I = some o) → St l h'
  here : ∀ l h, St l h → ∃ o, h.get? I = some o
  item : ∀ d l (s : Shared) (Q : Option Value → Shared → Prop) (E : Value → Shared → Prop), St (d :: l) s.heap → (∀ a ∈ W, a < s.heap.objs.size) →
    (∀ v h' tk, Md d l v h' → Ext [I] s.heap h' → Q (some v) { s with heap := h', toks := tk }) → wpAny (model prog w) A (pyNext (.ref I)) Q E s
  go : ∀ d l v (s : Shared) (Q : Unit → Shared → Prop) (E : Value → Shared → Prop), Md d l v s.heap →
    (∀ h', DB prog w W h' v d → St l h' → Ext [I] s.heap h' → Q () { s with heap := h' }) → wpAny (model prog w) A (letOwnedTupleGo target (.ref I) v) Q E s
  done : ∀ (s : Shared) (Q : Option Value → Shared → Prop) (E : Value → Shared → Prop), St [] s.heap →
    (∀ h' tk, Ext [I] s.heap h' → Q none { s with heap := h', toks := tk }) → wpAny (model prog w) A (pyNext (.ref I)) Q E s
  self : ∀ l (s : Shared) (Q : Value → Shared → Prop) (E : Value → Shared → Prop), St l s.heap → Q (.ref I) s → wpAny (model prog w) A (pyIter (.ref I)) Q E s

section
variable {prog : Program} {w : World} {A : Around} {E : Value → Shared → Prop} {s : Shared}

theorem ext_but {a : Addr} {h h' : Heap} (k : Heap.ExtBut a h h') : Ext [a] h h' := fun b o n e => k b o (fun q => n (by rw [q]; simp)) e
theorem ext_same {a : Addr} {h h' : Heap} (k : Heap.SameBut a h h') : Ext [a] h h' := Ext.same k (by simp)

/-- an iterator that owns no tuple -/
theorem go_plain {target : Expr} {I : Addr} {v : Value} {n : String} {o : Obj} {Q : Unit → Shared → Prop} (ho : s.heap.get? I = some o) (hc : o.cls = .type n)
    (hn : ["enumerate", "zip", "dict_itemiterator", "dict_reverseitemiterator", "odict_iterator", "itertools.zip_longest", "itertools.pairwise"].contains n = false) (h : Q () s) : wpAny (model prog w) A (letOwnedTupleGo target (.ref I) v) Q E s := by
  have key : wpAny (model prog w) A (do
      let (.ref r, .ref a) := (Value.ref I, v) | return
      let o ← load r
      match o.cls, o.data with
      | .type n, .fields vs =>
        if ["enumerate", "zip", "dict_itemiterator", "dict_reverseitemiterator", "odict_iterator", "itertools.zip_longest", "itertools.pairwise"].contains n && vs[0]? == some (rawInt a) then
          rule "for.unpacks-the-owned-tuple"
          updateField r 0 .none
      | _, _ => pure ()) Q E s := by
    cases v with
    | ref a =>
      refine wpAny_bind (wpAny_load ho ?_)
      rw [hc]
      cases hd : o.data with
      | fields vs =>
        dsimp only
        rw [hn, Bool.false_and, if_neg (by decide)]
        exact wpAny_pure h
      | _ => exact wpAny_pure h
    | _ => exact wpAny_pure h
  cases target <;> first | exact wpAny_pure h | exact key

theorem drop_cons {α : Type} {l : List α} {i : Nat} {x : α} {r : List α} (e : x :: r = l.drop i) : l[i]? = some x ∧ r = l.drop (i + 1) := by
  have h1 : (l.drop i)[0]? = some x := by rw [← e]; rfl
  refine ⟨by simpa using h1, ?_⟩
  have : (l.drop i).drop 1 = r := by rw [← e]; rfl
  rw [← this, List.drop_drop]
theorem drop_nil {α : Type} {l : List α} {i : Nat} (e : [] = l.drop i) : l.length ≤ i := by
  have := congrArg List.length e
  simp at this; omega

section
variable {W : List Addr} {I : Addr}
theorem Tn.list {target : Expr} {a : Addr} {l : List It} (hh : A.handled = none) (hI : I ∈ W) (ha : a ∉ W) :
    Tn prog w A target W I (fun rest h => ∃ i, h.IsListIter I a i ∧ ListB prog w W h a l ∧ rest = (l.map itD).drop i) (fun d rest v h => DB prog w W h v d ∧ ∃ i, h.IsListIter I a i ∧ ListB prog w W h a l ∧ rest = (l.map itD).drop i) where
  frame := fun r h h' ⟨i, h1, h2, h3⟩ e eI => ⟨i, (let ⟨o, ho, q⟩ := h1; ⟨o, eI o ho, q⟩), h2.at' e fun o => e a o ha, h3⟩
  here := fun r h ⟨i, ⟨o, ho, _⟩, _⟩ => ⟨o, ho⟩
  item := fun d r s Q E ⟨i, h1, ⟨vs, h2, hp⟩, h3⟩ _ hQ => by
    obtain ⟨e1, e2⟩ := drop_cons h3
    rw [List.getElem?_map] at e1
    obtain ⟨it, e3, rfl⟩ := Option.map_eq_some_iff.mp e1
    obtain ⟨v, hv, hb⟩ := paired_get hp e3
    have aI : a ≠ I := fun q => ha (q ▸ hI)
    refine wpAny_pyNext_list_item h1 h2.isList (x := v) (by simpa using hv) fun h' hit' hs' => ?_
    have eW : Ext W s.heap h' := Ext.same hs' hI
    exact hQ v h' s.toks ⟨(itD_ok hb).up eW, i + 1, hit', ⟨vs, h2.at fun o => hs'.extBut a o aI, hp.mono fun _ _ q => q.up eW⟩, e2⟩ (ext_same hs')
  go := fun d r v s Q E ⟨hb, i, h1, h2⟩ hQ => by
    obtain ⟨o, ho, hc, _⟩ := id h1
    exact go_plain ho hc (by decide) (hQ s.heap hb ⟨i, h1, h2⟩ (Ext.refl _ _))
  done := fun s Q E ⟨i, h1, ⟨vs, h2, hp⟩, h3⟩ hQ => by
    have := drop_nil h3
    rw [List.length_map, ← hp.length] at this
    exact wpAny_pyNext_list_end hh h1 h2.isList (by simpa using this) fun h' he => hQ h' s.toks (ext_but he)
  self := fun r s Q E ⟨i, h1, _⟩ hQ => wpAny_pyIter_listiter h1 hQ

theorem upFrom_length (a c : Int) : ∀ n, (upFrom a c n).length = n
  | 0 => rfl
  | n + 1 => by simp [upFrom, upFrom_length (a + c) c n]
theorem Tn.range {target : Expr} {c : Int} (hh : A.handled = none) (hI : I ∈ W) :
    Tn prog w A target W I (fun rest h => ∃ x left, IsRangeIter h I x left c ∧ rest = upFrom x c left.toNat) (fun d rest v h => (∃ n t, v = .int n t ∧ d = .int n) ∧ ∃ x left, IsRangeIter h I x left c ∧ rest = upFrom x c left.toNat) where
  frame := fun r h h' ⟨x, left, h1, h2⟩ e eI => ⟨x, left, eI _ h1, h2⟩
  here := fun r h ⟨x, left, h1, _⟩ => ⟨_, h1⟩
  item := fun d r s Q E ⟨x, left, h1, h2⟩ _ hQ => by
    have hl : left.toNat = r.length + 1 := by
      have := congrArg List.length h2
      rw [upFrom_length] at this
      simpa using this.symm
    rw [hl] at h2
    injection h2 with h3 h4
    subst h3
    refine wpAny_pyNext_range_item h1 (by omega) fun h' hit' hs' => ?_
    exact hQ _ h' _ ⟨⟨x, _, rfl, rfl⟩, x + c, left - 1, hit', by rw [show (left - 1).toNat = r.length by omega]; exact h4⟩ (ext_same hs')
  go := fun d r v s Q E ⟨⟨n, t, e1, e2⟩, x, left, h1, h2⟩ hQ => by
    subst e1 e2
    exact go_plain h1 rfl (by decide) (hQ s.heap ⟨t, rfl⟩ ⟨x, left, h1, h2⟩ (Ext.refl _ _))
  done := fun s Q E ⟨x, left, h1, h2⟩ hQ => by
    have hl : left.toNat = 0 := by
      have := congrArg List.length h2
      rw [upFrom_length] at this
      simpa using this.symm
    exact wpAny_pyNext_range_end hh h1 (by omega) fun h' he => hQ h' s.toks (ext_but he)
  self := fun r s Q E ⟨x, left, h1, _⟩ hQ => wpAny_pyIter_rangeiter h1 hQ

/-- the rows of a dict, told with the rows' own addresses -/
structure RowsB (prog : Program) (w : World) (W : List Addr) (h : Heap) (d : Addr) (es : Array DictEntry) (ep : Nat) (xs : List (Key × Addr × Value)) (l : List (Key × Int)) : Prop where
  raw : RawD h d es ep
  ents : es.toList = xs.map (entryOfKey (knd prog w))
  keys : ∀ x ∈ xs, (knd prog w).is h x.1 x.2.1
  pair : Paired (EntB W) xs l
theorem RowsB.up {h h' : Heap} {d : Addr} {es ep xs l} (x : RowsB prog w W h d es ep xs l) (e : Ext W h h') (hd : d ∉ W) : RowsB prog w W h' d es ep xs l := by
  refine ⟨x.raw.at fun o => e d o hd, x.ents, fun y hy => ?_, x.pair⟩
  obtain ⟨p, _, _, hy2, _⟩ := paired_mem x.pair y hy
  exact IsTupleKey.up (x.keys y hy) fun o => e _ o hy2
theorem RowsB.at' {h : Heap} {d : Addr} {es ep xs} {l : List (Key × Int)} (x : RowsB prog w W h d es ep xs l) {i : Nat} {p : Key × Int} (hp : l[i]? = some p) :
    ∃ a t, es[i]? = some ⟨(knd prog w).hash p.1, .ref a, .int p.2 t⟩ ∧ KeyB prog w W h a p.1 := by
  obtain ⟨y, hy, e1, e2, t, e3⟩ := paired_get x.pair hp
  refine ⟨y.2.1, t, ?_, e2, ?_⟩
  · rw [entry_at x.ents, hy, ← e1]
    show some (⟨_, _, y.2.2⟩ : DictEntry) = _
    rw [e3]
  · rw [← e1]; exact x.keys y (List.mem_of_getElem? hy)
theorem RowsB.size {h : Heap} {d : Addr} {es ep xs} {l : List (Key × Int)} (x : RowsB prog w W h d es ep xs l) : es.size = l.length := by
  rw [size_of_entries x.ents, x.pair.length]

noncomputable def pairD (p : Key × Int) : D := .pair p.1 p.2
theorem Tn.items {elts : List Expr} {k : Nat} {pos : Pos} {d : Addr} {es : Array DictEntry} {ep : Nat} {xs : List (Key × Addr × Value)} {l : List (Key × Int)} (hh : A.handled = none) (hI : I ∈ W) (hd : d ∉ W) :
    Tn prog w A (.Tuple elts k pos) W I (fun rest h => ∃ i ok ov, IsItemIter h I d i es.size ep ok ov ∧ RowsB prog w W h d es ep xs l ∧ rest = (l.map pairD).drop i)
      (fun u rest v h => DB prog w W h v u ∧ ∃ i ok ov a, v = .ref a ∧ IsItemIterOut h I d i es.size ep ok ov a ∧ RowsB prog w W h d es ep xs l ∧ rest = (l.map pairD).drop i) where
  frame := fun r h h' ⟨i, ok, ov, h1, h2, h3⟩ e eI => ⟨i, ok, ov, eI _ h1, h2.up e hd, h3⟩
  here := fun r h ⟨i, ok, ov, h1, _⟩ => ⟨_, h1⟩
  item := fun u r s Q E ⟨i, ok, ov, h1, h2, h3⟩ hW hQ => by
    obtain ⟨e1, e2⟩ := drop_cons h3
    rw [List.getElem?_map] at e1
    obtain ⟨p, e3, rfl⟩ := Option.map_eq_some_iff.mp e1
    obtain ⟨a, t, e4, kb⟩ := h2.at' e3
    refine next_item h1 h2.raw e4 fun h' hit ht hk => ?_
    have eI : Ext [I] s.heap h' := fun b o n => hk b o fun q => n (by simp [q])
    have eW : Ext W s.heap h' := eI.mono fun x hx => by rw [List.mem_singleton.mp hx]; exact hI
    exact hQ _ h' s.toks ⟨⟨s.heap.objs.size, a, t, rfl, fresh_off hW, ht, kb.up eW⟩, i + 1, _, _, _, rfl, hit, h2.up eW hd, e2⟩ eI
  go := fun u r v s Q E ⟨hb, i, ok, ov, a, e1, h1, h2, h3⟩ hQ => by
    subst e1
    refine wpAny_letOwnedTupleGo_items h1 fun h' he hs => ?_
    exact hQ h' (hb.up (Ext.same hs hI)) ⟨i, ok, ov, he, h2.up (Ext.same hs hI) hd, h3⟩ (ext_same hs)
  done := fun s Q E ⟨i, ok, ov, h1, h2, h3⟩ hQ => by
    have := drop_nil h3
    rw [List.length_map, ← h2.size] at this
    exact next_item_end hh h1 h2.raw this fun h' he => hQ h' s.toks (ext_but he)
  self := fun r s Q E ⟨i, ok, ov, h1, _⟩ hQ => kcp_self h1 hQ

noncomputable def valD (p : Key × Int) : D := .int p.2
theorem Tn.values {target : Expr} {d : Addr} {es : Array DictEntry} {ep : Nat} {xs : List (Key × Addr × Value)} {l : List (Key × Int)} (hh : A.handled = none) (hI : I ∈ W) (hd : d ∉ W) :
    Tn prog w A target W I (fun rest h => ∃ i, h.IsValIter I d i es.size ep ∧ RowsB prog w W h d es ep xs l ∧ rest = (l.map valD).drop i)
      (fun u rest v h => DB prog w W h v u ∧ ∃ i, h.IsValIter I d i es.size ep ∧ RowsB prog w W h d es ep xs l ∧ rest = (l.map valD).drop i) where
  frame := fun r h h' ⟨i, h1, h2, h3⟩ e eI => ⟨i, h1.at eI, h2.up e hd, h3⟩
  here := fun r h ⟨i, ⟨o, ho, _⟩, _⟩ => ⟨o, ho⟩
  item := fun u r s Q E ⟨i, h1, h2, h3⟩ hW hQ => by
    obtain ⟨e1, e2⟩ := drop_cons h3
    rw [List.getElem?_map] at e1
    obtain ⟨p, e3, rfl⟩ := Option.map_eq_some_iff.mp e1
    obtain ⟨a, t, e4, kb⟩ := h2.at' e3
    refine next_value h1 h2.raw e4 fun h' hit hs => ?_
    have eW : Ext W s.heap h' := Ext.same hs hI
    exact hQ _ h' s.toks ⟨⟨t, rfl⟩, i + 1, hit, h2.up eW hd, e2⟩ (ext_same hs)
  go := fun u r v s Q E ⟨hb, i, h1, h2⟩ hQ => by
    obtain ⟨o, ho, hc, _⟩ := id h1
    exact go_plain ho hc (by decide) (hQ s.heap hb ⟨i, h1, h2⟩ (Ext.refl _ _))
  done := fun s Q E ⟨i, h1, h2, h3⟩ hQ => by
    have := drop_nil h3
    rw [List.length_map, ← h2.size] at this
    exact next_value_end hh h1 h2.raw this fun h' he => hQ h' s.toks (ext_but he)
  self := fun r s Q E ⟨i, h1, _⟩ hQ => wpAny_pyIter_valiter h1 hQ
end
end
end Mine
end PartN7

section PartN8
open PySem PySem.W PySem.Calls PyProof.Rows
set_option Elab.async false
namespace Mine

noncomputable def isIter : Expr → Bool
  | .Call .. | .Name .. => true
  | _ => false
theorem fold_of {e : Expr} (h : isIter e = true) (env : Env) (x : Value) : foldedSetIterable e env x = pure x := by
  cases e <;> first | rfl | cases h

section
variable {prog : Program} {w : World} {A : Around} {E : Value → Shared → Prop} {s : Shared} {B : Heap} {W F : List Addr} {env : Env} {sc : Scope} {σ : Sg} {n : Nat} {L : Lv} {tab : Str → Option DefRec} {mg mb : Str → Option Value}

/-- an iterator, whatever new addresses are barred later -/
noncomputable def Its (prog : Program) (w : World) (A : Around) (target : Expr) (W : List Addr) (I : Addr) (ds : List D) (h : Heap) : Prop :=
  ∀ N : List Addr, (∀ a ∈ N, h.get? a = none) → ∃ St Md, Tn prog w A target (N ++ I :: W) I St Md ∧ St ds h
/-- what an iterable hands on -/
noncomputable def ItOk (prog : Program) (w : World) (A : Around) (B : Heap) (W F : List Addr) (env : Env) (sc : Scope) (σ : Sg) (target : Expr) (ds : List D) (s : Shared) (Q : Value → Shared → Prop) : Prop :=
  ∀ I h' tk, Ext [] s.heap h' → s.heap.get? I = none → EnvR prog w B (I :: W) F env sc σ h' → Its prog w A target W I ds h' → Q (.ref I) { s with heap := h', toks := tk }

theorem size_none (h : Heap) : h.get? h.objs.size = none := by
  cases q : h.get? h.objs.size with
  | none => rfl
  | some o => exact absurd (Heap.lt_size q) (Nat.lt_irrefl _)
theorem size_off {h : Heap} {a : Addr} {o : Obj} (e : h.get? a = some o) {W : List Addr} (n : a ∉ W) : a ∉ h.objs.size :: W := fun q => by
  rcases List.mem_cons.mp q with q | q
  · exact Nat.lt_irrefl _ (q ▸ Heap.lt_size e)
  · exact n q
theorem none_back {h h' : Heap} (e : Ext [] h h') {I : Addr} (n : h'.get? I = none) : h.get? I = none := by
  cases q : h.get? I with
  | none => rfl
  | some o => rw [e I o (by simp) q] at n; cases n

/-- a list is walked -/
theorem iter_listD (R : EnvR prog w B W F env sc σ s.heap) (hh : A.handled = none) {target : Expr} {v : Value} {d : D} {ds : List D} (hv : DB prog w W s.heap v d) (e : listD d = some ds) {Q : Value → Shared → Prop}
    (h : ItOk prog w A B W F env sc σ target ds s Q) : wpAny (model prog w) A (pyIter v) Q E s := by
  unfold listD at e
  split at e
  · split at e
    · rename_i l hl
      cases e
      obtain ⟨a, rfl, na, vs, hp, hb⟩ := hv
      refine wpAny_pyIter_list hp.isList ?_
      obtain ⟨c, hc⟩ := id hp
      have na' := size_off hc na
      have R' := R.more (N := [s.heap.objs.size]) (h' := s.heap.push { cls := .type "list_iterator", data := .fields #[.ref a, .int 0 0] }) (fun I hI => by rw [List.mem_singleton.mp hI]; exact size_none _) (Ext.push _ _ _)
        (fun I hI => by rw [List.mem_singleton.mp hI]; exact ⟨_, Heap.get?_push_size _ rfl⟩)
      have := (ListB.more (N := [s.heap.objs.size]) ⟨vs, hp, hb⟩ fun I hI => by rw [List.mem_singleton.mp hI]; exact size_none _)
      have := this.at' (h' := s.heap.push { cls := .type "list_iterator", data := .fields #[.ref a, .int 0 0] }) (Ext.push _ _ _) fun o q => Heap.get?_push_of_some _ q
      exact h _ _ _ (Ext.push _ _ _) (size_none _) R' fun N hN => ⟨_, _, Tn.list (l := l) hh (List.mem_append_right _ (List.mem_cons_self ..)) (off_app hN (Heap.get?_push_of_some _ hc) na'), 0, ⟨_, Heap.get?_push_size _ rfl, rfl, rfl⟩, ListB.more this hN, by rw [List.drop_zero]⟩
    · cases e
  · cases e

theorem range_obj {a b c : Int} {t u v : Tok} {r : Addr} (R : EnvR prog w B W F env sc σ s.heap) (hh : A.handled = none) {target : Expr} (hr : IsRange s.heap r a b c t u v) (hs : Builtin.Range.small a b c = true) {Q : Value → Shared → Prop}
    (h : ItOk prog w A B W F env sc σ target (upFrom a c (Builtin.Range.rangeSize a b c).toNat) s Q) : wpAny (model prog w) A (pyIter (.ref r)) Q E s := by
  refine wpAny_pyIter_range hr hs ?_
  have R' := R.more (N := [s.heap.objs.size]) (h' := s.heap.push { cls := .type "range_iterator", data := .fields #[rawInt a, rawInt (Builtin.Range.rangeSize a b c), rawInt c] }) (fun I hI => by rw [List.mem_singleton.mp hI]; exact size_none _) (Ext.push _ _ _)
    (fun I hI => by rw [List.mem_singleton.mp hI]; exact ⟨_, Heap.get?_push_size _ rfl⟩)
  exact h _ _ _ (Ext.push _ _ _) (size_none _) R' fun N hN => ⟨_, _, Tn.range hh (List.mem_append_right _ (List.mem_cons_self ..)), a, _, Heap.get?_push_size _ rfl, rfl⟩

theorem ItOk.after {target : Expr} {ds : List D} {Q : Value → Shared → Prop} {h₁ : Heap} {tk₁ : Nat} (h : ItOk prog w A B W F env sc σ target ds s Q) (e : Ext [] s.heap h₁) : ItOk prog w A B W F env sc σ target ds { s with heap := h₁, toks := tk₁ } Q :=
  fun I h' tk e' n R T => h I h' tk (e.trans e') (none_back e n) R T

theorem rows_of {h : Heap} {d : Addr} {l : List (Key × Int)} (x : DictB prog w W h d l) : ∃ es ep xs, RowsB prog w W h d es ep xs l := by
  obtain ⟨xs, ⟨o, es, ep, h1, h2, h3, h4, h5, _⟩, hp⟩ := x
  exact ⟨es, ep, xs, ⟨⟨o, h1, h2, h3⟩, h4, h5, hp⟩⟩
theorem RowsB.more' {h : Heap} {d : Addr} {es ep xs} {l : List (Key × Int)} (x : RowsB prog w W h d es ep xs l) : RowsB prog w (h.objs.size :: W) h d es ep xs l := by
  refine ⟨x.raw, x.ents, x.keys, ?_⟩
  have : ∀ {ys : List (Key × Addr × Value)} {m : List (Key × Int)}, Paired (EntB W) ys m → (∀ y ∈ ys, y ∈ xs) → Paired (EntB (h.objs.size :: W)) ys m := by
    intro ys m hq
    induction hq with
    | nil => intro _; exact .nil
    | cons a t ih =>
      intro hs
      refine .cons ⟨a.1, ?_, a.2.2⟩ (ih fun y hy => hs y (.tail _ hy))
      obtain ⟨o', items, c, ho', r⟩ := x.keys _ (hs _ (.head _))
      exact size_off ho' a.2.1
  exact this x.pair fun _ y => y

theorem RowsB.many {h : Heap} {N : List Addr} {d : Addr} {es ep xs} {l : List (Key × Int)} (x : RowsB prog w W h d es ep xs l) (hN : ∀ a ∈ N, h.get? a = none) : RowsB prog w (N ++ W) h d es ep xs l := by
  refine ⟨x.raw, x.ents, x.keys, ?_⟩
  have : ∀ {ys : List (Key × Addr × Value)} {m : List (Key × Int)}, Paired (EntB W) ys m → (∀ y ∈ ys, y ∈ xs) → Paired (EntB (N ++ W)) ys m := by
    intro ys m hq
    induction hq with
    | nil => intro _; exact .nil
    | cons a t ih =>
      intro hs
      refine .cons ⟨a.1, ?_, a.2.2⟩ (ih fun y hy => hs y (.tail _ hy))
      obtain ⟨o', items, c, ho', r⟩ := x.keys _ (hs _ (.head _))
      exact off_app hN ho' a.2.1
  exact this x.pair fun _ y => y

theorem iterS_ok (K : Bas tab mg mb B) (ok : LvOk prog w B n L) (hr : Room n A) (R : EnvR prog w B W F env sc σ s.heap) {target e : Expr} {ds : List D} (he : iterS L sc σ target e = some ds) {Q : Value → Shared → Prop}
    (h : ItOk prog w A B W F env sc σ target ds s Q) : isIter e = true ∧ wpAny (model prog w) A (eval e env) (fun x s₁ => wpAny (model prog w) A (pyIter x) Q E s₁) E s := by
  unfold iterS at he
  split at he
  · rename_i f fp args p
    refine ⟨rfl, ?_⟩
    split at he
    · rename_i hf
      obtain ⟨rfl, hg⟩ := hf
      split at he
      · rename_i as hl
        have hne : ∃ x r, args = x :: r := by
          cases args with
          | nil => cases hl; cases he
          | cons x r => exact ⟨x, r, rfl⟩
        obtain ⟨x, r, rfl⟩ := hne
        have hx : starless x = true := by
          unfold evList at hl
          split at hl
          · assumption
          · cases hl
        refine Call_ (glob_ok K R hg (v := .type "range") rfl (PySem.callWith_type (evList_plain hl env p) (evalArgs_of hx ?_)))
        refine evList_ok ok.ev hr hl R _ _ fun vs h₁ tk₁ e₁ p₁ => ?_
        have R₁ := R.up e₁
        have h₁' := h.after (tk₁ := tk₁) e₁
        unfold rangeD at he
        split at he
        · split at he
          · rename_i m hs
            cases he
            cases p₁ with
            | cons a t =>
              cases t
              obtain ⟨t, rfl⟩ := a
              refine call_range_1 ?_
              have eP : Ext [] h₁ (h₁.push { cls := .type "range", data := .fields #[.int 0 tk₁, .int m t, .int 1 (tk₁ + 1)] }) := Ext.push _ _ _
              exact range_obj (s := { s with heap := h₁.push { cls := .type "range", data := .fields #[.int 0 tk₁, .int m t, .int 1 (tk₁ + 1)] }, toks := tk₁ + 1 + 1 }) (R₁.up eP) hr.hh (IsRange.new ..) hs (h.after (tk₁ := tk₁ + 1 + 1) (e₁.trans eP))
          · cases he
        · split at he
          · rename_i a b c hs
            cases he
            cases p₁ with
            | cons q t =>
              cases t with
              | cons q2 t =>
                cases t with
                | cons q3 t =>
                  cases t
                  obtain ⟨t1, rfl⟩ := q; obtain ⟨t2, rfl⟩ := q2; obtain ⟨t3, rfl⟩ := q3
                  have eP : Ext [] h₁ (h₁.push { cls := .type "range", data := .fields #[.int a t1, .int b t2, .int c t3] }) := Ext.push _ _ _
                  exact call_range_3 hs.1 (range_obj (s := { s with heap := h₁.push { cls := .type "range", data := .fields #[.int a t1, .int b t2, .int c t3] }, toks := tk₁ }) (R₁.up eP) hr.hh (IsRange.new ..) hs.2.1 (h.after (tk₁ := tk₁) (e₁.trans eP))) (.inl hs.2.2)
          · cases he
        · cases he
      · cases he
    · cases he
  · rename_i x xp m ap p
    refine ⟨rfl, ?_⟩
    split at he
    · rename_i hc
      split at he
      · rename_i l hx
        obtain ⟨v, ⟨d, rfl, nd, lo, hD⟩, hld⟩ := R.name (A := A) (p := xp) hx hc.1
        obtain ⟨es, ep, xs, hrows⟩ := rows_of hD
        obtain ⟨od, hod, hex, hdat⟩ := id hrows.raw
        split at he
        · rename_i hm
          subst hm
          split at he
          · rename_i ht
            cases he
            obtain ⟨elts, k, tp, rfl⟩ : ∃ elts k tp, target = .Tuple elts k tp := by cases target <;> first | exact ⟨_, _, _, rfl⟩ | cases ht
            refine wpAny_Call_method (T := "dict") (id := "dict.items") rfl rfl hc.2 PySem.F.plainAttrs_dict PySem.F.slot_dict_items PySem.F.type_dict_items (hld _ _ ⟨hrows.raw.typeIs, fun a q => ?_, ?_⟩)
            · cases q; exact ⟨od, hod, hex.2.1⟩
            show wpAny _ _ (callWith p (.builtin "dict.items") [.ref d] [] []) _ _ s
            refine method_meetsIn PySem.F.slot_dict_items PySem.F.entry_dict_items rfl (PySem.evalArgs_none ⟨rfl, hrows.raw.typeIs, PySem.F.args_dict_items_1 _, _, made_items lo, hrows.raw, ?_⟩)
            have eP : Ext [] s.heap (s.heap.push { cls := .type "dict_items", data := .fields #[.ref d] }) := Ext.push _ _ _
            have nd1 : d ∉ W := nd
            have R1 := R.up eP
            have rows1 : RowsB prog w W (s.heap.push { cls := .type "dict_items", data := .fields #[.ref d] }) d es ep xs l := hrows.up (eP.mono fun _ q => by cases q) nd
            have hview : (s.heap.push { cls := .type "dict_items", data := .fields #[.ref d] }).IsItemsView s.heap.objs.size d := ⟨_, Heap.get?_push_size _ rfl, rfl, rfl⟩
            have hod1 : ∃ o, (s.heap.push { cls := .type "dict_items", data := .fields #[.ref d] }).get? d = some o := ⟨_, Heap.get?_push_of_some _ hod⟩
            generalize s.heap.push { cls := .type "dict_items", data := .fields #[.ref d] } = h1 at *
            refine iter_items (s := { s with heap := h1 }) hview rows1.raw ?_
            have R2 := R1.more (N := [h1.objs.size]) (h' := h1.push { cls := .type "dict_itemiterator", data := .fields #[.none, .bool false, .ref d, .int 0 0, .int es.size 0, .int ep 0, .none, .none] }) (fun I hI => by rw [List.mem_singleton.mp hI]; exact size_none _) (Ext.push _ _ _)
              (fun I hI => by rw [List.mem_singleton.mp hI]; exact ⟨_, Heap.get?_push_size _ rfl⟩)
            obtain ⟨o1, ho1⟩ := hod1
            have nd2 := size_off ho1 nd
            have rows2 := rows1.more'.up (h' := h1.push { cls := .type "dict_itemiterator", data := .fields #[.none, .bool false, .ref d, .int 0 0, .int es.size 0, .int ep 0, .none, .none] }) (Ext.push _ _ _) nd2
            exact h _ _ _ (eP.trans (Ext.push _ _ _)) (none_back eP (size_none _)) R2 fun N hN => ⟨_, _, Tn.items (xs := xs) (l := l) hr.hh (List.mem_append_right _ (List.mem_cons_self ..)) (off_app hN (Heap.get?_push_of_some _ ho1) nd2), 0, _, _, Heap.get?_push_size _ rfl, rows2.many hN, by rw [List.drop_zero]; rfl⟩
          · cases he
        · split at he
          · rename_i _ hm
            subst hm
            cases he
            refine wpAny_Call_method (T := "dict") (id := "dict.values") rfl rfl hc.2 PySem.F.plainAttrs_dict PySem.F.slot_dict_values PySem.F.type_dict_values (hld _ _ ⟨hrows.raw.typeIs, fun a q => ?_, ?_⟩)
            · cases q; exact ⟨od, hod, hex.2.1⟩
            show wpAny _ _ (callWith p (.builtin "dict.values") [.ref d] [] []) _ _ s
            refine method_meetsIn PySem.F.slot_dict_values PySem.F.entry_dict_values rfl (PySem.evalArgs_none ⟨rfl, hrows.raw.typeIs, PySem.F.args_dict_values_1 _, _, made_values lo, hrows.raw, ?_⟩)
            have eP : Ext [] s.heap (s.heap.push { cls := .type "dict_values", data := .fields #[.ref d] }) := Ext.push _ _ _
            have R1 := R.up eP
            have rows1 : RowsB prog w W (s.heap.push { cls := .type "dict_values", data := .fields #[.ref d] }) d es ep xs l := hrows.up (eP.mono fun _ q => by cases q) nd
            have hview : (s.heap.push { cls := .type "dict_values", data := .fields #[.ref d] }).IsValuesView s.heap.objs.size d := ⟨_, Heap.get?_push_size _ rfl, rfl, rfl⟩
            have hod1 : ∃ o, (s.heap.push { cls := .type "dict_values", data := .fields #[.ref d] }).get? d = some o := ⟨_, Heap.get?_push_of_some _ hod⟩
            generalize s.heap.push { cls := .type "dict_values", data := .fields #[.ref d] } = h1 at *
            refine iter_values (s := { s with heap := h1 }) hview rows1.raw ?_
            have R2 := R1.more (N := [h1.objs.size]) (h' := h1.push { cls := .type "dict_valueiterator", data := .fields #[.ref d, .int 0 0, .int es.size 0, .int ep 0] }) (fun I hI => by rw [List.mem_singleton.mp hI]; exact size_none _) (Ext.push _ _ _)
              (fun I hI => by rw [List.mem_singleton.mp hI]; exact ⟨_, Heap.get?_push_size _ rfl⟩)
            obtain ⟨o1, ho1⟩ := hod1
            have nd2 := size_off ho1 nd
            have rows2 := rows1.more'.up (h' := h1.push { cls := .type "dict_valueiterator", data := .fields #[.ref d, .int 0 0, .int es.size 0, .int ep 0] }) (Ext.push _ _ _) nd2
            exact h _ _ _ (eP.trans (Ext.push _ _ _)) (none_back eP (size_none _)) R2 fun N hN => ⟨_, _, Tn.values (xs := xs) (l := l) hr.hh (List.mem_append_right _ (List.mem_cons_self ..)) (off_app hN (Heap.get?_push_of_some _ ho1) nd2), 0, ⟨_, Heap.get?_push_size _ rfl, rfl, rfl⟩, rows2.many hN, by rw [List.drop_zero]; rfl⟩
          · cases he
      · cases he
    · cases he
  · rename_i x p
    refine ⟨rfl, ?_⟩
    split at he
    · rename_i d hd
      refine ok.ev hd hr R _ _ fun v h₁ tk₁ e₁ b₁ => ?_
      exact iter_listD (s := { s with heap := h₁, toks := tk₁ }) (R.up e₁) hr.hh b₁ he (h.after e₁)
    · cases he
  · cases he
theorem callIter_ok (K : Bas tab mg mb B) (ok : LvOk prog w B n L) (hr : Room n A) (R : EnvR prog w B W F env sc σ s.heap) {target e : Expr} {ds : List D} (he : callIter L sc σ target e = some ds) {Q : Value → Shared → Prop}
    (h : ItOk prog w A B W F env sc σ target ds s Q) : isIter e = true ∧ wpAny (model prog w) A (eval e env) (fun x s₁ => wpAny (model prog w) A (pyIter x) Q E s₁) E s := by
  unfold callIter at he
  split at he
  · rename_i hl
    cases he
    exact iterS_ok K ok hr R hl h
  · split at he
    · refine ⟨rfl, ?_⟩
      split at he
      · rename_i d hd
        refine ok.ev hd hr R _ _ fun v h₁ tk₁ e₁ b₁ => ?_
        exact iter_listD (s := { s with heap := h₁, toks := tk₁ }) (R.up e₁) hr.hh b₁ he (h.after e₁)
      · cases he
    · cases he
end
end Mine
end PartN8

section PartN9
open PySem PySem.W PySem.Calls PyProof.Rows
set_option Elab.async false
namespace Mine
section
variable {prog : Program} {w : World} {A : Around} {E : Value → Shared → Prop} {s : Shared} {B : Heap} {W F : List Addr} {env : Env} {sc : Scope} {σ : Sg} {n : Nat} {L : Lv} {tab : Str → Option DefRec} {mg mb : Str → Option Value}

theorem bindT_ok (R : EnvR prog w B W F env sc σ s.heap) (hh : A.handled = none) {target : Expr} {v : Value} {d : D} {σ₁ : Sg} (e : bindT sc σ target d = some σ₁) (hv : DB prog w W s.heap v d) {Q : Unit → Shared → Prop}
    (h : ∀ h' tk, Ext F s.heap h' → (locT sc target = true → Ext [env.locals] s.heap h') → EnvR prog w B W F env sc σ₁ h' → Q () { s with heap := h', toks := tk }) : wpAny (model prog w) A (assign target env v) Q E s := by
  unfold bindT at e
  split at e
  · rename_i _ x p
    have hk : kindIs sc x = some .local ∨ kindIs sc x = some .cell := by
      split at e
      · left; assumption
      · right; assumption
      · cases e
    have e' : σ₁ = upd σ x (.val d) := by split at e <;> first | (cases e; rfl) | cases e
    subst e'
    exact wpAny_assign_Name (R.bind hk hv fun h' tk e1 e2 R' => h h' tk e1 (fun q => e2 (eq_of_beq q)) R')
  · rename_i a ap b bp k p kk m
    split at e
    · rename_i h1 h2
      cases e
      obtain ⟨T, ka, t, rfl, nT, hT, kb⟩ := hv
      rw [assign_Tuple]
      refine wpAny_bind (wpAny_standAt ?_)
      have ht : IsTup s.heap T #[.ref ka, .int m t] := ⟨_, hT, rfl, _, rfl⟩
      refine unpack_tuple hh ht rfl rfl fun h₁ hx => ?_
      have e₁ : Ext [] s.heap h₁ := fun b o _ q => hx b o (fun z => by subst z; rw [size_none] at q; cases q) q
      show wpAny _ _ (do holding [Value.int m t] (assign (.Name a ap) env (.ref ka)); do holding [] (assign (.Name b bp) env (.int m t)); pure ()) _ _ _
      have R₁ := R.up e₁
      refine wpAny_bind (wpAny_holding (wpAny_assign_Name (R₁.bind (s := { s with heap := h₁ }) (d := .key kk) (.inl h1) ⟨ka, rfl, kb.up (e₁.mono fun _ q => by cases q)⟩ fun h₂ tk₂ e₂ l₂ R₂ => ?_)))
      refine wpAny_bind (wpAny_holding (wpAny_assign_Name (R₂.bind (s := { s with heap := h₂, toks := tk₂ }) (d := .int m) (.inl h2) ⟨t, rfl⟩ fun h₃ tk₃ e₃ l₃ R₃ => wpAny_pure ?_)))
      exact h _ _ (((e₁.mono fun _ q => by cases q).trans e₂).trans e₃) (fun _ => ((e₁.mono fun _ q => by cases q).trans (l₂ h1)).trans (l₃ h2)) R₃
    · cases e
  · cases e

/-- the loop itself -/
theorem loop_ok (ok : LvOk prog w B n L) (hr : Room n A) {target : Expr} {body : List Stmt} {I : Addr} {St : List D → Heap → Prop} {Md : D → List D → Value → Heap → Prop} (T : Tn prog w A target (I :: W) I St Md) (hI : I ∉ W)
    {ds : List D} {σ' : Sg} (R : EnvR prog w B (I :: W) F env sc σ s.heap) (hFW : ∀ a ∈ F, a ∈ W) (st : St ds s.heap) (e : forS L sc target body ds σ = some σ') {P : Result → Shared → Prop}
    (h : ∀ h' tk, Ext (I :: F) s.heap h' → EnvR prog w B W F env sc σ' h' → P (.ok .next) { s with heap := h', toks := tk }) : codeAny (model prog w) A (.forLoop target (.ref I) body [] env) P s := by
  have hIF : I ∉ F := fun q => hI (hFW I q)
  refine codeAny_forLoop_any (fun k s' => ∃ h' tk ds' σ₁, s' = { s with heap := h', toks := tk } ∧ k = ds'.length + 1 ∧ Ext (I :: F) s.heap h' ∧ EnvR prog w B (I :: W) F env sc σ₁ h' ∧ St ds' h' ∧ forS L sc target body ds' σ₁ = some σ') ?_ (ds.length + 1)
    ⟨s.heap, s.toks, ds, σ, rfl, rfl, Ext.refl _ _, R, st, e⟩
  rintro k s' ⟨h₁, tk₁, ds', σ₁, rfl, rfl, e₁, R₁, st₁, f₁⟩
  cases ds' with
  | nil =>
    refine T.done _ _ _ st₁ fun h₂ tk₂ e₂ => wpAny_execs_nil ?_
    unfold forS at f₁
    cases f₁
    refine h _ _ (e₁.trans (e₂.mono fun x hx => by rw [List.mem_singleton.mp hx]; simp)) ?_
    refine R₁.move e₂ (fun x hx => by rw [List.mem_singleton.mp hx]; simp) (fun x hx => by rw [List.mem_singleton.mp hx]; exact hIF) (fun x hx => List.mem_cons_of_mem _ hx) hFW fun a ha hx => ?_
    rw [List.mem_singleton.mp hx] at ha; exact absurd ha hI
  | cons d r =>
    refine T.item d r _ _ _ st₁ R₁.low fun v h₂ tk₂ hMd e₂ => ?_
    refine T.go d r v _ _ _ hMd fun h₃ hv st₃ e₃ => ?_
    have R₃ : EnvR prog w B (I :: W) F env sc σ₁ h₃ := R₁.move (e₂.trans e₃) (fun x hx => by rw [List.mem_singleton.mp hx]; simp) (fun x hx => by rw [List.mem_singleton.mp hx]; exact hIF) (fun x hx => hx) R₁.sub fun a ha hx => by
      rw [List.mem_singleton.mp hx]; exact T.here _ _ st₃
    unfold forS at f₁
    split at f₁
    · cases f₁
    · rename_i σ₂ hb
      split at f₁
      · rename_i σ₃ hbody
        refine bindT_ok (s := { s with heap := h₃, toks := tk₂ }) R₃ hr.hh hb hv fun h₄ tk₄ e₄ _ R₄ => ?_
        refine ok.xs hbody (W₀ := []) hr (s := { s with heap := h₄, toks := tk₄ }) R₄ (fun a ha => by cases ha) _ _ ?_
        rintro fl h₅ tk₅ e₅ ⟨rfl, R₅⟩
        have stay : ∀ o, h₃.get? I = some o → h₅.get? I = some o := fun o q => e₅ I o hIF (e₄ I o hIF q)
        have eF : Ext F h₃ h₅ := e₄.trans e₅
        refine ⟨r.length + 1, by simp, h₅, tk₅, r, σ₃, rfl, rfl, ?_, R₅, T.frame _ _ _ st₃ (eF.mono fun x hx => R₃.sub x hx) stay, f₁⟩
        exact (e₁.trans ((e₂.trans e₃).mono fun x hx => by rw [List.mem_singleton.mp hx]; simp)).trans (eF.mono fun x hx => List.mem_cons_of_mem _ hx)
      · cases f₁

theorem for_ok (K : Bas tab mg mb B) (ok : LvOk prog w B n L) (hr : Room n A) (R : EnvR prog w B W F env sc σ s.heap) {target iter : Expr} {body : List Stmt} {pos : Pos} {ds : List D} {σ' : Sg} (hi : callIter L sc σ target iter = some ds)
    (hf : forS L sc target body ds σ = some σ') {Q : Flow → Shared → Prop} (h : ∀ h' tk, Ext F s.heap h' → EnvR prog w B W F env sc σ' h' → Q .next { s with heap := h', toks := tk }) :
    wpAny (model prog w) A (exec (.For target iter body [] pos) env) Q E s := by
  have key := callIter_ok K ok hr R hi (E := E) (Q := fun it s₂ => codeAny (model prog w) A (.forLoop target it body [] env) (fun r s' => match r with | .ok f => Q f s' | .error e => cameBackBy (model prog w) A env E e s') s₂) ?_
  · exact wpAny_For key.2 (fun x => fold_of key.1 env x)
  · intro I h₁ tk₁ e₁ hI R₁ its
    obtain ⟨St, Md, T, st⟩ := its [] (fun a ha => by cases ha)
    have hIW : I ∉ W := fun q => by obtain ⟨o, ho⟩ := R.here I q; rw [hI] at ho; cases ho
    refine loop_ok ok hr T hIW (s := { s with heap := h₁, toks := tk₁ }) R₁ R.sub st hf fun h₂ tk₂ e₂ R₂ => h _ _ (fun b o nb q => ?_) R₂
    refine e₂ b o (fun z => ?_) (e₁ b o (by simp) q)
    rcases List.mem_cons.mp z with z | z
    · subst z; rw [hI] at q; cases q
    · exact nb z
end
end Mine
end PartN9

section PartN10
open PySem PySem.W PySem.Calls PyProof.Rows
set_option Elab.async false
namespace Mine
section
variable {prog : Program} {w : World} {A : Around} {E : Value → Shared → Prop} {s : Shared} {B : Heap} {W F : List Addr} {env : Env} {sc : Scope} {σ : Sg} {n : Nat} {L : Lv} {tab : Str → Option DefRec} {mg mb : Str → Option Value}

theorem tests_ok (ok : LvOk prog w B n L) (hr : Room n A) : ∀ {ifs : List Expr} {b : Bool} {s : Shared}, testsS L sc σ ifs = some b → EnvR prog w B W F env sc σ s.heap → ∀ (Q : Bool → Shared → Prop) (E : Value → Shared → Prop),
    (∀ h' tk, Ext [] s.heap h' → Q b { s with heap := h', toks := tk }) →
    wpAny (model prog w) A (forIn ifs true fun c r => if r = true then do let ok ← isTrue c env (eval c env); pure (ForInStep.yield ok) else pure (ForInStep.yield r)) Q E s
  | [], b, s, e, R, Q, E, h => by
    cases e
    rw [List.forIn_nil]
    exact wpAny_pure (h s.heap s.toks (Ext.refl _ _))
  | c :: r, b, s, e, R, Q, E, h => by
    unfold testsS at e
    rw [List.forIn_cons]
    simp only [if_true]
    split at e
    · rename_i ht
      refine wpAny_bind (wpAny_bind (ok.tr ht hr R _ _ fun h₁ tk₁ e₁ => wpAny_pure ?_))
      exact tests_ok ok hr (s := { s with heap := h₁, toks := tk₁ }) e (R.up e₁) Q E fun h₂ tk₂ e₂ => h _ _ (e₁.trans e₂)
    · rename_i ht
      split at e
      · cases e
        refine wpAny_bind (wpAny_bind (ok.tr ht hr R _ _ fun h₁ tk₁ e₁ => wpAny_pure ?_))
        dsimp only
        rw [List.forIn_nil]
        exact wpAny_pure (h _ _ e₁)
      · cases e
    · cases e

/-- the list that a comprehension fills -/
noncomputable def AccB (prog : Program) (w : World) (W : List Addr) (h : Heap) (a : Addr) (acc : List It) : Prop := ∃ vs, h.PlainList a vs ∧ Paired (ItB prog w W h) vs.toList acc
theorem AccB.up {W X : List Addr} {h h' : Heap} {a : Addr} {acc : List It} (x : AccB prog w W h a acc) (e : Ext X h h') (hX : ∀ b ∈ X, b ∈ W) (ha : a ∉ X) : AccB prog w W h' a acc :=
  let ⟨vs, h1, h2⟩ := x; ⟨vs, h1.at fun o => e a o ha, h2.mono fun _ _ q => q.up (e.mono hX)⟩
theorem AccB.less {W W' : List Addr} {h : Heap} {a : Addr} {acc : List It} (x : AccB prog w W' h a acc) (s : ∀ b ∈ W, b ∈ W') : AccB prog w W h a acc :=
  let ⟨vs, h1, h2⟩ := x; ⟨vs, h1, h2.mono fun _ _ q => q.less s⟩
theorem AccB.more {W N : List Addr} {h : Heap} {a : Addr} {acc : List It} (x : AccB prog w W h a acc) (hN : ∀ I ∈ N, h.get? I = none) : AccB prog w (N ++ W) h a acc :=
  let ⟨vs, h1, h2⟩ := x; ⟨vs, h1, h2.mono fun _ _ q => ItB.more hN q⟩
theorem AccB.here {W : List Addr} {h : Heap} {a : Addr} {acc : List It} (x : AccB prog w W h a acc) : ∃ o, h.get? a = some o := let ⟨_, ⟨_, h1⟩, _⟩ := x; ⟨_, h1⟩
theorem AccB.push {W : List Addr} {a : Addr} {acc : List It} {i : It} {v : Value} (x : AccB prog w W s.heap a acc) (hv : ItB prog w W s.heap v i) (ha : a ∈ W) (hz : acc.length < 1000) {Q : Value → Shared → Prop}
    (h : ∀ h', Ext [a] s.heap h' → AccB prog w W h' a (acc ++ [i]) → Q .none { s with heap := h' }) : wpAny (model prog w) A (call (.builtin "list.append") [.ref a, v]) Q E s := by
  obtain ⟨vs, h1, h2⟩ := x
  refine wpAny_list_append_plain h1 (fun h' hl hs => h h' (ext_same hs) ⟨_, hl, ?_⟩) ?_
  · rw [Array.toList_push]
    exact paired_append (h2.mono fun _ _ q => q.up (Ext.same hs ha)) (.cons (hv.up (Ext.same hs ha)) .nil)
  · have := h2.length
    rw [Array.length_toList] at this
    rw [line_is]; omega

noncomputable def Sub (σ σ' : Sg) : Prop := ∀ x sl, getS σ x = some sl → getS σ' x = some sl
theorem EnvR.forget {h : Heap} {σ' : Sg} (R : EnvR prog w B W F env sc σ' h) (q : Sub σ σ') : EnvR prog w B W F env sc σ h :=
  ⟨R.keep, R.sub, R.here, R.off, R.is, R.fn, R.gl, R.bl, R.LF, (let ⟨m, h1, h2⟩ := R.ns; ⟨m, h1, fun x sl hk hs => h2 x sl hk (q x sl hs)⟩), R.cl, R.apart, R.kc, fun x sl hk hs => R.cs x sl hk (q x sl hs),
    fun x y sl sl' hx hy => R.one x y sl sl' (q x sl hx) (q y sl' hy)⟩

/-- one turn of a comprehension's loop, its emission left open -/
noncomputable def turnOf (e : Expr) (dp : Nat) (target : Expr) (ifs : List Expr) (p : Pos) (emit : Sem Unit) (it acc : Value) (env : Env) : Sem Fin := do
  standAt p
  match ← pyNext it with
  | none => pure (.done .next)
  | some v =>
    letOwnedTupleGo target it v
    assign target env v
    let mut ok := true
    for c in ifs do
      if ok then ok ← isTrue c env (eval c env)
    if ok then emit
    again (.compLoop e dp it acc env)

theorem comp_loop (ok : LvOk prog w B n L) (hr : Room n A) {target : Expr} {I D : Addr} {St : List Mine.D → Heap → Prop} {Md : Mine.D → List Mine.D → Value → Heap → Prop} (T : Tn prog w A target (I :: W) I St Md) (hI : I ∉ W) (hD : D ∈ W) (hDF : D ∉ F) (hFW : ∀ a ∈ F, a ∈ W) (hloc : locT sc target = true)
    {elt : Expr} {gens : List Comprehension} {scope : Scope} {pos : Pos} {dp : Nat} {ifs : List Expr} {p : Pos} {emit : Sem Unit} (heq : compTurn (.ListComp elt gens scope pos) dp (.ref I) (.ref D) env = turnOf (.ListComp elt gens scope pos) dp target ifs p emit (.ref I) (.ref D) env)
    (σb : Sg) (hbind : ∀ σ σ' d, Sub σb σ → bindT sc σ target d = some σ' → Sub σb σ') {emitF : Sg → Option (List It)}
    (hemit : ∀ σ₁ l acc (s : Shared) (Q : Unit → Shared → Prop) (E : Value → Shared → Prop), emitF σ₁ = some l → EnvR prog w B (I :: W) F env sc σ₁ s.heap → AccB prog w (I :: W) s.heap D acc → acc.length + l.length ≤ 1000 →
      (∀ h' tk, Ext [D, env.locals] s.heap h' → EnvR prog w B (I :: W) F env sc σ₁ h' → AccB prog w (I :: W) h' D (acc ++ l) → Q () { s with heap := h', toks := tk }) → wpAny (model prog w) A emit Q E s)
    {ds : List Mine.D} {l acc : List It} (e : compItems L sc emitF target ifs ds σ = some l) (R : EnvR prog w B (I :: W) F env sc σ s.heap) (hσ : Sub σb σ) (ha : AccB prog w (I :: W) s.heap D acc) (hz : acc.length + l.length ≤ 1000) (st : St ds s.heap)
    {P : Result → Shared → Prop} (h : ∀ h' tk, Ext [I, D, env.locals] s.heap h' → EnvR prog w B W F env sc σb h' → AccB prog w W h' D (acc ++ l) → P (.ok .next) { s with heap := h', toks := tk }) :
    codeAny (model prog w) A (.compLoop (.ListComp elt gens scope pos) dp (.ref I) (.ref D) env) P s := by
  have hIF : I ∉ F := fun q => hI (hFW I q)
  have hDI : D ≠ I := fun q => hI (q ▸ hD)
  have hLW : env.locals ∈ W := hFW _ R.LF
  have hIL : I ≠ env.locals := fun q => hI (q ▸ hLW)
  have hX : ∀ x ∈ [I, D, env.locals], x ∈ I :: W := fun x hx => by
    simp only [List.mem_cons, List.not_mem_nil, or_false] at hx
    rcases hx with q | q | q
    · rw [q]; simp
    · rw [q]; exact List.mem_cons_of_mem _ hD
    · rw [q]; exact List.mem_cons_of_mem _ hLW
  refine codeAny_loop rfl (fun k s' => ∃ h₁ tk₁ ds' σ₁ l' acc', s' = { s with heap := h₁, toks := tk₁ } ∧ k = ds'.length + 1 ∧ Ext [I, D, env.locals] s.heap h₁ ∧ EnvR prog w B (I :: W) F env sc σ₁ h₁ ∧ Sub σb σ₁ ∧ AccB prog w (I :: W) h₁ D acc' ∧
      acc'.length + l'.length ≤ 1000 ∧ St ds' h₁ ∧ compItems L sc emitF target ifs ds' σ₁ = some l' ∧ acc ++ l = acc' ++ l') ?_ (ds.length + 1)
    ⟨s.heap, s.toks, ds, σ, l, acc, rfl, rfl, Ext.refl _ _, R, hσ, ha, hz, st, e, rfl⟩
  rintro k s' ⟨h₁, tk₁, ds', σ₁, l', acc', rfl, rfl, e₁, R₁, hσ₁, ha₁, hz₁, st₁, f₁, hl⟩
  show wpAny _ A ((compTurn (.ListComp elt gens scope pos) dp (.ref I) (.ref D) env).onRaise (fun x => do noteFrame x env; theTreesLotGoes x)) _ _ _
  refine wpAny_noted ?_
  rw [heq]
  unfold turnOf
  refine wpAny_bind (wpAny_standAt (wpAny_bind ?_))
  cases ds' with
  | nil =>
    refine T.done _ _ _ st₁ fun h₂ tk₂ e₂ => wpAny_pure ?_
    unfold compItems at f₁
    cases f₁
    rw [List.append_nil] at hl
    refine h _ _ (e₁.trans (e₂.mono fun x hx => by rw [List.mem_singleton.mp hx]; simp)) ?_ ?_
    · refine (R₁.move e₂ (fun x hx => by rw [List.mem_singleton.mp hx]; simp) (fun x hx => by rw [List.mem_singleton.mp hx]; exact hIF) (fun x hx => List.mem_cons_of_mem _ hx) hFW fun a ha hx => ?_).forget hσ₁
      rw [List.mem_singleton.mp hx] at ha; exact absurd ha hI
    · rw [hl]
      exact (ha₁.up e₂ (fun x hx => by rw [List.mem_singleton.mp hx]; simp) (fun q => hDI (List.mem_singleton.mp q))).less fun x hx => List.mem_cons_of_mem _ hx
  | cons d r =>
    refine T.item d r _ _ _ st₁ R₁.low fun v h₂ tk₂ hMd e₂ => ?_
    refine wpAny_bind (T.go d r v _ _ _ hMd fun h₃ hv st₃ e₃ => ?_)
    have e23 : Ext [I] h₁ h₃ := e₂.trans e₃
    have R₃ : EnvR prog w B (I :: W) F env sc σ₁ h₃ := R₁.move e23 (fun x hx => by rw [List.mem_singleton.mp hx]; simp) (fun x hx => by rw [List.mem_singleton.mp hx]; exact hIF) (fun x hx => hx) R₁.sub fun a ha hx => by
      rw [List.mem_singleton.mp hx]; exact T.here _ _ st₃
    have ha₃ := ha₁.up e23 (fun x hx => by rw [List.mem_singleton.mp hx]; simp) (fun q => hDI (List.mem_singleton.mp q))
    unfold compItems at f₁
    split at f₁
    · cases f₁
    · rename_i σ₂ hb
      refine wpAny_bind (bindT_ok (s := { s with heap := h₃, toks := tk₂ }) R₃ hr.hh hb hv fun h₄ tk₄ e₄ l₄ R₄ => ?_)
      have l₄ := l₄ hloc
      have ha₄ := ha₃.up e₄ (fun x hx => R₃.sub x hx) hDF
      have hσ₂ := hbind _ _ _ hσ₁ hb
      have stay4 : ∀ o, h₃.get? I = some o → h₄.get? I = some o := fun o q => e₄ I o hIF q
      refine wpAny_bind ?_
      split at f₁
      · rename_i ht
        refine tests_ok ok hr ht (s := { s with heap := h₄, toks := tk₄ }) R₄ _ _ fun h₅ tk₅ e₅ => ?_
        have R₅ := R₄.up e₅
        have ha₅ := ha₄.up e₅ (fun x hx => by cases hx) (fun q => by cases q)
        split at f₁
        · rename_i l1 hl1
          split at f₁
          · rename_i l2 hl2
            cases f₁
            rw [List.length_append] at hz₁
            simp only [if_true]
            refine wpAny_bind (hemit σ₂ l1 acc' { s with heap := h₅, toks := tk₅ } _ _ hl1 R₅ ha₅ (by omega) fun h₆ tk₆ e₆ R₆ ha₆ => wpAny_pure ⟨rfl, ?_⟩)
            have stay : ∀ o, h₃.get? I = some o → h₆.get? I = some o := fun o q => e₆ I o (fun z => by rcases List.mem_cons.mp z with z | z; exact hDI z.symm; exact hIL (List.mem_singleton.mp z)) (e₅ I o (by simp) (stay4 o q))
            have e36 : Ext [D, env.locals] h₃ h₆ := ((l₄.mono fun x hx => List.mem_cons_of_mem _ hx).trans (e₅.mono fun _ q => by cases q)).trans e₆
            refine ⟨r.length + 1, by simp, h₆, tk₆, r, σ₂, l2, acc' ++ l1, rfl, rfl, ?_, R₆, hσ₂, ha₆, by rw [List.length_append]; omega, T.frame _ _ _ st₃ (e36.mono fun x hx => hX x (List.mem_cons_of_mem _ hx)) stay, hl2, by rw [hl, List.append_assoc]⟩
            exact (e₁.trans (e23.mono fun x hx => by rw [List.mem_singleton.mp hx]; simp)).trans (e36.mono fun x hx => List.mem_cons_of_mem _ hx)
          · cases f₁
        · cases f₁
      · rename_i ht
        refine tests_ok ok hr ht (s := { s with heap := h₄, toks := tk₄ }) R₄ _ _ fun h₅ tk₅ e₅ => ?_
        have R₅ := R₄.up e₅
        have ha₅ := ha₄.up e₅ (fun x hx => by cases hx) (fun q => by cases q)
        simp only [Bool.false_eq_true, if_false]
        first
          | refine wpAny_bind (wpAny_pure (wpAny_pure ⟨rfl, ?_⟩))
          | refine wpAny_pure ⟨rfl, ?_⟩
        have e35 : Ext [D, env.locals] h₃ h₅ := (l₄.mono fun x hx => List.mem_cons_of_mem _ hx).trans (e₅.mono fun _ q => by cases q)
        refine ⟨r.length + 1, by simp, h₅, tk₅, r, σ₂, l', acc', rfl, rfl, ?_, R₅, hσ₂, ha₅, hz₁, T.frame _ _ _ st₃ (e35.mono fun x hx => hX x (List.mem_cons_of_mem _ hx)) (fun o q => e₅ I o (by simp) (stay4 o q)), f₁, hl⟩
        exact (e₁.trans (e23.mono fun x hx => by rw [List.mem_singleton.mp hx]; simp)).trans (e35.mono fun x hx => List.mem_cons_of_mem _ hx)
      · cases f₁
end
end Mine
end PartN10

section PartN11
open PySem PySem.W PySem.Calls PyProof.Rows
set_option Elab.async false
namespace Mine

theorem turn_one (elt t it : Expr) (ifs : List Expr) (scope : Scope) (pos : Pos) (i acc : Value) (env : Env) :
    compTurn (.ListComp elt [⟨t, it, ifs, 0⟩] scope pos) 0 i acc env = turnOf (.ListComp elt [⟨t, it, ifs, 0⟩] scope pos) 0 t ifs it.pos (do let _ ← call (.builtin "list.append") [acc, ← eval elt env]) i acc env := by rfl
noncomputable def emit2 (e it2 : Expr) (acc : Value) (env : Env) : Sem Unit := do
  let x ← eval it2 env
  standAt it2.pos
  let x ← foldedSetIterable it2 env x
  let _ ← runOwn (.compStart e 1 (← holding [x] (pyIter x)) acc env) env
theorem turn_two (elt t it t2 it2 : Expr) (ifs ifs2 : List Expr) (scope : Scope) (pos : Pos) (i acc : Value) (env : Env) :
    compTurn (.ListComp elt [⟨t, it, ifs, 0⟩, ⟨t2, it2, ifs2, 0⟩] scope pos) 0 i acc env =
      turnOf (.ListComp elt [⟨t, it, ifs, 0⟩, ⟨t2, it2, ifs2, 0⟩] scope pos) 0 t ifs it.pos (emit2 (.ListComp elt [⟨t, it, ifs, 0⟩, ⟨t2, it2, ifs2, 0⟩] scope pos) it2 acc env) i acc env := by
  unfold turnOf emit2
  simp only [bind_assoc, pure_bind]
  rfl
theorem turn_in (elt t it t2 it2 : Expr) (ifs ifs2 : List Expr) (scope : Scope) (pos : Pos) (i acc : Value) (env : Env) :
    compTurn (.ListComp elt [⟨t, it, ifs, 0⟩, ⟨t2, it2, ifs2, 0⟩] scope pos) 1 i acc env =
      turnOf (.ListComp elt [⟨t, it, ifs, 0⟩, ⟨t2, it2, ifs2, 0⟩] scope pos) 1 t2 ifs2 it2.pos (do let _ ← call (.builtin "list.append") [acc, ← eval elt env]) i acc env := by rfl

/-! ## closures -/
noncomputable def closL (cs : List (Str × Addr)) : List (Str × NameKind) → List (Str × Addr) → List (Str × Addr)
  | [], acc => acc
  | (n, k) :: r, acc => if (k == .free) = true then closL cs r ((n, (cs.lookup n).getD 0) :: acc) else closL cs r acc
theorem closL_mem (cs : List (Str × Addr)) : ∀ (names : List (Str × NameKind)) (acc : List (Str × Addr)) (x : Str) (c : Addr), (x, c) ∈ closL cs names acc → (x, c) ∈ acc ∨ (c = (cs.lookup x).getD 0 ∧ (x, NameKind.free) ∈ names)
  | [], acc, x, c, h => .inl h
  | (n, k) :: r, acc, x, c, h => by
    unfold closL at h
    split at h
    · rename_i hk
      have hk := eq_of_beq hk
      subst hk
      rcases closL_mem cs r _ x c h with q | ⟨q, q2⟩
      · rcases List.mem_cons.mp q with q | q
        · cases q; exact .inr ⟨rfl, .head _⟩
        · exact .inl q
      · exact .inr ⟨q, .tail _ q2⟩
    · rcases closL_mem cs r _ x c h with q | ⟨q, q2⟩
      · exact .inl q
      · exact .inr ⟨q, .tail _ q2⟩
theorem closL_has (cs : List (Str × Addr)) : ∀ (names : List (Str × NameKind)) (acc : List (Str × Addr)) (x : Str), ((∃ c, (x, c) ∈ acc) ∨ (x, NameKind.free) ∈ names) → ∃ c, (x, c) ∈ closL cs names acc
  | [], acc, x, h => by
    rcases h with h | h
    · exact h
    · cases h
  | (n, k) :: r, acc, x, h => by
    unfold closL
    split
    · rename_i hk
      refine closL_has cs r _ x ?_
      rcases h with ⟨c, h⟩ | h
      · exact .inl ⟨c, .tail _ h⟩
      · rcases List.mem_cons.mp h with h | h
        · cases h; exact .inl ⟨_, .head _⟩
        · exact .inr h
    · rename_i hk
      refine closL_has cs r _ x ?_
      rcases h with h | h
      · exact .inl h
      · rcases List.mem_cons.mp h with h | h
        · cases h; exact absurd rfl hk
        · exact .inr h
theorem lookup_of_mem {α : Type} : ∀ {l : List (Str × α)} {x : Str} {c : α}, (x, c) ∈ l → ∃ d, l.lookup x = some d
  | (k, v) :: r, x, c, h => by
    rw [List.lookup_cons]
    cases hb : x == k with
    | true => exact ⟨v, rfl⟩
    | false =>
      rcases List.mem_cons.mp h with q | q
      · cases q; simp at hb
      · exact lookup_of_mem q
theorem closureFor_ok {scope : Scope} {env : Env} (h : ∀ y ∈ scope.names, y.2 = .free → ∃ c, env.cells.lookup y.1 = some c) : closureFor scope env = pure (closL env.cells scope.names []) := by
  unfold closureFor
  have key : ∀ (names : List (Str × NameKind)) (acc : List (Str × Addr)), (∀ y ∈ names, y.2 = .free → ∃ c, env.cells.lookup y.1 = some c) →
      (forIn names acc fun (x : Str × NameKind) cs => match x with
        | (name, kind) => if (kind == NameKind.free) = true then do let __do_lift ← cellOf env name; pure (ForInStep.yield ((name, __do_lift) :: cs)) else pure (ForInStep.yield cs) : Sem (List (Str × Addr))) = pure (closL env.cells names acc) := by
    intro names
    induction names with
    | nil => intro acc _; rw [List.forIn_nil]; rfl
    | cons y r ih =>
      intro acc hy
      obtain ⟨n, k⟩ := y
      rw [List.forIn_cons]
      unfold closL
      by_cases hk : (k == NameKind.free) = true
      · obtain ⟨c, hc⟩ := hy _ (.head _) (eq_of_beq hk)
        simp only [hk, if_true]
        unfold cellOf
        simp only at hc
        rw [hc]
        exact ih _ fun z hz => hy z (.tail _ hz)
      · simp only [hk]
        exact ih _ fun z hz => hy z (.tail _ hz)
  have := key scope.names [] h
  simp only at this ⊢
  first | exact this | (rw [this]; rfl) | simpa using this

theorem lookup_relS {scope sc : Scope} (x : Str) : kindIs (relS scope sc) x = (scope.names.lookup x).map fun k => if (k == .free && sc.kind == .function && kindIs sc x == some .cell) = true then NameKind.cell else k := by
  unfold kindIs relS
  simp only
  generalize scope.names = l
  induction l with
  | nil => rfl
  | cons y r ih =>
    obtain ⟨n, k⟩ := y
    rw [List.map_cons]
    cases hb : x == n with
    | true =>
      have := eq_of_beq hb
      subst this
      simp only [List.lookup_cons, hb]
      by_cases hc : (k == NameKind.free && sc.kind == .function && kindIs sc x == some .cell) = true
      · have hc' : (k == NameKind.free && sc.kind == .function && List.lookup x sc.names == some .cell) = true := hc
        simp only [hc, hc', if_true, List.lookup_cons, beq_self_eq_true, Option.map_some]
      · have hc' : ¬ (k == NameKind.free && sc.kind == .function && List.lookup x sc.names == some .cell) = true := hc
        rw [if_neg hc]
        simp only [List.lookup_cons, beq_self_eq_true, Option.map_some, if_neg hc']
    | false =>
      simp only [List.lookup_cons, hb]
      rw [← ih]
      split <;> simp [List.lookup_cons, hb]
theorem getS_cons (y : Str) (u : Slot) (r : Sg) (x : Str) : getS ((y, u) :: r) x = if x = y then some u else getS r x := rfl
theorem getS_filter {p : Str → Bool} : ∀ (σ : Sg) (x : Str), getS (σ.filter fun q => !(p q.1)) x = if p x = true then none else getS σ x
  | [], x => by simp [getS]
  | (y, u) :: r, x => by
    have ih := getS_filter (p := p) r x
    by_cases hy : p y = true
    · rw [List.filter_cons_of_neg (by simp [hy]), ih, getS_cons]
      by_cases hx : x = y
      · subst hx; simp [hy]
      · rw [if_neg hx]
    · rw [List.filter_cons_of_pos (by simp [hy]), getS_cons, getS_cons]
      by_cases hx : x = y
      · subst hx; rw [if_pos rfl, if_pos rfl, if_neg hy]
      · rw [if_neg hx, if_neg hx, ih]

section
variable {prog : Program} {w : World} {A : Around} {E : Value → Shared → Prop} {s : Shared} {B : Heap} {W F : List Addr} {env : Env} {sc : Scope} {σ : Sg} {n : Nat} {L : Lv} {tab : Str → Option DefRec} {mg mb : Str → Option Value}

theorem Tn.same {target : Expr} {W W' : List Addr} {I : Addr} {St Md} (T : Tn prog w A target W I St Md) (h : ∀ a, a ∈ W ↔ a ∈ W') : Tn prog w A target W' I St Md where
  frame := fun l h1 h2 st e eI => T.frame l h1 h2 st (e.mono fun x hx => (h x).mpr hx) eI
  here := T.here
  item := fun d l s Q E st hW hQ => T.item d l s Q E st (fun a ha => hW a ((h a).mp ha)) hQ
  go := fun d l v s Q E hm hQ => T.go d l v s Q E hm fun h' hv st e => hQ h' (hv.less fun b hb => (h b).mpr hb) st e
  done := T.done
  self := T.self

theorem start_in {elt t it t2 it2 : Expr} {ifs ifs2 : List Expr} {scope : Scope} {pos : Pos} {i acc : Value} {P : Result → Shared → Prop}
    (h0 : codeAny (model prog w) A (.compLoop (.ListComp elt [⟨t, it, ifs, 0⟩, ⟨t2, it2, ifs2, 0⟩] scope pos) 1 i acc env) P s)
    (h : wpAny (model prog w) A (pyIter i) (fun it' s' => codeAny (model prog w) A (.compLoop (.ListComp elt [⟨t, it, ifs, 0⟩, ⟨t2, it2, ifs2, 0⟩] scope pos) 1 it' acc env) P s') (notedBy (model prog w) A env fun x s' => P (.error x) s') s) :
    codeAny (model prog w) A (.compStart (.ListComp elt [⟨t, it, ifs, 0⟩, ⟨t2, it2, ifs2, 0⟩] scope pos) 1 i acc env) P s := by
  refine codeAny_of_tree ?_
  show wpAny _ _ ((compStart (.ListComp elt [⟨t, it, ifs, 0⟩, ⟨t2, it2, ifs2, 0⟩] scope pos) 1 i acc env).onRaise (fun x => do noteFrame x env; standAt theWindowsPlace)) _ _ s
  refine wpAny_notedAt ?_
  unfold compStart
  show wpAny _ _ (ask >>= _) _ _ s
  refine wpAny_bind (wpAny_askSetting (wpAny_ite ?_))
  split
  · first
      | exact wpAny_bind (wpAny_pure (wpAny_pure (And.intro rfl h0)))
      | exact wpAny_pure (And.intro rfl h0)
  · first
      | exact wpAny_bind (wpAny_rule (wpAny_bind (wpAny_standAt (wpAny_bind (wpAny_mono h (fun it' s' h' => wpAny_pure (And.intro rfl h')) fun _ _ x => x)))))
      | (refine wpAny_bind (wpAny_rule ?_); show wpAny _ _ (standAt it2.pos >>= _) _ _ s; exact wpAny_bind (wpAny_standAt (wpAny_bind (wpAny_mono h (fun it' s' h' => wpAny_pure (And.intro rfl h')) fun _ _ x => x))))

/-- one thing is put into the list -/
theorem emitOne_ok (ok : LvOk prog w B n L) (hr : Room n A) {Dd : Addr} (hD : Dd ∈ W) (hDF : Dd ∉ F) {elt : Expr} : ∀ σ₁ l acc (s : Shared) (Q : Unit → Shared → Prop) (E : Value → Shared → Prop), emitOne L sc elt σ₁ = some l → EnvR prog w B W F env sc σ₁ s.heap →
    AccB prog w W s.heap Dd acc → acc.length + l.length ≤ 1000 → (∀ h' tk, Ext [Dd, env.locals] s.heap h' → EnvR prog w B W F env sc σ₁ h' → AccB prog w W h' Dd (acc ++ l) → Q () { s with heap := h', toks := tk }) →
    wpAny (model prog w) A (do let _ ← call (.builtin "list.append") [.ref Dd, ← eval elt env]) Q E s := by
  intro σ₁ l acc s Q E e R ha hz h
  unfold emitOne at e
  split at e
  · rename_i d hd
    obtain ⟨i, hi, rfl⟩ := Option.map_eq_some_iff.mp e
    refine wpAny_bind (ok.ev hd hr R _ _ fun v h₁ tk₁ e₁ b₁ => ?_)
    have ha₁ := ha.up e₁ (fun x hx => by cases hx) (fun q => by cases q)
    refine wpAny_bind (ha₁.push (s := { s with heap := h₁, toks := tk₁ }) (dIt_ok hi b₁) hD (by simp at hz; omega) fun h₂ e₂ ha₂ => wpAny_pure ?_)
    have R₁ := R.up e₁
    refine h h₂ _ ((e₁.mono fun _ q => by cases q).trans (e₂.mono fun x hx => by rw [List.mem_singleton.mp hx]; simp)) ?_ ha₂
    refine R₁.move e₂ (fun x hx => by rw [List.mem_singleton.mp hx]; exact hD) (fun x hx => by rw [List.mem_singleton.mp hx]; exact hDF) (fun x hx => hx) R₁.sub fun a _ hx => ?_
    rw [List.mem_singleton.mp hx]; exact ha₂.here
  · cases e

/-- the inner loop of two -/
theorem emitTwo_ok (K : Bas tab mg mb B) (ok : LvOk prog w B n L) (hr : Room n A) {Dd : Addr} (hD : Dd ∈ W) (hDF : Dd ∉ F) {elt t it it2 : Expr} {j : Str} {jp : Pos} {ifs ifs2 : List Expr} {scope : Scope} {pos : Pos} :
    ∀ σ₁ l acc (s : Shared) (Q : Unit → Shared → Prop) (E : Value → Shared → Prop), emitTwo L sc elt j jp it2 ifs2 σ₁ = some l → EnvR prog w B W F env sc σ₁ s.heap →
    AccB prog w W s.heap Dd acc → acc.length + l.length ≤ 1000 → (∀ h' tk, Ext [Dd, env.locals] s.heap h' → EnvR prog w B W F env sc σ₁ h' → AccB prog w W h' Dd (acc ++ l) → Q () { s with heap := h', toks := tk }) →
    wpAny (model prog w) A (emit2 (.ListComp elt [⟨t, it, ifs, 0⟩, ⟨.Name j jp, it2, ifs2, 0⟩] scope pos) it2 (.ref Dd) env) Q E s := by
  intro σ₁ l acc s Q E e R ha hz h
  unfold emitTwo at e
  split at e
  case isFalse => cases e
  rename_i hloc
  split at e
  · rename_i hj
    split at e
    · rename_i items hit
      have key := iterS_ok K ok hr R hit (E := E) (Q := fun i s₂ => wpAny (model prog w) A (do let _ ← runOwn (.compStart (.ListComp elt [⟨t, it, ifs, 0⟩, ⟨.Name j jp, it2, ifs2, 0⟩] scope pos) 1 i (.ref Dd) env) env) Q E s₂) ?_
      · unfold emit2
        refine wpAny_bind (wpAny_mono key.2 (fun x s₁ h₁ => wpAny_bind (wpAny_standAt (wpAny_bind ?_))) fun _ _ x => x)
        rw [fold_of key.1]
        exact wpAny_pure (wpAny_bind (wpAny_holding h₁))
      · intro I h₁ tk₁ e₁ hI R₁ its
        obtain ⟨St, Md, T, st⟩ := its [] (fun a ha => by cases ha)
        have hIW : I ∉ W := fun q => by obtain ⟨o, ho⟩ := R.here I q; rw [hI] at ho; cases ho
        have ha₁ : AccB prog w (I :: W) h₁ Dd acc := (ha.more (N := [I]) fun a ha => by rw [List.mem_singleton.mp ha]; exact hI).up e₁ (fun x hx => by cases hx) (fun q => by cases q)
        have T' : Tn prog w A (.Name j jp) (I :: W) I St Md := T
        have loop : codeAny (model prog w) A (.compLoop (.ListComp elt [⟨t, it, ifs, 0⟩, ⟨.Name j jp, it2, ifs2, 0⟩] scope pos) 1 (.ref I) (.ref Dd) env)
            (fun r s' => match r with | .ok f => wpAny (model prog w) A (pure ()) Q E s' | .error e => cameBackBy (model prog w) A env E e s') { s with heap := h₁, toks := tk₁ } := by
          refine comp_loop (s := { s with heap := h₁, toks := tk₁ }) ok hr T' hIW hD hDF R.sub hloc (turn_in elt t it (.Name j jp) it2 ifs ifs2 scope pos (.ref I) (.ref Dd) env) σ₁ ?_
            (emitOne_ok ok hr (List.mem_cons_of_mem _ hD) hDF) e R₁ (fun _ _ q => q) ha₁ hz st fun h₂ tk₂ e₂ R₂ ha₂ => ?_
          · intro σ σ' d hs hb x sl hx
            have e' : σ' = upd σ j (.val d) := by
              simp only [bindT] at hb
              split at hb <;> first | (cases hb; rfl) | cases hb
            subst e'
            rw [getS_upd]
            split
            · rename_i q; subst q; rw [hj] at hx; cases hx
            · exact hs x sl hx
          · refine wpAny_pure (h h₂ tk₂ (fun b o nb q => ?_) R₂ ha₂)
            refine e₂ b o (fun z => ?_) (e₁ b o (by simp) q)
            rcases List.mem_cons.mp z with z | z
            · subst z; rw [hI] at q; cases q
            · exact nb z
        exact wpAny_bind (wpAny_runOwn (start_in loop (T'.self _ _ _ _ st loop)))
    · cases e
  · cases e
end
end Mine
end PartN11

section PartN12
open PySem PySem.W PySem.Calls PyProof.Rows
set_option Elab.async false
namespace Mine
section
variable {prog : Program} {w : World} {A : Around} {E : Value → Shared → Prop} {s : Shared} {B : Heap} {W F : List Addr} {env : Env} {sc : Scope} {σ : Sg} {n : Nat} {L : Lv} {tab : Str → Option DefRec} {mg mb : Str → Option Value}

noncomputable def compScopeOk (scope sc : Scope) : Prop :=
  scope.kind = .function ∧ (scope.names.all fun y => y.2 != .cell) = true ∧ (scope.names.all fun y => y.2 != .local || scope.names.lookup y.1 == some .local) = true ∧ (scope.names.all fun y => y.2 != .free || kindIs sc y.1 == some .cell) = true

noncomputable def innerS (scope : Scope) (σ : Sg) : Sg := σ.filter fun p => !(scope.names.lookup p.1 == some .local)

/-- the frame of a comprehension's own -/
theorem comp_env {scope : Scope} (hs : compScopeOk scope sc) {h : Heap} {C : Addr} {W' : List Addr} (R : EnvR prog w B W' F env sc σ h) (hC : C ∈ W') (hCF : C ∉ F) (hns : h.Ns C (fun _ => none)) :
    EnvR prog w B W' (C :: F) (compEnvC scope (closL env.cells scope.names []) C env) (relS scope sc) (innerS scope σ) h := by
  obtain ⟨h1, h2, h3, h4⟩ := hs
  have clo : ∀ x c, (closL env.cells scope.names []).lookup x = some c → env.cells.lookup x = some c := by
    intro x c hx
    rcases closL_mem _ _ _ _ _ (mem_of_lookup hx) with q | ⟨q, q2⟩
    · cases q
    · have := List.all_eq_true.mp h4 _ q2
      simp only [bne_self_eq_false, Bool.false_or] at this
      obtain ⟨c', hc'⟩ := R.kc x (eq_of_beq this)
      rw [hc'] at q
      rw [hc', q]; rfl
  have kof : ∀ x, kindIs (relS scope sc) x = some .local → scope.names.lookup x = some .local := by
    intro x hx
    rw [lookup_relS] at hx
    obtain ⟨k, e1, e2⟩ := Option.map_eq_some_iff.mp hx
    split at e2
    · cases e2
    · rw [e1, e2]
  have kcell : ∀ x, (kindIs (relS scope sc) x = some .cell ∨ kindIs (relS scope sc) x = some .free) → scope.names.lookup x = some .free ∧ kindIs sc x = some .cell := by
    intro x hx
    rw [lookup_relS] at hx
    have : ∃ k, scope.names.lookup x = some k ∧ (k = .cell ∨ k = .free) := by
      rcases hx with hx | hx
      · obtain ⟨k, e1, e2⟩ := Option.map_eq_some_iff.mp hx
        split at e2
        · rename_i q
          simp only [Bool.and_eq_true] at q
          exact ⟨k, e1, .inr (eq_of_beq q.1.1)⟩
        · exact ⟨k, e1, .inl e2⟩
      · obtain ⟨k, e1, e2⟩ := Option.map_eq_some_iff.mp hx
        split at e2
        · cases e2
        · exact ⟨k, e1, .inr e2⟩
    obtain ⟨k, e1, e2⟩ := this
    have hm := mem_of_lookup e1
    rcases e2 with e2 | e2
    · subst e2
      have := List.all_eq_true.mp h2 _ hm
      simp at this
    · subst e2
      have := List.all_eq_true.mp h4 _ hm
      simp only [bne_self_eq_false, Bool.false_or] at this
      exact ⟨e1, eq_of_beq this⟩
  have has : ∀ x, scope.names.lookup x = some .free → ∃ c, (closL env.cells scope.names []).lookup x = some c := by
    intro x hx
    obtain ⟨c, hc⟩ := closL_has env.cells scope.names [] x (.inr (mem_of_lookup hx))
    exact lookup_of_mem hc
  have get : ∀ x sl, getS (innerS scope σ) x = some sl → scope.names.lookup x ≠ some .local ∧ getS σ x = some sl := by
    intro x sl hx
    unfold innerS at hx
    rw [getS_filter (p := fun y => scope.names.lookup y == some .local)] at hx
    split at hx
    · cases hx
    · rename_i q
      exact ⟨fun z => q (by rw [z]; rfl), hx⟩
  have slb : ∀ {v : Value} {sl : Slot}, SlB prog w W' F env h v sl → SlB prog w W' (C :: F) (compEnvC scope (closL env.cells scope.names []) C env) h v sl := by
    intro v sl x
    cases sl with
    | val d => exact x
    | own l =>
      obtain ⟨a, e1, e2, e3, e4, e5, e6⟩ := x
      exact ⟨a, e1, List.mem_cons_of_mem _ e2, fun q => hCF ((show a = C from q) ▸ e2), fun y c hc => e4 y c (clo y c hc), e5, e6⟩
    | buf b =>
      obtain ⟨a, e1, e2, e3, e4, e5, e6⟩ := x
      exact ⟨a, e1, List.mem_cons_of_mem _ e2, fun q => hCF ((show a = C from q) ▸ e2), fun y c hc => e4 y c (clo y c hc), e5, e6⟩
  refine ⟨R.keep, fun a ha => ?_, R.here, R.off, ?_, h1, R.gl, R.bl, List.mem_cons_self .., ⟨_, hns, fun x sl hk hs => ?_⟩, fun x c hc => ?_, fun x y c hx hy => R.apart x y c (clo x c hx) (clo y c hy), fun x hk => ?_, fun x sl hk hs => ?_, fun x y sl sl' hx hy => R.one x y sl sl' (get x sl hx).2 (get y sl' hy).2⟩
  · rcases List.mem_cons.mp ha with q | q
    · rw [q]; exact hC
    · exact R.sub a q
  · show relabel scope env = relS scope sc
    unfold relabel relS Env.kindOf kindIs
    rw [R.is]
  · exact absurd (kof x hk) (get x sl hs).1
  · obtain ⟨c1, c2, c3⟩ := R.cl x c (clo x c hc)
    exact ⟨List.mem_cons_of_mem _ c1, fun q => hCF ((show c = C from q) ▸ c1), c3⟩
  · exact has x (kcell x (.inl hk)).1
  · obtain ⟨k1, k2⟩ := kcell x hk
    obtain ⟨c, hc⟩ := has x k1
    obtain ⟨c', v, e1, e2, e3⟩ := R.cs x sl (.inl k2) (get x sl hs).2
    rw [clo x c hc] at e1
    cases e1
    exact ⟨c, v, hc, e2, slb e3⟩

theorem comp_ok (K : Bas tab mg mb B) (ok : LvOk prog w B n L) (hr : Room n A) (R : EnvR prog w B W F env sc σ s.heap) {elt : Expr} {gens : List Comprehension} {scope : Scope} {pos : Pos} {d : D} (e : compS L sc σ elt gens scope = some d) :
    Gv prog w A W s (eval (.ListComp elt gens scope pos) env) d := by
  intro Q E hQ
  unfold compS at e
  simp only at e
  split at e
  · rename_i hs
    have hs' : compScopeOk scope sc := hs
    obtain ⟨h1, h2, h3, h4⟩ := hs
    have hclos : closureFor scope env = pure (closL env.cells scope.names []) := closureFor_ok fun y hy hf => by
      have := List.all_eq_true.mp h4 y hy
      simp only [hf, bne_self_eq_false, Bool.false_or] at this
      exact R.kc y.1 (eq_of_beq this)
    have hnames : ∀ y ∈ scope.names, y.2 = .local → scope.names.lookup y.1 = some .local := fun y hy hl => by
      have := List.all_eq_true.mp h3 y hy
      simp only [hl, bne_self_eq_false, Bool.false_or] at this
      exact eq_of_beq this
    have hcell : ∀ y ∈ scope.names, y.2 ≠ .cell := fun y hy q => by
      have := List.all_eq_true.mp h2 y hy
      rw [q] at this; simp at this
    -- what both shapes share
    have tail : ∀ {target : Expr} {items : List D} {it : Expr} {ifs : List Expr} {rest : List Comprehension} {emitF : Sg → Option (List It)} {l : List It}, compItems L (relS scope sc) emitF target ifs items (innerS scope σ) = some l → l.length ≤ 1000 → d = .list l → locT (relS scope sc) target = true →
        (∀ (C D I : Addr) (W' : List Addr), (∃ emit : Sem Unit, compTurn (.ListComp elt (⟨target, it, ifs, 0⟩ :: rest) scope pos) 0 (.ref I) (.ref D) (compEnvC scope (closL env.cells scope.names []) C env) =
            turnOf (.ListComp elt (⟨target, it, ifs, 0⟩ :: rest) scope pos) 0 target ifs it.pos emit (.ref I) (.ref D) (compEnvC scope (closL env.cells scope.names []) C env) ∧
          (D ∈ W' → D ∉ C :: F → ∀ σ₁ l acc (s : Shared) (Q : Unit → Shared → Prop) (E : Value → Shared → Prop), emitF σ₁ = some l → EnvR prog w B W' (C :: F) (compEnvC scope (closL env.cells scope.names []) C env) (relS scope sc) σ₁ s.heap →
            AccB prog w W' s.heap D acc → acc.length + l.length ≤ 1000 → (∀ h' tk, Ext [D, C] s.heap h' → EnvR prog w B W' (C :: F) (compEnvC scope (closL env.cells scope.names []) C env) (relS scope sc) σ₁ h' → AccB prog w W' h' D (acc ++ l) → Q () { s with heap := h', toks := tk }) →
            wpAny (model prog w) A emit Q E s))) →
        ItOk prog w A B W F env sc σ target items s (fun it' s₂ => wpAny (model prog w) A (newList []) (fun acc s₃ => wpAny (model prog w) A (newFunctionEnv scope env.globals (closL env.cells scope.names []) [] env.qual none .none (some env)) (fun cenv s₄ =>
          codeAny (model prog w) A (.compStart (.ListComp elt (⟨target, it, ifs, 0⟩ :: rest) scope pos) 0 it' acc { cenv with scope := relabel scope env }) (compPost (model prog w) A E none Q acc cenv.locals) s₄) E s₃) E s₂) := by
      intro target items it ifs rest emitF l hl hlen hd hloc hem I h₁ tk₁ e₁ hI R₁ its
      refine wpAny_newObj_type (wpAny_newFunctionEnv hcell (by intro y hy; simp at hy) (fun h₃ hns₃ hsb₃ => ?_) h1)
      dsimp only at hns₃ hsb₃ ⊢
      have hIW : I ∉ W := fun q => by obtain ⟨o, ho⟩ := R.here I q; rw [hI] at ho; cases ho
      generalize hH : h₁.push { cls := .type "list", dict := none, data := .seq ([] : List Value).toArray } = H at hns₃ hsb₃ ⊢
      have hsz : H.objs.size = h₁.objs.size + 1 := by rw [← hH, Heap.size_push]
      have e₂ : Ext [] h₁ H := by rw [← hH]; exact Ext.push _ _ _
      have hDn : h₁.get? h₁.objs.size = none := size_none _
      have hCn : h₁.get? H.objs.size = none := by
        cases q : h₁.get? H.objs.size with
        | none => rfl
        | some o => exact absurd (Heap.lt_size q) (by rw [hsz]; exact Nat.not_lt.mpr (Nat.le_succ _))
      have hDo : H.get? h₁.objs.size = some { cls := .type "list", dict := none, data := .seq ([] : List Value).toArray } := by rw [← hH]; exact Heap.get?_push_size _ rfl
      have hCD : h₁.objs.size ≠ H.objs.size := by rw [hsz]; exact Nat.ne_of_lt (Nat.lt_succ_self _)
      have e₃ : Ext [] h₁ h₃ := fun b o _ q => by
        have q2 := e₂ b o (by simp) q
        exact hsb₃.extBut b o (fun z => by subst z; rw [hCn] at q; cases q) (Heap.get?_push_of_some _ q2)
      have hD₃ : h₃.PlainList h₁.objs.size #[] := ⟨_, hsb₃.extBut _ _ hCD (Heap.get?_push_of_some _ hDo)⟩
      generalize hCeq : H.objs.size = C at *
      generalize hDeq : h₁.objs.size = Dd at *
      have hN : ∀ a ∈ [C, Dd], h₁.get? a = none := fun a ha => by
        rcases List.mem_cons.mp ha with q | q
        · rw [q]; exact hCn
        · rw [List.mem_singleton.mp q]; exact hDn
      obtain ⟨St, Md, T, st⟩ := its [C, Dd] hN
      have hIo : ∃ o, h₁.get? I = some o := T.here _ _ st
      have hIC : I ≠ C := fun q => by obtain ⟨o, ho⟩ := hIo; rw [q, hCn] at ho; cases ho
      have hID : I ≠ Dd := fun q => by obtain ⟨o, ho⟩ := hIo; rw [q, hDn] at ho; cases ho
      have T' : Tn prog w A target (I :: C :: Dd :: W) I St Md := T.same fun a => by simp only [List.cons_append, List.nil_append, List.mem_cons]; constructor <;> (intro q; rcases q with q | q | q | q <;> simp [q])
      have hns' : h₃.Ns C (fun _ => none) := hns₃
      have R₃ : EnvR prog w B ([C, Dd] ++ I :: W) F env sc σ h₃ := R₁.more hN e₃ fun a ha => by
        rcases List.mem_cons.mp ha with q | q
        · rw [q]; obtain ⟨o, _, _, ho, _⟩ := hns'; exact ⟨o, ho⟩
        · rw [List.mem_singleton.mp q]; obtain ⟨c, hc⟩ := hD₃; exact ⟨_, hc⟩
      have R₃' : EnvR prog w B (I :: C :: Dd :: W) F env sc σ h₃ := R₃.move (Ext.refl [] _) (fun _ q => by cases q) (fun _ q => by cases q)
        (fun a ha => by simp only [List.cons_append, List.nil_append, List.mem_cons] at ha ⊢; rcases ha with q | q | q | q <;> simp [q])
        (fun a ha => by have := R.sub a ha; simp [this]) (fun _ _ q => by cases q)
      have nF : ∀ a, h₁.get? a = none → a ∉ F := fun a ha q => by obtain ⟨o, ho⟩ := R₁.here a (R₁.sub a q); rw [ha] at ho; cases ho
      have hCF := nF C hCn
      have hDF := nF Dd hDn
      have Rc := comp_env hs' R₃' (by simp) hCF hns'
      have acc0 : AccB prog w (I :: C :: Dd :: W) h₃ Dd [] := ⟨#[], hD₃, .nil⟩
      have st₃ : St items h₃ := T'.frame _ _ _ st (e₃.mono fun _ q => by cases q) fun o q => e₃ I o (by simp) q
      have hDCF : Dd ∉ C :: F := fun q => by
        rcases List.mem_cons.mp q with q | q
        · exact hCD q
        · exact hDF q
      obtain ⟨emit, heq, hemit⟩ := hem C Dd I (I :: C :: Dd :: W)
      have loop : ∀ s₃ : Shared, s₃ = { s with heap := h₃, toks := tk₁ + ([] : List (Str × Value)).length } → codeAny (model prog w) A (.compLoop (.ListComp elt (⟨target, it, ifs, 0⟩ :: rest) scope pos) 0 (.ref I) (.ref Dd) (compEnvC scope (closL env.cells scope.names []) C env))
          (compPost (model prog w) A E none Q (.ref Dd) C) s₃ := by
        rintro s₃ rfl
        refine comp_loop (s := { s with heap := h₃, toks := tk₁ + ([] : List (Str × Value)).length }) (W := C :: Dd :: W) (F := C :: F) ok hr T' ?_ (by simp) hDCF ?_ hloc heq [] (fun _ _ _ _ _ x sl hx => by cases hx) (hemit (by simp) hDCF) hl Rc (fun x sl hx => by cases hx) acc0 (by simpa using hlen) st₃ fun h₄ tk₄ e₄ R₄ a₄ => ?_
        · intro q
          rcases List.mem_cons.mp q with q | q
          · exact hIC q
          · rcases List.mem_cons.mp q with q | q
            · exact hID q
            · exact hIW q
        · intro a ha
          rcases List.mem_cons.mp ha with q | q
          · simp [q]
          · simp [R.sub a q]
        · obtain ⟨m, hm, _⟩ := R₄.ns
          refine ⟨m, hm, fun h₅ hs₅ => ?_⟩
          have eC : Ext [C] h₄ h₅ := ext_same hs₅
          subst hd
          rw [List.nil_append] at a₄
          have hDW : Dd ∉ W := fun q => by obtain ⟨o, ho⟩ := R.here Dd q; have := e₁ Dd o (by simp) ho; rw [hDn] at this; cases this
          refine hQ _ h₅ _ (fun b o _ q => ?_) ⟨Dd, rfl, hDW, ?_⟩
          · have q1 := e₁ b o (by simp) q
            have bC : b ≠ C := fun z => by rw [z, hCn] at q1; cases q1
            have q3 := e₃ b o (by simp) q1
            refine eC b o (fun z => bC (List.mem_singleton.mp z)) ?_
            refine e₄ b o (fun z => ?_) q3
            simp only [List.mem_cons, List.not_mem_nil, or_false] at z
            rcases z with z | z | z
            · rw [z, hI] at q; cases q
            · rw [z, hDn] at q1; cases q1
            · exact bC z
          · exact (a₄.up eC (fun x hx => by rw [List.mem_singleton.mp hx]; simp) (fun q => hCD (List.mem_singleton.mp q))).less fun x hx => by simp [hx]
      exact codeAny_compStart_list (loop _ rfl) (T'.self _ _ _ _ st₃ (loop _ rfl))
    split at e
    · rename_i t it ifs
      split at e
      case isFalse => cases e
      rename_i hloc
      split at e
      · rename_i items hit
        split at e
        · rename_i l hl
          split at e
          · rename_i hlen
            cases e
            have key := callIter_ok K ok hr R hit (E := E) (tail hl hlen rfl hloc fun C D I W' => ⟨_, turn_one elt t it ifs scope pos (.ref I) (.ref D) _, fun hD hDF => emitOne_ok ok hr hD hDF⟩)
            rw [eval_ListComp]
            exact wpAny_comprehension_free (use := none) rfl (fun x => fold_of key.1 env x) hclos h1 hnames key.2
          · cases e
        · cases e
      · cases e
    · rename_i t it ifs j jp it2 ifs2
      split at e
      case isFalse => cases e
      rename_i hloc
      split at e
      · rename_i items hit
        split at e
        · rename_i l hl
          split at e
          · rename_i hlen
            cases e
            have key := iterS_ok K ok hr R hit (E := E) (tail hl hlen rfl hloc fun C D I W' => ⟨_, turn_two elt t it (.Name j jp) it2 ifs ifs2 scope pos (.ref I) (.ref D) _, fun hD hDF => emitTwo_ok K ok hr hD hDF⟩)
            rw [eval_ListComp]
            exact wpAny_comprehension_free (use := none) rfl (fun x => fold_of key.1 env x) hclos h1 hnames key.2
          · cases e
        · cases e
      · cases e
    · cases e
  · cases e
end
end Mine
end PartN12

section PartN13
open PySem PySem.W PySem.Calls PyProof.Rows
set_option Elab.async false
namespace Mine

theorem bind1 {fd : FuncData} {a : Arg} {v : Value} (hd : fd.defaults = .none) (h1 : fd.params.posonlyargs = []) (h2 : fd.params.args = [a]) (h3 : fd.params.vararg = none) (h4 : fd.params.kwonlyargs = []) (h5 : fd.params.kwarg = none) :
    bindArgs fd ⟨[v], []⟩ = pure [(a.arg, v)] := by
  unfold bindArgs
  rw [hd]
  have e : seqItems? .none = pure none := rfl
  rw [e]
  simp [h1, h2, h3, h4, h5, List.lookup_cons]
theorem bind2 {fd : FuncData} {a b : Arg} {v u : Value} (hab : a.arg ≠ b.arg) (hd : fd.defaults = .none) (h1 : fd.params.posonlyargs = []) (h2 : fd.params.args = [a, b]) (h3 : fd.params.vararg = none) (h4 : fd.params.kwonlyargs = []) (h5 : fd.params.kwarg = none) :
    bindArgs fd ⟨[v, u], []⟩ = pure [(a.arg, v), (b.arg, u)] := by
  unfold bindArgs
  rw [hd]
  have e : seqItems? .none = pure none := rfl
  rw [e]
  have hba : (b.arg == a.arg) = false := beq_eq_false_iff_ne.mpr (Ne.symm hab)
  simp [h1, h2, h3, h4, h5, List.lookup_cons, hba]

theorem bindL_other {kindOf : Str → Option NameKind} : ∀ (names : List Str) (vs : List Value) (m : Str → Option Value) (x : Str), x ∉ names → bindL kindOf (names.zip vs) m x = m x
  | [], _, _, _, _ => rfl
  | _ :: _, [], _, _, _ => rfl
  | n :: names, v :: vs, m, x, h => by
    rw [List.zip_cons_cons]
    unfold bindL
    rw [bindL_other names vs _ x fun q => h (.tail _ q)]
    have : x ≠ n := fun q => h (q ▸ .head _)
    split
    · exact if_neg this
    · rfl
theorem bindC_other {kindOf : Str → Option NameKind} : ∀ (names : List Str) (vs : List Value) (m : Str → Option Value) (x : Str), x ∉ names → bindC kindOf (names.zip vs) m x = m x
  | [], _, _, _, _ => rfl
  | _ :: _, [], _, _, _ => rfl
  | n :: names, v :: vs, m, x, h => by
    rw [List.zip_cons_cons]
    unfold bindC
    rw [bindC_other names vs _ x fun q => h (.tail _ q)]
    have : x ≠ n := fun q => h (q ▸ .head _)
    split
    · rfl
    · exact if_neg this
theorem bindL_get {kindOf : Str → Option NameKind} : ∀ (names : List Str) (vs : List Value) (m : Str → Option Value) (x : Str) (v : Value), names.Nodup → (x, v) ∈ names.zip vs → kindOf x = some .local → bindL kindOf (names.zip vs) m x = some v
  | [], _, _, _, _, _, h, _ => by cases h
  | _ :: _, [], _, _, _, _, h, _ => by cases h
  | n :: names, v' :: vs, m, x, v, hn, h, hk => by
    obtain ⟨h1, h2⟩ := List.nodup_cons.mp hn
    rw [List.zip_cons_cons] at h ⊢
    unfold bindL
    rcases List.mem_cons.mp h with q | q
    · obtain ⟨q1, q2⟩ := Prod.mk.inj q
      rw [bindL_other names vs _ x (q1 ▸ h1), if_pos (q1 ▸ hk), q2]
      exact if_pos q1
    · exact bindL_get names vs _ x v h2 q hk
theorem bindC_get {kindOf : Str → Option NameKind} : ∀ (names : List Str) (vs : List Value) (m : Str → Option Value) (x : Str) (v : Value), names.Nodup → (x, v) ∈ names.zip vs → kindOf x ≠ some .local → bindC kindOf (names.zip vs) m x = some v
  | [], _, _, _, _, _, h, _ => by cases h
  | _ :: _, [], _, _, _, _, h, _ => by cases h
  | n :: names, v' :: vs, m, x, v, hn, h, hk => by
    obtain ⟨h1, h2⟩ := List.nodup_cons.mp hn
    rw [List.zip_cons_cons] at h ⊢
    unfold bindC
    rcases List.mem_cons.mp h with q | q
    · obtain ⟨q1, q2⟩ := Prod.mk.inj q
      rw [bindC_other names vs _ x (q1 ▸ h1), if_neg (q1 ▸ hk), q2]
      exact if_pos q1
    · exact bindC_get names vs _ x v h2 q hk
theorem getS_zipS {P : Value → D → Prop} : ∀ (names : List Str) {vs : List Value} {ds : List D} {x : Str} {sl : Slot}, Paired P vs ds → getS (zipS names ds) x = some sl → ∃ v d, sl = .val d ∧ (x, v) ∈ names.zip vs ∧ P v d
  | [], _, _, _, _, _, h => by simp [zipS, getS] at h
  | _ :: _, _, _, _, _, .nil, h => by simp [zipS, getS] at h
  | n :: names, v :: vs, d :: ds, x, sl, .cons a t, h => by
    simp only [zipS] at h
    rw [getS_cons] at h
    rw [List.zip_cons_cons]
    split at h
    · rename_i q; subst q; cases h
      exact ⟨v, d, rfl, .head _, a⟩
    · obtain ⟨v', d', e1, e2, e3⟩ := getS_zipS names t h
      exact ⟨v', d', e1, .tail _ e2, e3⟩
theorem cellsFrom_has : ∀ (names : List (Str × NameKind)) (k : Nat) (acc : List (Str × Addr)) (x : Str), ((∃ c, (x, c) ∈ acc) ∨ (x, NameKind.cell) ∈ names) → ∃ c, (x, c) ∈ cellsFrom k names acc
  | [], k, acc, x, h => by
    rcases h with h | h
    · exact h
    · cases h
  | (n, kd) :: r, k, acc, x, h => by
    unfold cellsFrom
    split
    · refine cellsFrom_has r _ _ x ?_
      rcases h with ⟨c, h⟩ | h
      · exact .inl ⟨c, .tail _ h⟩
      · rcases List.mem_cons.mp h with h | h
        · cases h; exact .inl ⟨_, .head _⟩
        · exact .inr h
    · rename_i hk
      refine cellsFrom_has r _ _ x ?_
      rcases h with h | h
      · exact .inl h
      · rcases List.mem_cons.mp h with h | h
        · cases h; exact absurd rfl hk
        · exact .inr h

noncomputable def footOf (env : Env) : List Addr := env.locals :: env.cells.map fun y => (env.cells.lookup y.1).getD env.locals
theorem foot_mem {env : Env} {a : Addr} (h : a ∈ footOf env) : a = env.locals ∨ ∃ y, env.cells.lookup y = some a := by
  rcases List.mem_cons.mp h with q | q
  · exact .inl q
  · obtain ⟨⟨y, c⟩, hy, rfl⟩ := List.mem_map.mp q
    obtain ⟨c', hc'⟩ := lookup_of_mem hy
    exact .inr ⟨y, by simp only; rw [hc']; rfl⟩
theorem mem_foot {env : Env} {y : Str} {c : Addr} (h : env.cells.lookup y = some c) : c ∈ footOf env :=
  List.mem_cons_of_mem _ (List.mem_map.mpr ⟨(y, c), mem_of_lookup h, by simp only; rw [h]; rfl⟩)

section
variable {prog : Program} {w : World} {A : Around} {E : Value → Shared → Prop} {s : Shared} {B : Heap} {W F : List Addr} {env : Env} {sc : Scope} {σ : Sg} {n : Nat} {L : Lv} {tab : Str → Option DefRec} {mg mb : Str → Option Value}

/-- what a call needs to know of the heap -/
structure Ready (B : Heap) (W : List Addr) (h : Heap) : Prop where
  keep : ∀ b o, B.get? b = some o → h.get? b = some o
  here : ∀ a ∈ W, ∃ o, h.get? a = some o
  off : ∀ a ∈ W, B.get? a = none
theorem EnvR.ready {h : Heap} (R : EnvR prog w B W F env sc σ h) : Ready B W h := ⟨R.keep, R.here, R.off⟩

theorem foot_fresh {s₁ : Shared} {m cm : Str → Option Value} (x : InCallC s env.locals m env.cells cm s₁) : ∀ a ∈ footOf env, s.heap.get? a = none := by
  intro a ha
  have hge : s.heap.objs.size ≤ a := by
    rcases foot_mem ha with q | ⟨y, q⟩
    · rw [q]; exact x.toInCall.fresh
    · exact Nat.le_of_lt (Nat.lt_of_le_of_lt x.toInCall.fresh (x.above y a (mem_of_lookup q)))
  cases q : s.heap.get? a with
  | none => rfl
  | some o => exact absurd (Heap.lt_size q) (Nat.not_lt.mpr hge)

/-- a frame just entered -/
theorem enter_env {d : DefRec} {ds : List D} {vs : List Value} (he : enterOk d ds.length = true) (rd : Ready B W s.heap) (hp : Paired (DB prog w W s.heap) vs ds) {s₁ : Shared} (hsc : env.scope = d.scope) (hgl : env.globals = mainGlobals) (hbl : env.builtins = builtinsNs)
    (hcl : env.cells = cellsFrom (s.heap.objs.size + 1) d.scope.names [])
    (x : InCallC s env.locals (bindL env.kindOf ((d.params.args.map (·.arg)).zip vs) fun _ => none) env.cells (bindC env.kindOf ((d.params.args.map (·.arg)).zip vs) fun _ => none) s₁) :
    EnvR prog w B (footOf env ++ W) (footOf env) env d.scope (zipS (d.params.args.map (·.arg)) ds) s₁.heap := by
  simp only [enterOk, Bool.and_eq_true, decide_eq_true_eq] at he
  obtain ⟨⟨⟨⟨⟨⟨⟨e1, e2⟩, e3⟩, e4⟩, e5⟩, e6⟩, e7⟩, e8⟩ := he
  have fr := foot_fresh x
  obtain ⟨h₁, tk₁, hs₁⟩ := x.toInCall.same
  have keep := x.toInCall.keep
  have upv : ∀ {v : Value} {u : D}, DB prog w W s.heap v u → DB prog w (footOf env ++ W) s₁.heap v u := fun q => (DB.more fr q).up fun b o _ z => keep b o z
  have kof : ∀ y, env.kindOf y = kindIs d.scope y := fun y => by show env.scope.names.lookup y = _; rw [hsc]; rfl
  refine ⟨fun b o q => keep b o (rd.keep b o q), fun a ha => List.mem_append_left _ ha, fun a ha => ?_, fun a ha => ?_, hsc, e4, hgl, hbl, List.mem_cons_self .., ⟨_, x.toInCall.ns, fun y sl hk hs => ?_⟩, fun y c hc => ?_, fun y z c hy hz => ?_, fun y hk => ?_, fun y sl hk hs => ?_, fun y z sl sl' hy hz oy _ => ?_⟩
  · rcases List.mem_append.mp ha with q | q
    · rcases foot_mem q with q | ⟨y, q⟩
      · rw [q]; obtain ⟨o, _, _, ho, _⟩ := x.toInCall.ns; exact ⟨o, ho⟩
      · obtain ⟨o, ho, _⟩ := x.cell y a q; exact ⟨o, ho⟩
    · obtain ⟨o, ho⟩ := rd.here a q; exact ⟨o, keep a o ho⟩
  · rcases List.mem_append.mp ha with q | q
    · cases z : B.get? a with
      | none => rfl
      | some o => have := rd.keep a o z; rw [fr a q] at this; cases this
    · exact rd.off a q
  · obtain ⟨v, u, rfl, hm, hv⟩ := getS_zipS _ hp hs
    exact ⟨v, bindL_get _ _ _ _ _ e8 hm (by rw [kof]; exact hk), upv hv⟩
  · have hm := mem_of_lookup hc
    refine ⟨mem_foot hc, Nat.ne_of_gt (x.above y c hm), _, x.cell y c hc⟩
  · exact name_of_addr x.apart (mem_of_lookup hy) (mem_of_lookup hz)
  · obtain ⟨c, hc⟩ := cellsFrom_has d.scope.names (s.heap.objs.size + 1) [] y (.inr (mem_of_lookup hk))
    rw [hcl]
    exact lookup_of_mem hc
  · obtain ⟨v, u, rfl, hm, hv⟩ := getS_zipS _ hp hs
    have hkc : kindIs d.scope y = some .cell := by
      rcases hk with hk | hk
      · exact hk
      · have hy : y ∈ d.params.args.map (·.arg) := (List.of_mem_zip hm).1
        obtain ⟨a, ha, rfl⟩ := List.mem_map.mp hy
        have := List.all_eq_true.mp e7 a ha
        unfold parOk at this
        rw [hk] at this; cases this
    obtain ⟨c, hc⟩ := cellsFrom_has d.scope.names (s.heap.objs.size + 1) [] y (.inr (mem_of_lookup hkc))
    obtain ⟨c', hc'⟩ := lookup_of_mem hc
    rw [← hcl] at hc'
    have := x.cell y c' hc'
    rw [bindC_get _ _ _ _ _ e8 hm (by rw [kof, hkc]; simp)] at this
    exact ⟨c', v, hc', this, upv hv⟩
  · obtain ⟨v, u, rfl, _, _⟩ := getS_zipS _ hp hy
    cases oy
end
end Mine
end PartN13

section PartN14
open PySem PySem.W PySem.Calls PyProof.Rows
set_option Elab.async false
namespace Mine
section
variable {prog : Program} {w : World} {A : Around} {E : Value → Shared → Prop} {s : Shared} {B : Heap} {W F : List Addr} {env : Env} {sc : Scope} {σ : Sg} {n : Nat} {L : Lv} {tab : Str → Option DefRec} {mg mb : Str → Option Value}

theorem SlB.widen {F' : List Addr} {h : Heap} {v : Value} {sl : Slot} (x : SlB prog w W F env h v sl) (q : ∀ a ∈ F, a ∈ F') : SlB prog w W F' env h v sl := by
  cases sl with
  | val d => exact x
  | own l => obtain ⟨a, e1, e2, r⟩ := x; exact ⟨a, e1, q a e2, r⟩
  | buf b => obtain ⟨a, e1, e2, r⟩ := x; exact ⟨a, e1, q a e2, r⟩
theorem EnvR.widen {F' : List Addr} {h : Heap} (R : EnvR prog w B W F env sc σ h) (q : ∀ a ∈ F, a ∈ F') (q2 : ∀ a ∈ F', a ∈ W) : EnvR prog w B W F' env sc σ h :=
  ⟨R.keep, q2, R.here, R.off, R.is, R.fn, R.gl, R.bl, q _ R.LF, (let ⟨m, h1, h2⟩ := R.ns; ⟨m, h1, fun x sl hk hs => let ⟨v, e1, e2⟩ := h2 x sl hk hs; ⟨v, e1, e2.widen q⟩⟩),
    fun x c hc => let ⟨a, b⟩ := R.cl x c hc; ⟨q c a, b⟩, R.apart, R.kc, fun x sl hk hs => let ⟨c, v, e1, e2, e3⟩ := R.cs x sl hk hs; ⟨c, v, e1, e2, e3.widen q⟩, R.one⟩

/-- a local name gets a thing of the frame's own -/
theorem EnvR.bindS (R : EnvR prog w B W F env sc σ s.heap) {x : Str} {v : Value} {sl0 : Slot} {Q : Unit → Shared → Prop} (hk : kindIs sc x = some .local) (hv : SlB prog w W F env s.heap v sl0)
    (ho : ∀ y sl, getS σ y = some sl → sl.isOwn = false)
    (h : ∀ h' tk, Ext [env.locals] s.heap h' → EnvR prog w B W F env sc (upd σ x sl0) h' → Q () { s with heap := h', toks := tk }) : wpAny (model prog w) A (storeName env x v) Q E s := by
  obtain ⟨m, hm, hval⟩ := R.ns
  refine wpAny_storeName_local (by show env.scope.names.lookup x = some .local; rw [R.is]; exact hk) hm (fun h' hn hs => ?_) (by rw [R.is, R.fn]; rfl)
  have eL : Ext [env.locals] s.heap h' := Ext.same hs (List.mem_singleton.mpr rfl)
  have eF : Ext F s.heap h' := Ext.same hs R.LF
  have eW : Ext W s.heap h' := eF.mono R.sub
  have up : ∀ {u : Value} {sl : Slot}, SlB prog w W F env s.heap u sl → SlB prog w W F env h' u sl := by
    intro u sl q
    cases sl with
    | val d => exact DB.up q eW
    | own l =>
      obtain ⟨a, e1, e2, e3, e4, e5, e6⟩ := q
      exact ⟨a, e1, e2, e3, e4, e5, e6.at' eW fun o z => hs.extBut a o e3 z⟩
    | buf b =>
      obtain ⟨a, e1, e2, e3, e4, e5, e6⟩ := q
      exact ⟨a, e1, e2, e3, e4, hs.extBut a _ e3 e5, e6⟩
  refine h h' _ eL ⟨fun b o q => eW b o (fun z => by rw [R.off b z] at q; cases q) (R.keep b o q), R.sub, fun a ha => ?_, R.off, R.is, R.fn, R.gl, R.bl, R.LF, ⟨_, hn, fun y sl hy hg => ?_⟩, fun y c hc => ?_, R.apart, R.kc, fun y sl hy hg => ?_, fun y z sl sl' hy hz oy oz => ?_⟩
  · by_cases q : a = env.locals
    · subst q; obtain ⟨o, _, _, ho, _⟩ := hn; exact ⟨o, ho⟩
    · obtain ⟨o, ho⟩ := R.here a ha; exact ⟨o, hs.extBut a o q ho⟩
  · rw [getS_upd] at hg
    by_cases q : y = x
    · subst q
      rw [if_pos rfl] at hg; cases hg
      exact ⟨v, if_pos rfl, up hv⟩
    · rw [if_neg q] at hg
      obtain ⟨u, e1, e2⟩ := hval y sl hy hg
      exact ⟨u, by rw [if_neg q]; exact e1, up e2⟩
  · obtain ⟨c1, c2, v₀, o, ho, hd⟩ := R.cl y c hc
    exact ⟨c1, c2, v₀, o, hs.extBut c o c2 ho, hd⟩
  · rw [getS_upd] at hg
    by_cases q : y = x
    · subst q; rw [hk] at hy; rcases hy with hy | hy <;> cases hy
    · rw [if_neg q] at hg
      obtain ⟨c, u, e1, ⟨o, ho, hd⟩, e3⟩ := R.cs y sl hy hg
      exact ⟨c, u, e1, ⟨o, hs.extBut c o (R.cl y c e1).2.1 ho, hd⟩, up e3⟩
  · rw [getS_upd] at hy hz
    by_cases q : y = x
    · by_cases q2 : z = x
      · rw [q, q2]
      · rw [if_neg q2] at hz; rw [ho z sl' hz] at oz; cases oz
    · rw [if_neg q] at hy; rw [ho y sl hy] at oy; cases oy

noncomputable def OwnAt (env : Env) (h : Heap) (x : Str) (a : Addr) : Prop := ∃ m, h.Ns env.locals m ∧ m x = some (.ref a)
theorem OwnAt.up {h h' : Heap} {x : Str} {a : Addr} (q : OwnAt env h x a) (e : Ext [] h h') : OwnAt env h' x a := let ⟨m, h1, h2⟩ := q; ⟨m, h1.at' fun o => e _ o (by simp), h2⟩
theorem ns_same {h : Heap} {a : Addr} {m m' : Str → Option Value} (x : h.Ns a m) (y : h.Ns a m') : m = m' := x.eq_nsMap.trans y.eq_nsMap.symm
/-- what a name of the frame's own stands for -/
theorem EnvR.own {h : Heap} (R : EnvR prog w B W F env sc σ h) {x : Str} {sl : Slot} (hk : kindIs sc x = some .local) (hx : getS σ x = some sl) (ho : sl.isOwn = true) : ∃ a, OwnAt env h x a ∧ SlB prog w W F env h (.ref a) sl := by
  obtain ⟨m, hm, hval⟩ := R.ns
  obtain ⟨v, e1, e2⟩ := hval x sl hk hx
  cases sl with
  | val d => cases ho
  | own l => obtain ⟨a, rfl, r⟩ := e2; exact ⟨a, ⟨m, hm, e1⟩, a, rfl, r⟩
  | buf b => obtain ⟨a, rfl, r⟩ := e2; exact ⟨a, ⟨m, hm, e1⟩, a, rfl, r⟩
theorem EnvR.ownLoad (R : EnvR prog w B W F env sc σ s.heap) {x : Str} {a : Addr} {p : Pos} (hk : kindIs sc x = some .local) (oa : OwnAt env s.heap x a) (hd : x ≠ Str.ofString "__debug__") {Q : Value → Shared → Prop} (h : Q (.ref a) s) :
    wpAny (model prog w) A (eval (.Name x p) env) Q E s := by
  obtain ⟨m, hm, e⟩ := oa
  exact wpAny_Name (wpAny_loadName_local (by rw [R.is, R.fn]) (by show env.scope.names.lookup x = some .local; rw [R.is]; exact hk) hm e h) (beq_eq_false_iff_ne.mpr hd)
theorem EnvR.ownIs {h : Heap} (R : EnvR prog w B W F env sc σ h) {x : Str} {sl : Slot} {a : Addr} (hk : kindIs sc x = some .local) (hx : getS σ x = some sl) (ho : sl.isOwn = true) (oa : OwnAt env h x a) : SlB prog w W F env h (.ref a) sl := by
  obtain ⟨a', ⟨m, hm, e⟩, r⟩ := R.own hk hx ho
  obtain ⟨m', hm', e'⟩ := oa
  rw [ns_same hm hm', e'] at e
  cases e; exact r
theorem SlB.addr {h : Heap} {a : Addr} {sl : Slot} (x : SlB prog w W F env h (.ref a) sl) (ho : sl.isOwn = true) : a ∈ F ∧ a ≠ env.locals ∧ ∀ y c, env.cells.lookup y = some c → c ≠ a := by
  cases sl with
  | val d => cases ho
  | own l => obtain ⟨a', e, h1, h2, h3, _⟩ := x; cases e; exact ⟨h1, h2, h3⟩
  | buf b => obtain ⟨a', e, h1, h2, h3, _⟩ := x; cases e; exact ⟨h1, h2, h3⟩
theorem EnvR.put {h h' : Heap} (R : EnvR prog w B W F env sc σ h) {x : Str} {sl sl' : Slot} {a : Addr} (hk : kindIs sc x = some .local) (hx : getS σ x = some sl) (ho : sl.isOwn = true) (oa : OwnAt env h x a) (hs : Heap.SameBut a h h') (hv : SlB prog w W F env h' (.ref a) sl')
    (ho' : sl'.isOwn = true) : EnvR prog w B W F env sc (upd σ x sl') h' := by
  have hA := R.ownIs hk hx ho oa
  obtain ⟨aF, aL, aC⟩ := hA.addr ho
  have ea : Ext [a] h h' := ext_same hs
  have eW : Ext W h h' := Ext.same hs (R.sub a aF)
  have others : ∀ y sl1, y ≠ x → getS σ y = some sl1 → sl1.isOwn = false := fun y sl1 hne hy => by
    cases hb : sl1.isOwn with
    | false => rfl
    | true => exact absurd (R.one y x sl1 sl hy hx hb ho) hne
  have up : ∀ {u : Value} {sl1 : Slot}, sl1.isOwn = false → SlB prog w W F env h u sl1 → SlB prog w W F env h' u sl1 := by
    intro u sl1 hb q
    cases sl1 with
    | val d => exact DB.up q eW
    | own l => cases hb
    | buf b => cases hb
  refine ⟨fun b o q => eW b o (fun z => by rw [R.off b z] at q; cases q) (R.keep b o q), R.sub, fun b hb => ?_, R.off, R.is, R.fn, R.gl, R.bl, R.LF, ?_, fun y c hc => ?_, R.apart, R.kc, fun y sl1 hy hg => ?_, fun y z sl1 sl2 hy hz oy oz => ?_⟩
  · by_cases q : b = a
    · subst q
      cases sl' with
      | val d => cases ho'
      | own l => obtain ⟨a', e, _, _, _, _, xs, ⟨o, es, ep, ho2, _⟩, _⟩ := hv; cases e; exact ⟨o, ho2⟩
      | buf l => obtain ⟨a', e, _, _, _, h2, _⟩ := hv; cases e; exact ⟨_, h2⟩
    · obtain ⟨o, ho2⟩ := R.here b hb; exact ⟨o, hs.extBut b o q ho2⟩
  · obtain ⟨m, hm, hval⟩ := R.ns
    obtain ⟨m', hm', e'⟩ := oa
    rw [← ns_same hm hm'] at e'
    refine ⟨m, hm.sameBut hs (Ne.symm aL), fun y sl1 hy hg => ?_⟩
    rw [getS_upd] at hg
    by_cases q : y = x
    · rw [if_pos q] at hg; cases hg
      exact ⟨.ref a, by rw [q]; exact e', hv⟩
    · rw [if_neg q] at hg
      obtain ⟨u, e1, e2⟩ := hval y sl1 hy hg
      exact ⟨u, e1, up (others y sl1 q hg) e2⟩
  · obtain ⟨c1, c2, v₀, o, ho2, hd⟩ := R.cl y c hc
    exact ⟨c1, c2, v₀, o, hs.extBut c o (aC y c hc) ho2, hd⟩
  · rw [getS_upd] at hg
    by_cases q : y = x
    · subst q; rw [hk] at hy; rcases hy with hy | hy <;> cases hy
    · rw [if_neg q] at hg
      obtain ⟨c, u, e1, ⟨o, ho2, hd⟩, e3⟩ := R.cs y sl1 hy hg
      exact ⟨c, u, e1, ⟨o, hs.extBut c o (aC y c e1) ho2, hd⟩, up (others y sl1 q hg) e3⟩
  · rw [getS_upd] at hy hz
    by_cases q : y = x
    · by_cases q2 : z = x
      · rw [q, q2]
      · rw [if_neg q2] at hz; rw [others z sl2 q2 hz] at oz; cases oz
    · rw [if_neg q] at hy; rw [others y sl1 q hy] at oy; cases oy
end
end Mine
end PartN14

section PartN15
open PySem PySem.W PySem.Calls PyProof.Rows
set_option Elab.async false
namespace Mine
section
variable {prog : Program} {w : World} {A : Around} {E : Value → Shared → Prop} {s : Shared} {B : Heap} {W F : List Addr} {env : Env} {sc : Scope} {σ : Sg} {n : Nat} {L : Lv} {tab : Str → Option DefRec} {mg mb : Str → Option Value}

theorem retD_of {r : Option (Sg × Option D)} {d : D} (e : retD r = some d) : ∃ σ', r = some (σ', some d) := by
  unfold retD at e
  split at e
  · cases e; exact ⟨_, rfl⟩
  · cases e

theorem body_ok (K : Bas tab mg mb B) (ok : LvOk prog w B n L) (hr : Room n A) (R : EnvR prog w B (F ++ W) F env sc σ s.heap) (hFW : ∀ a ∈ W, a ∉ F) (ho : ∀ y sl, getS σ y = some sl → sl.isOwn = false) {body : List Stmt} {d : D} (e : bodyS L sc σ body = some d)
    (Q : Flow → Shared → Prop) (E : Value → Shared → Prop) (h : ∀ v h' tk, Ext F s.heap h' → DB prog w W h' v d → Q (.ret v) { s with heap := h', toks := tk }) : wpAny (model prog w) A (execs body env) Q E s := by
  unfold bodyS at e
  split at e
  · rename_i x rest hown
    split at e
    · rename_i hc
      obtain ⟨hk, _⟩ := hc
      obtain ⟨σ', e⟩ := retD_of e
      unfold ownOf at hown
      split at hown
      · rename_i x' p q r rest'
        split at hown
        · cases hown
          refine wpAny_execs_cons (wpAny_Assign_Name (wpAny_Dict_empty ?_) rfl)
          have hdn := size_none s.heap
          have hsy : s.heap.objs.size ≠ sysModules := Nat.ne_of_gt (K.sys R)
          have eP : Ext [] s.heap (s.heap.push { cls := .type "dict", data := .dict #[] }) := Ext.push _ _ _
          have hnew : (s.heap.push { cls := .type "dict", data := .dict #[] }).DictOfH (knd prog w) s.heap.objs.size [] := Heap.DictOfH.new s.heap
          have hd0 : ∃ o, (s.heap.push { cls := .type "dict", data := .dict #[] }).get? s.heap.objs.size = some o := ⟨_, Heap.get?_push_size _ rfl⟩
          generalize s.heap.push { cls := .type "dict", data := .dict #[] } = h₁ at *
          generalize s.heap.objs.size = a at *
          have R1 := R.more (N := [a]) (fun I hI => by rw [List.mem_singleton.mp hI]; exact hdn) eP (fun I hI => by rw [List.mem_singleton.mp hI]; exact hd0)
          have aNew : ∀ b ∈ F ++ W, b ≠ a := fun b hb q => by obtain ⟨o, ho'⟩ := R.here b hb; rw [q, hdn] at ho'; cases ho'
          have R2 : EnvR prog w B ([a] ++ (F ++ W)) (a :: F) env sc σ h₁ := R1.widen (fun b hb => List.mem_cons_of_mem _ hb) (fun b hb => by
            rcases List.mem_cons.mp hb with q | q
            · simp [q]
            · simp [q])
          refine R2.bindS (s := { s with heap := h₁ }) (sl0 := .own []) hk ⟨a, rfl, List.mem_cons_self .., fun q => aNew env.locals (R.sub _ R.LF) q.symm, fun y c hy => aNew c (R.sub _ (R.cl y c hy).1), by simpa using hsy, [], hnew, .nil⟩ ho fun h₂ tk₂ e₂ R₃ => ?_
          refine ok.xs e (W₀ := W) hr (s := { s with heap := h₂, toks := tk₂ }) R₃ (fun b hb => ⟨by simp [hb], fun q => ?_⟩) _ _ fun fl h₃ tk₃ e₃ hres => ?_
          · rcases List.mem_cons.mp q with q | q
            · exact aNew b (by simp [hb]) q
            · exact hFW b hb q
          · obtain ⟨v, rfl, hv⟩ := hres
            refine h v h₃ tk₃ (fun b o nb q => ?_) hv
            have ba : b ≠ a := fun z => by rw [z, hdn] at q; cases q
            refine e₃ b o (fun z => ?_) (e₂ b o (fun z => ?_) (eP b o (by simp) q))
            · rcases List.mem_cons.mp z with z | z
              · exact ba z
              · exact nb z
            · rw [List.mem_singleton.mp z] at nb; exact nb R.LF
        · cases hown
      · cases hown
    · cases e
  · obtain ⟨σ', e⟩ := retD_of e
    refine ok.xs e (W₀ := W) hr R (fun b hb => ⟨by simp [hb], hFW b hb⟩) _ _ fun fl h' tk e' hres => ?_
    obtain ⟨v, rfl, hv⟩ := hres
    exact h v h' tk e' hv

theorem enter_parts {d : DefRec} {k : Nat} (he : enterOk d k = true) : d.params.posonlyargs = [] ∧ d.params.vararg = none ∧ d.params.kwonlyargs = [] ∧ d.params.kwarg = none ∧ d.params.args.length = k ∧ (k = 1 ∨ k = 2) ∧ d.scope.kind = .function ∧ d.scope.isGenerator = false ∧ d.scope.isCoroutine = false ∧
    (∀ a ∈ d.params.args, parOk d.scope a.arg = true) ∧ (d.params.args.map (·.arg)).Nodup := by
  simp only [enterOk, simpleArgs, Bool.and_eq_true, decide_eq_true_eq, List.isEmpty_iff, Option.isNone_iff_eq_none, Bool.not_eq_true', List.all_eq_true] at he
  obtain ⟨⟨⟨⟨⟨⟨⟨⟨⟨⟨⟨a1, a2⟩, a3⟩, a4⟩, a5⟩, e2⟩, e3⟩, e4⟩, e5⟩, e6⟩, e7⟩, e8⟩ := he
  exact ⟨a1, a2, a3, a4, e2, e3, e4, e5, e6, e7, e8⟩

theorem two_of {α : Type} : ∀ {l : List α}, l.length = 2 → ∃ a b, l = [a, b]
  | [a, b], _ => ⟨a, b, rfl⟩
  | [], h => by cases h
  | [_], h => by cases h
  | _ :: _ :: _ :: _, h => by simp at h
theorem binds_ok {d : DefRec} {pm code doc : Value} {vs : List Value} (he : enterOk d vs.length = true) : bindArgs (docDef d.name d.params d.body d.scope pm code doc) ⟨vs, []⟩ = pure ((d.params.args.map (·.arg)).zip vs) := by
  obtain ⟨a1, a2, a3, a4, e2, e3, _, _, _, _, e8⟩ := enter_parts he
  rcases e3 with e3 | e3
  · obtain ⟨v, rfl⟩ := List.length_eq_one_iff.mp e3
    obtain ⟨a, ha⟩ := List.length_eq_one_iff.mp (e2.trans e3)
    rw [bind1 rfl a1 ha a2 a3 a4, ha]; rfl
  · obtain ⟨v, u, rfl⟩ := two_of e3
    obtain ⟨a, b, ha⟩ := two_of (e2.trans e3)
    rw [ha] at e8
    rw [bind2 (by simpa using e8) rfl a1 ha a2 a3 a4, ha]; rfl

/-- the rule of a call, its body left open -/
theorem call_open (K : Bas tab mg mb B) (hroom : A.depth < recursionLimit) (rd : Ready B W s.heap) {f : Str} {d : DefRec} {a : Addr} (ht : tab f = some d) (ha : mg f = some (.ref a)) {vs : List Value} {ds : List D} (he : enterOk d ds.length = true) (hp : Paired (DB prog w W s.heap) vs ds) {P : Result → Shared → Prop}
    (h : ∀ env h₁ tk₁, EnvR prog w B (footOf env ++ W) (footOf env) env d.scope (zipS (d.params.args.map (·.arg)) ds) h₁ → (∀ b o, s.heap.get? b = some o → h₁.get? b = some o) → (∀ b ∈ footOf env, s.heap.get? b = none) →
      wpAny (model prog w) (A.deeper env) (execs d.body env) (fun f s' => P (.ok (.ret (match f with | .ret v => v | _ => .none))) s')
        (fun e s' => wpAny (model prog w) (A.deeper env) (leaving env e) (fun _ s'' => P (.error e) s'') (fun e' s'' => P (.error e') s'') s') { s with heap := h₁, toks := tk₁ }) :
    codeAny (model prog w) A (.call (.ref a) ⟨vs, []⟩) P s := by
  obtain ⟨_, a', o, pm, code, doc, h1, h2, h3, h4⟩ := K.fn f d ht
  rw [ha] at h1; cases h1
  have hl := hp.length
  obtain ⟨a1, a2, a3, a4, e2, e3, k1, k2, k3, e7, e8⟩ := enter_parts he
  refine codeAny_call_cells (fd := docDef d.name d.params d.body d.scope pm code doc) (body := d.body) (binds := (d.params.args.map (·.arg)).zip vs) hroom (rd.keep _ _ h2) h3 (K.nolimit.keeps rd.keep) (h4.keeps rd.keep) rfl (binds_ok (by rw [hl]; exact he)) rfl ?_ ?_ k3 k2 k1
  · intro y hy
    have hm : y.1 ∈ d.params.args.map (·.arg) := (List.of_mem_zip hy).1
    obtain ⟨q, hq, hq2⟩ := List.mem_map.mp hm
    have := e7 q hq
    rw [hq2] at this
    unfold parOk at this
    split at this
    · left; assumption
    · rename_i hk
      right
      refine ⟨hk, ?_⟩
      obtain ⟨c, hc⟩ := cellsFrom_has d.scope.names (s.heap.objs.size + 1) [] y.1 (.inr (mem_of_lookup hk))
      obtain ⟨c', hc'⟩ := lookup_of_mem hc
      show ((cellsFrom (s.heap.objs.size + 1) d.scope.names []).lookup y.1).isSome = true
      rw [hc']; rfl
    · cases this
  · intro s₁ x
    have keep := x.toInCall.keep
    have R := enter_env he rd hp (env := callEnvC (docDef d.name d.params d.body d.scope pm code doc) s.heap.objs.size a) rfl rfl rfl rfl x
    have fr := foot_fresh x
    obtain ⟨h₁, tk₁, rfl⟩ := x.toInCall.same
    exact h _ h₁ tk₁ R keep fr

theorem callD_ok (K : Bas tab mg mb B) (ok : LvOk prog w B n L) (hr : Room (n + 1) A) (rd : Ready B W s.heap) {f : Str} {ds : List D} {d : D} {a : Addr} {vs : List Value} (e : callD L tab f ds = some d) (ha : mg f = some (.ref a)) (hp : Paired (DB prog w W s.heap) vs ds) :
    Gv prog w A W s (call (.ref a) vs) d := by
  intro Q E hQ
  unfold callD at e
  split at e
  · rename_i dr ht
    split at e
    · rename_i he
      refine wpAny_call (call_open K (by have := hr.dep; omega) rd ht ha he hp fun env h₁ tk₁ R keep fr => ?_)
      refine body_ok K ok hr.deep (s := { s with heap := h₁, toks := tk₁ }) R (fun b hb q => ?_) (fun y sl hy => ?_) e _ _ fun v h' tk e' hv => ?_
      · obtain ⟨o, ho⟩ := rd.here b hb
        rw [fr b q] at ho; cases ho
      · obtain ⟨_, _, rfl, _, _⟩ := getS_zipS _ hp hy
        rfl
      · exact hQ v h' tk (fun b o _ q => e' b o (fun z => by rw [fr b z] at q; cases q) (keep b o q)) hv
    · cases e
  · cases e
end
end Mine
end PartN15

section PartBA1
open PySem PySem.W PySem.Calls PyProof.Rows
set_option Elab.async false
set_option maxRecDepth 100000
namespace Mine
theorem slot_ba_set : PySem.Slot "bytearray" "__setitem__" "bytearray.__setitem__" :=
  .of (owner := "bytearray") (n := "__setitem__") (by rw [typeLookup_type, builtinLookup_eq_fast]; kernel_rfl) (by decide +kernel) (by decide +kernel) (by decide +kernel)
    (by first | exact .inl (by decide +kernel) | exact .inr (by decide +kernel)) (by rw [isSubtype_type]; kernel_rfl)
theorem entry_ba_set : entryFor table "bytearray.__setitem__" = some Builtin.«bytearray.__setitem__» := entryFor_of_tree (by kernel_rfl)
theorem owner_ba : Manifest.owners.lookup (String.ofList ['y', 'a', 'r', 'r', 'a', 'e', 't', 'y', 'b'].reverse) = some Manifest.sig_bytearray := by kernel_rfl
theorem args_ba_set (a b c : Value) : argsOk "bytearray.__setitem__" ⟨[a, b, c], []⟩ := by
  unfold argsOk; rw [signature?_of (id := "bytearray.__setitem__") (n := ['_', '_', 'm', 'e', 't', 'i', 't', 'e', 's', '_', '_']) (o := ['y', 'a', 'r', 'r', 'a', 'e', 't', 'y', 'b']) (by kernel_rfl) owner_ba]; kernel_rfl

section
variable {prog : Program} {w : World} {A : Around} {E : Value → Shared → Prop} {s : Shared}
theorem ba_payload {a : Addr} {b : List Nat} {Q : Array UInt8 → Shared → Prop} (ha : s.heap.get? a = some (bufObj b)) (h : Q (b.map UInt8.ofNat).toArray s) : wpAny (model prog w) A (Builtin.Bytes.payload (.ref a)) Q E s := by
  unfold Builtin.Bytes.payload Builtin.Bytes.payload?
  exact wpAny_bind (wpAny_bind (wpAny_load ha (wpAny_pure (wpAny_pure h))))
theorem ba_write {a : Addr} {b c : List Nat} {f : Array UInt8 → Array UInt8} {Q : Unit → Shared → Prop} (ha : s.heap.get? a = some (bufObj b)) (hf : f (b.map UInt8.ofNat).toArray = (c.map UInt8.ofNat).toArray) (hc : c.length ≤ 1000)
    (h : ∀ h', Heap.SameBut a s.heap h' → h'.get? a = some (bufObj c) → Q () { s with heap := h' }) : wpAny (model prog w) A (Builtin.Bytes.write (.ref a) f) Q E s := by
  show wpAny _ _ (updateBytearray a f) _ _ _
  unfold updateBytearray
  refine wpAny_bind (wpAny_load ha ?_)
  have e1 : Obj.mapBytearray f (bufObj b) = bufObj c := by
    unfold bufObj Obj.mapBytearray
    simp only
    rw [hf]
  have hg : (s.heap.update a (Obj.mapBytearray f)).get? a = some (bufObj c) := by
    rw [Heap.get?_update_self _ ha (by rw [e1]; rfl), e1]
  show wpAny _ _ (update a (Obj.mapBytearray f) >>= fun _ => lookBehind a) _ _ _
  refine wpAny_bind (wpAny_update ha ?_)
  refine wpAny_lookBehind (o := bufObj c) hg ?_ (h _ (Heap.SameBut.update ..) hg)
  show (if (c.map UInt8.ofNat).toArray.size > sizeLine then some "bytearray:memory" else none) = none
  rw [if_neg]
  rw [List.size_toArray, List.length_map, line_is]; omega

theorem ba_set {a : Addr} {b : List Nat} {i n : Int} {t u : Tok} {Q : Unit → Shared → Prop} (ha : s.heap.get? a = some (bufObj b)) (h0 : 0 ≤ i) (h1 : i < b.length) (hb : b.length ≤ 1000) (hn : inByte n = true)
    (h : ∀ h', Heap.SameBut a s.heap h' → h'.get? a = some (bufObj (b.set i.toNat n.toNat)) → Q () { s with heap := h' }) : wpAny (model prog w) A (setItem (.ref a) (.int i t) (.int n u)) Q E s := by
  have hn := of_decide_eq_true hn
  have hT : s.TypeIs (.ref a) "bytearray" := ⟨_, ha, rfl⟩
  unfold setItem
  try with_reducible refine wpAny_holding ?_
  refine wpAny_bind (wpAny_sequenceKey hT (by decide) ?_)
  refine wpAny_bind (wpAny_callSpecial?_slot (name := Str.ofString "__setitem__") hT slot_ba_set (wpAny_call_entry slot_ba_set hT entry_ba_set ?_ (args_ba_set _ _ _)))
  show wpAny _ _ (Builtin.Bytes.subscript? (.int i t) >>= fun r => _) _ _ s
  refine wpAny_bind ?_
  unfold Builtin.Bytes.subscript?
  refine wpAny_bind (wpAny_specialOf (typeIs_int s i t) PySem.F.slot_int_index.lookup ?_)
  show wpAny _ _ (if (!Builtin.Bytes.fitsIndex i) = true then _ else pure (some i)) _ _ s
  have hfit : Builtin.Bytes.fitsIndex i = true := by
    simp only [Builtin.Bytes.fitsIndex, Bool.and_eq_true, decide_eq_true_eq]; omega
  rw [hfit]
  refine wpAny_pure ?_
  show wpAny _ _ (Builtin.Bytes.byteValue (.int n u) >>= fun x => _) _ _ s
  refine wpAny_bind ?_
  unfold Builtin.Bytes.byteValue
  show wpAny _ _ (if (n < 0 || n ≥ 256) = true then _ else pure n.toNat.toUInt8) _ _ s
  rw [if_neg (by simp; omega)]
  refine wpAny_pure ?_
  refine wpAny_bind (ba_payload ha ?_)
  have hs : seqIndex? i (b.map UInt8.ofNat).toArray.size = some i.toNat := by
    have hz : (b.map UInt8.ofNat).toArray.size = b.length := by simp
    have hneg : ¬ i < 0 := by omega
    rw [hz]
    simp [seqIndex?, hneg, h0, h1]
  rw [hs]
  refine wpAny_bind (ba_write (c := b.set i.toNat n.toNat) ha ?_ (by simpa using hb) fun h' hs' hg' => ?_)
  · show ((b.map UInt8.ofNat).toArray).setIfInBounds i.toNat n.toNat.toUInt8 = _
    rw [List.setIfInBounds_toArray, List.map_set]
  · exact wpAny_pure ⟨_, rfl, wpAny_pure (h h' hs' hg')⟩
end
end Mine
end PartBA1

section PartBA2
open PySem PySem.W PySem.Calls PyProof.Rows
set_option Elab.async false
set_option maxRecDepth 100000
namespace Mine
theorem ba_no_bytes : typeLookup (.type "bytearray") "__bytes__" = pure none := by rw [typeLookup_type, builtinLookup_eq_fast]; kernel_rfl
theorem ba_no_index : typeLookup (.type "bytearray") "__index__" = pure none := by rw [typeLookup_type, builtinLookup_eq_fast]; kernel_rfl
theorem ba_buffer : typeLookup (.type "bytearray") "__buffer__" = pure (some (.builtin "bytearray.__buffer__")) := by rw [typeLookup_type, builtinLookup_eq_fast]; kernel_rfl
theorem ba_release : typeLookup (.type "bytearray") "__release_buffer__" = pure (some (.builtin "bytearray.__release_buffer__")) := by rw [typeLookup_type, builtinLookup_eq_fast]; kernel_rfl
theorem ba_ends1 : ("bytearray.__buffer__" : String).endsWith ("." ++ "__buffer__") = true := by decide +kernel
theorem ba_ends2 : ("bytearray.__release_buffer__" : String).endsWith ("." ++ "__release_buffer__") = true := by decide +kernel
theorem ba_drop1 : (("bytearray.__buffer__" : String).dropRight (("__buffer__" : String).length + 1)) = "bytearray" := by decide +kernel
theorem ba_drop2 : (("bytearray.__release_buffer__" : String).dropRight (("__release_buffer__" : String).length + 1)) = "bytearray" := by decide +kernel

section
variable {prog : Program} {w : World} {A : Around} {E : Value → Shared → Prop} {s : Shared}
theorem ba_own1 {a : Addr} {b : List Nat} {Q : Bool → Shared → Prop} (ha : s.heap.get? a = some (bufObj b)) (h : Q true s) : wpAny (model prog w) A (Builtin.Bytes.slotIsOwn (.ref a) "__buffer__") Q E s := by
  have hT : s.TypeIs (.ref a) "bytearray" := ⟨_, ha, rfl⟩
  unfold Builtin.Bytes.slotIsOwn
  refine wpAny_bind (wpAny_specialOf hT ba_buffer ?_)
  dsimp only
  rw [ba_ends1, ba_drop1]
  exact wpAny_isInstance (T := "bytearray") (b := true) hT PySem.F.sub_bytearray_bytearray h
theorem ba_own2 {a : Addr} {b : List Nat} {Q : Bool → Shared → Prop} (ha : s.heap.get? a = some (bufObj b)) (h : Q true s) : wpAny (model prog w) A (Builtin.Bytes.slotIsOwn (.ref a) "__release_buffer__") Q E s := by
  have hT : s.TypeIs (.ref a) "bytearray" := ⟨_, ha, rfl⟩
  unfold Builtin.Bytes.slotIsOwn
  refine wpAny_bind (wpAny_specialOf hT ba_release ?_)
  dsimp only
  rw [ba_ends2, ba_drop2]
  exact wpAny_isInstance (T := "bytearray") (b := true) hT PySem.F.sub_bytearray_bytearray h
theorem ba_ownRelease {a : Addr} {b : List Nat} {Q : Bool → Shared → Prop} (ha : s.heap.get? a = some (bufObj b)) (h : Q false s) : wpAny (model prog w) A (Builtin.Bytes.ownRelease (.ref a)) Q E s := by
  unfold Builtin.Bytes.ownRelease
  exact wpAny_bind (ba_own2 ha (wpAny_pure h))

theorem ba_new {a : Addr} {b : List Nat} {Q : Value → Shared → Prop} (ha : s.heap.get? a = some (bufObj b)) (hb : b.length ≤ 1000)
    (h : ∀ t k, Q (.bytes (b.map UInt8.ofNat).toArray t) { s with toks := k }) : codeAny (model prog w) A (.call (.builtin "bytes.__new__") ⟨[.type "bytes", .ref a], []⟩) (wants Q E) s := by
  refine codeAny_of_tree ?_
  show wpAny _ A.in1 (do checkBuiltinCall "bytes.__new__" ⟨[.type "bytes", .ref a], []⟩; again (.builtin "bytes.__new__" ⟨[.type "bytes", .ref a], []⟩)) _ _ s
  refine wpAny_bind (wpAny_of_eq (PySem.F.bm_newCall _) (wpAny_pure ⟨plainId_quiet PySem.F.bm_plain _, codeAny_builtin PySem.F.bm_entry ?_⟩))
  rw [Around.under_plainId PySem.F.bm_plain _]
  have hT : s.TypeIs (.ref a) "bytearray" := ⟨_, ha, rfl⟩
  unfold Builtin.«bytes.__new__»
  refine wpAny_bind (wpAny_of_eq (a := true) rfl ?_)
  refine bm_if_false rfl ?_
  refine wpAny_bind (wpAny_of_eq PySem.F.bm_sub ?_)
  refine bm_if_false rfl ?_
  refine wpAny_bind (wpAny_of_eq (PySem.F.bm_bind _) ?_)
  refine wpAny_bind (wpAny_of_eq (a := ()) rfl ?_)
  refine wpAny_bind (wpAny_of_eq (a := ()) rfl ?_)
  refine bm_if_false rfl ?_
  refine wpAny_bind (wpAny_specialOf hT ba_no_bytes ?_)
  refine wpAny_bind (wpAny_bind ?_)
  show wpAny _ _ (load a >>= _) _ _ _
  refine wpAny_bind (wpAny_load ha ?_)
  refine wpAny_pure (wpAny_pure ?_)
  refine bm_if_false rfl ?_
  refine wpAny_bind (wpAny_specialOf hT ba_no_index ?_)
  refine bm_if_true rfl ?_
  first
    | show wpAny _ _ (Builtin.Bytes.buffer? "bytes.__new__" (.ref a) true >>= _) _ _ _
    | (refine wpAny_bind ?_; show wpAny _ _ (Builtin.Bytes.buffer? "bytes.__new__" (.ref a) true >>= _) _ _ _)
  refine wpAny_bind ?_
  unfold Builtin.Bytes.buffer?
  refine wpAny_bind (wpAny_specialOf hT ba_buffer ?_)
  refine wpAny_bind (ba_own1 ha ?_)
  refine bm_if_false rfl ?_
  refine wpAny_bind (wpAny_specialOf hT ba_buffer ?_)
  refine wpAny_bind (ba_ownRelease ha ?_)
  refine bm_if_false rfl ?_
  refine wpAny_bind (ba_payload ha (wpAny_pure ?_))
  dsimp only
  refine wpAny_bind (wpAny_rule (wpAny_bind (wpAny_mkBytes ?_ (by rw [List.size_toArray, List.length_map, line_is]; omega))))
  show wpAny _ _ (if (Value.type "bytes" == Value.type "bytes") = true then _ else _) _ _ _
  refine bm_if_true (by decide) ?_
  first
    | exact wpAny_pure (h _ _)
    | exact wpAny_bind (wpAny_pure (wpAny_pure (h _ _)))
theorem ba_bytes {a : Addr} {b : List Nat} {Q : Value → Shared → Prop} (ha : s.heap.get? a = some (bufObj b)) (hb : b.length ≤ 1000)
    (h : ∀ t k, Q (.bytes (b.map UInt8.ofNat).toArray t) { s with toks := k }) : wpAny (model prog w) A (call (.type "bytes") [.ref a]) Q E s := by
  refine callType_codes (Q₁ := fun obj s₁ => s₁.TypeIs obj "bytes" ∧ Q obj s₁) PySem.F.bm_called (PySem.F.bm_typeCall _) PySem.F.entry_object_init
    (ba_new ha hb fun t k => ⟨PySem.W.typeIs_bytes _ _ _, h t k⟩) fun obj s₁ h₁ => ?_
  exact ⟨h₁.1, PySem.F.args_object_init_2 obj _, object_init_meets PySem.F.bm_called.init.lookup PySem.F.bm_called.made (by decide) prog w A.in1 _ s₁ ⟨h₁.1, rfl, h₁.2⟩⟩
end
end Mine
end PartBA2

section PartN16
open PySem PySem.W PySem.Calls PyProof.Rows
set_option Elab.async false
namespace Mine
section
variable {prog : Program} {w : World} {A : Around} {E : Value → Shared → Prop} {s : Shared} {B : Heap} {W F : List Addr} {env : Env} {sc : Scope} {σ : Sg} {n : Nat} {L : Lv} {tab : Str → Option DefRec} {mg mb : Str → Option Value}

theorem name_ok (R : EnvR prog w B W F env sc σ s.heap) {x : Str} {p : Pos} {d : D} (hd : x ≠ Str.ofString "__debug__") (hx : held sc σ x = some (.val d)) : Gv prog w A W s (eval (.Name x p) env) d := by
  intro Q E h
  obtain ⟨v, hv, hl⟩ := R.name (A := A) (p := p) hx hd
  exact hl _ _ (h v s.heap s.toks (Ext.refl _ _) hv)

theorem ucall_ok (K : Bas tab mg mb B) (ok : LvOk prog w B n L) (hr : Room (n + 1) A) (R : EnvR prog w B W F env sc σ s.heap) {f : Str} {fp p : Pos} {args : List Expr} {ds : List D} {d : D} (hg : isGlob sc f = true) (he : evList (L.ev sc σ) args = some ds) (e : callD L tab f ds = some d) :
    Gv prog w A W s (eval (.Call (.Name f fp) args [] p) env) d := by
  intro Q E h
  obtain ⟨dr, ht⟩ : ∃ dr, tab f = some dr := by
    unfold callD at e
    split at e
    · exact ⟨_, by assumption⟩
    · cases e
  have hen : enterOk dr ds.length = true := by
    unfold callD at e
    rw [ht] at e
    dsimp only at e
    split at e
    · assumption
    · cases e
  obtain ⟨hdbg, a, o, pm, code, doc, h1, h2, h3, h4⟩ := K.fn f dr ht
  have hne : ∃ x r, args = x :: r := by
    cases args with
    | nil => cases he; obtain ⟨_, _, _, _, _, q, _⟩ := enter_parts hen; rcases q with q | q <;> cases q
    | cons x r => exact ⟨x, r, rfl⟩
  obtain ⟨x, r, rfl⟩ := hne
  have hx : starless x = true := by
    unfold evList at he
    split at he
    · assumption
    · cases he
  have hk : env.kindOf f = some .globalImplicit := by show env.scope.names.lookup f = _; rw [R.is]; exact eq_of_beq hg
  refine Call_ (Name_function_global (by rw [R.is, R.fn]) hk (loadGlobal_global (mg := mg) (by rw [R.gl]; exact K.g.keeps R.keep) h1 ?_) (beq_eq_false_iff_ne.mpr hdbg))
  refine callWith_function (o := o) (fd := docDef dr.name dr.params dr.body dr.scope pm code doc) (evalArgs_of hx ?_)
  refine evList_ok ok.ev hr.less he R _ _ fun vs h₁ tk₁ e₁ p₁ => ?_
  refine ⟨⟨e₁ a o (by simp) (R.keep a o h2), h3⟩, ?_⟩
  refine callD_ok K ok hr (s := { s with heap := h₁, toks := tk₁ }) (R.up e₁).ready e h1 p₁ _ _ fun u h₂ tk₂ e₂ b₂ => ?_
  exact h _ _ _ (e₁.trans e₂) b₂

theorem evS_ok (K : Bas tab mg mb B) (ok : LvOk prog w B n L) : EvOk prog w B (n + 1) (evS L tab) := by
  intro sc σ e d he A W F env s hr R
  have hr' := hr.less
  unfold evS at he
  split at he
  · exact const_ok he
  · split at he
    · cases he
    · rename_i hd
      split at he
      · rename_i hx
        cases he
        exact name_ok R hd hx
      · cases he
  · split at he
    · rename_i a ha
      split at he
      · rename_i b hb
        exact binop_ok ok hr' R ha hb he
      · cases he
    · cases he
  · split at he
    · rename_i hm
      split at he
      · rename_i a ha
        split at he
        · rename_i b hb
          obtain ⟨c, hc, rfl⟩ := Option.map_eq_some_iff.mp he
          exact compare_ok ok hr' R hm ha hb hc
        · cases he
      · cases he
    · cases he
  · split at he
    · rename_i ds hds
      exact tuple_ok ok hr' R hds he
    · cases he
  · split at he
    · rename_i ds hds
      split at he
      · rename_i hl
        obtain ⟨is, his, rfl⟩ := Option.map_eq_some_iff.mp he
        exact list_ok ok hr' R hds hl his
      · cases he
    · cases he
  · unfold subS at he
    split at he
    · split at he
      · rename_i k hk
        split at he
        · rename_i h4
          cases he
          exact upto_ok ok hr' R hk h4
        · cases he
      · cases he
    · split at he
      · rename_i l hl
        split at he
        · rename_i hz
          cases he
          exact back_ok ok hr' R hl hz
        · cases he
      · cases he
    · split at he
      · rename_i hi
        split at he
        · rename_i a ha
          split at he
          · rename_i b hb
            exact index_ok ok hr' R hi ha hb he
          · cases he
        · cases he
      · cases he
  · split at he
    · rename_i ht
      exact ifexp_ok ok hr' R ht (by simpa using he)
    · rename_i ht
      exact ifexp_ok ok hr' R ht (by simpa using he)
    · cases he
  · split at he
    · rename_i hg
      split at he
      · rename_i hf
        subst hf
        split at he
        · split at he
          · rename_i hc
            obtain ⟨rfl, hg2, hs⟩ := hc
            split at he
            · rename_i m hm
              cases he
              exact isi_ok K ok hr' R hg hg2 hs hm
            · cases he
          · cases he
        · cases he
      · split at he
        · split at he
          · rename_i ds hds
            exact prim_ok K ok hr' R hg hds he
          · cases he
        · split at he
          · rename_i ds hds
            exact ucall_ok K ok hr R hg hds he
          · cases he
    · cases he
  · exact comp_ok K ok hr' R he
  · unfold dictS at he
    split at he
    · cases he
      exact dict0_ok K R
    · split at he
      · rename_i a ha
        split at he
        · rename_i m hm
          cases he
          exact dict1_ok K ok hr' R ha hm
        · cases he
      · cases he
    · cases he
  · cases he

theorem allS_ok (ok : LvOk prog w B n L) (hr : Room n A) {op : BoolOp} : ∀ {vs : List Expr} {b : Bool} {s : Shared}, allS L sc σ op vs = some b → EnvR prog w B W F env sc σ s.heap → ∀ (Q : Bool → Shared → Prop) (E : Value → Shared → Prop),
    (∀ h' tk, Ext [] s.heap h' → Q b { s with heap := h', toks := tk }) → wpAny (model prog w) A (allTrue op vs env) Q E s
  | [], b, s, e, R, Q, E, h => by
    cases e
    rw [arm_allTrue_nil]
    exact wpAny_pure (h s.heap s.toks (Ext.refl _ _))
  | x :: r, b, s, e, R, Q, E, h => by
    rw [arm_allTrue_cons]
    unfold allS at e
    split at e
    · rename_i ht
      cases e
      exact wpAny_bind (ok.tr ht hr R _ _ fun h₁ tk₁ e₁ => wpAny_pure (h _ _ e₁))
    · rename_i ht
      cases e
      exact wpAny_bind (ok.tr ht hr R _ _ fun h₁ tk₁ e₁ => wpAny_pure (h _ _ e₁))
    · rename_i op1 op2 x1 c hc1 hc2 ht
      refine wpAny_bind (ok.tr ht hr R _ _ fun h₁ tk₁ e₁ => ?_)
      have ih := allS_ok ok hr (s := { s with heap := h₁, toks := tk₁ }) e (R.up e₁) Q E fun h₂ tk₂ e₂ => h _ _ (e₁.trans e₂)
      cases op1 <;> cases c <;> first | exact ih | exact (hc1 rfl rfl).elim | exact (hc2 rfl rfl).elim
    · cases e

theorem inName_is {op : CmpOp} {r : Expr} {x : Str} (h : inName op r = some x) : op = .In ∧ ∃ xp, r = .Name x xp := by
  cases op
  case In =>
    cases r
    case Name y xp => have h : some y = some x := h; cases h; exact ⟨rfl, xp, rfl⟩
    all_goals (have h : none = some _ := h; cases h)
  all_goals (have h : none = some _ := h; cases h)

theorem trS_ok (ok : LvOk prog w B n L) : TrOk prog w B (n + 1) (trS L) := by
  intro sc σ e b he A W F env s hr R Q E h
  have hr' := hr.less
  unfold trS at he
  split at he
  · rename_i l op r p
    split at he
    · rename_i x hin
      obtain ⟨rfl, xp, rfl⟩ := inName_is hin
      split at he
      · cases he
      · rename_i hd
        split at he
        · rename_i k hk
          split at he
          · rename_i m hx
            cases he
            unfold heldOwn at hx
            split at hx
            · rename_i hloc
              refine wpAny_isTrue_Compare1 ?_ rfl
              refine ok.ev hk hr' R _ _ fun v h₁ tk₁ e₁ b₁ => ?_
              have R₁ := R.up e₁
              obtain ⟨a, oa, a', e', a1, a2, a3, lo, xs, hD, hp⟩ := R₁.own hloc hx rfl
              cases e'
              refine R₁.ownLoad (s := { s with heap := h₁, toks := tk₁ }) hloc oa hd ?_
              obtain ⟨ka, rfl, kn, kt⟩ := b₁
              refine wpAny_in_heap (knd := knd prog w) (s := { s with heap := h₁, toks := tk₁ }) (k := k) (xs := xs) (by show A.units + 1 < cLine; have := hr.un; omega) kt lo hD ?_
              have ei : (atKey xs k).isSome = (lookD m k).isSome := by
                rcases look_pair k hp with ⟨q1, q2⟩ | ⟨_, _, _, q1, _, q2⟩ <;> rw [q1, q2] <;> rfl
              rw [ei]
              exact wpAny_truthy_bool (h _ _ e₁)
            · cases hx
          · cases he
        · cases he
    · split at he
      · rename_i hm
        split at he
        · rename_i a ha
          split at he
          · rename_i c hc
            exact isTrue_compare_ok ok hr' R hm ha hc he Q E h
          · cases he
        · cases he
      · cases he
  · exact wpAny_isTrue_BoolOp (allS_ok ok hr' he R Q E h)
  · rename_i f args kw p
    split at he
    · rename_i c hc
      cases he
      show wpAny _ _ (do let v ← eval (.Call f args kw p) env; standAt (Expr.Call f args kw p).pos; holding [v] (truthy v)) _ _ _
      refine wpAny_bind (ok.ev hc hr' R _ _ fun v h₁ tk₁ e₁ b₁ => ?_)
      have b₁ : v = .bool b := b₁
      subst b₁
      exact wpAny_bind (wpAny_standAt (wpAny_holding (wpAny_truthy_bool (h _ _ e₁))))
    · cases he
  · cases he
end
end Mine
end PartN16

section PartN17
open PySem PySem.W PySem.Calls PyProof.Rows
set_option Elab.async false
namespace Mine
section
variable {prog : Program} {w : World} {A : Around} {E : Value → Shared → Prop} {s : Shared} {B : Heap} {W F : List Addr} {env : Env} {sc : Scope} {σ : Sg} {n : Nat} {L : Lv} {tab : Str → Option DefRec} {mg mb : Str → Option Value}

theorem swaps_plain {e : Expr} (h : plainE e = true) (t : Option Expr) (line : Nat) (env : Env) : swapsWith e t line env = pure false := by
  cases e <;> first | rfl | cases h

theorem pos_name (x : Str) (p : Pos) : (Expr.Name x p).pos = p := rfl
theorem swapped_ok {a b : Str} {pa pb tp vp : Pos} {k k2 : Nat} {e f : Expr} (R : EnvR prog w B W F env sc σ s.heap) (hab : a ≠ b) (ha : kindIs sc a = some .local) (hb : kindIs sc b = some .local) (he : starless e = true) (hf : starless f = true) (hl : (pa.line == pb.line) = true)
    (h1 : ([e, f].all (foldedForSure 8)) = false) (h2 : ([e, f].all (constantsAlone 8)) = false) : swappedStores [.Tuple [.Name a pa, .Name b pb] k tp] (.Tuple [e, f] k2 vp) env = pure (some [a, b]) := by
  have kb : env.blockKind = .function := by unfold Env.blockKind; rw [R.is, R.fn]; rfl
  have ka' : env.kindOf a = some .local := by show env.scope.names.lookup a = _; rw [R.is]; exact ha
  have kb' : env.kindOf b = some .local := by show env.scope.names.lookup b = _; rw [R.is]; exact hb
  have hl' : pb.line = pa.line := (eq_of_beq hl).symm
  have hba : (b == a) = false := beq_eq_false_iff_ne.mpr (Ne.symm hab)
  unfold swappedStores
  simp only [kb, h1, h2]
  simp [List.filterMap_cons, ka', kb', hl', pos_name, List.eraseDups, List.eraseDupsBy, List.eraseDupsBy.loop, hba]
  clear h1 h2
  intro q
  exfalso
  rcases q with q | q
  · revert q
    cases e <;> first | (intro q; cases q; done) | cases he
  · revert q
    cases f <;> first | (intro q; cases q; done) | cases hf
end
end Mine
end PartN17

section PartN18
open PySem PySem.W PySem.Calls PyProof.Rows
set_option Elab.async false
namespace Mine
section
variable {prog : Program} {w : World} {A : Around} {E : Value → Shared → Prop} {s : Shared} {B : Heap} {W F : List Addr} {env : Env} {sc : Scope} {σ : Sg} {n : Nat} {L : Lv} {tab : Str → Option DefRec} {mg mb : Str → Option Value}

/-- one statement -/
noncomputable def StOk (prog : Program) (w : World) (B : Heap) (n : Nat) (f : Scope → Sg → Stmt → Option (Sg × Option D)) : Prop :=
  ∀ {sc σ st σ' r}, f sc σ st = some (σ', r) → ∀ {A W F W₀ env} {s : Shared}, Room n A → EnvR prog w B W F env sc σ s.heap → (∀ a ∈ W₀, a ∈ W ∧ a ∉ F) → ∀ (Q : Flow → Shared → Prop) (E : Value → Shared → Prop),
    Left prog w B W F W₀ env sc s σ' r Q → wpAny (model prog w) A (exec st env) Q E s

theorem Left.next {W₀ : List Addr} {σ' : Sg} {Q : Flow → Shared → Prop} (h : Left prog w B W F W₀ env sc s σ' none Q) {h' : Heap} {tk : Nat} (e : Ext F s.heap h') (R : EnvR prog w B W F env sc σ' h') : Q .next { s with heap := h', toks := tk } := h .next h' tk e ⟨rfl, R⟩
theorem Left.retv {W₀ : List Addr} {σ' : Sg} {d : D} {v : Value} {Q : Flow → Shared → Prop} (h : Left prog w B W F W₀ env sc s σ' (some d) Q) {h' : Heap} {tk : Nat} (e : Ext F s.heap h') (b : DB prog w W₀ h' v d) : Q (.ret v) { s with heap := h', toks := tk } := h (.ret v) h' tk e ⟨v, rfl, b⟩
theorem ext0 {h h' : Heap} (e : Ext [] h h') : Ext F h h' := e.mono fun _ q => by cases q

theorem ret_ok (ok : LvOk prog w B n L) (hr : Room n A) {W₀ : List Addr} (hW₀ : ∀ a ∈ W₀, a ∈ W ∧ a ∉ F) (R : EnvR prog w B W F env sc σ s.heap) {e : Expr} {p : Pos} {d : D} (he : L.ev sc σ e = some d) {Q : Flow → Shared → Prop} (h : Left prog w B W F W₀ env sc s σ (some d) Q) :
    wpAny (model prog w) A (exec (.Return (some e) p) env) Q E s :=
  wpAny_Return_some (ok.ev he hr R _ _ fun v h₁ tk₁ e₁ b₁ => h.retv (ext0 e₁) (b₁.less fun a ha => (hW₀ a ha).1))

theorem st_tuple (ok : LvOk prog w B n L) (hr : Room n A) (R : EnvR prog w B W F env sc σ s.heap) {a b : Str} {pa pb tp vp p : Pos} {k k2 : Nat} {e f : Expr} {d u : D} {W₀ : List Addr} {Q : Flow → Shared → Prop} (hab : a ≠ b) (ha : kindIs sc a = some .local) (hb : kindIs sc b = some .local)
    (hse : starless e = true) (hsf : starless f = true) (hl : (pa.line == pb.line) = true) (hf1 : ([e, f].all (foldedForSure 8)) = false) (hf2 : ([e, f].all (constantsAlone 8)) = false) (hd : L.ev sc σ e = some d) (hu : L.ev sc σ f = some u)
    (h : Left prog w B W F W₀ env sc s (upd (upd σ a (.val d)) b (.val u)) none Q) : wpAny (model prog w) A (exec (.Assign [.Tuple [.Name a pa, .Name b pb] k tp] (.Tuple [e, f] k2 vp) p) env) Q E s := by
  refine Assign_Tuple_swapped (names := [a, b]) ?_ rfl (swapped_ok R hab ha hb hse hsf hl hf1 hf2)
  have he2 : evList (L.ev sc σ) [e, f] = some [d, u] := by
    simp only [evList, hse, hsf, hd, hu, if_true]
  refine Tuple_ (evList_ok ok.ev hr he2 R _ _ fun vs h₁ tk₁ e₁ p₁ => ?_)
  cases p₁ with
  | cons q1 t =>
    cases t with
    | cons q2 t =>
      cases t
      rename_i v1 v2
      have R₁ := R.up e₁
      refine wpAny_newTuple ?_ (by rw [line_is]; simp)
      have eP : Ext [] h₁ (h₁.push { cls := .type "tuple", data := .seq [v1, v2].toArray }) := Ext.push _ _ _
      have hT : IsTup (h₁.push { cls := .type "tuple", data := .seq [v1, v2].toArray }) h₁.objs.size #[v1, v2] := ⟨_, Heap.get?_push_size _ rfl, rfl, _, rfl⟩
      dsimp only
      generalize h₁.push { cls := .type "tuple", data := .seq [v1, v2].toArray } = h₂ at eP hT ⊢
      have R₂ := R₁.up eP
      show wpAny _ _ (unpackItems (.ref h₁.objs.size) (#[v1, v2] : Array Value).size none) _ _ _
      generalize h₁.objs.size = T at hT ⊢
      refine unpackItems_tuple hr.hh hT fun h₃ hx => ?_
      have e₃ : Ext [] h₂ h₃ := fun y o _ q => hx y o (fun z => by subst z; rw [size_none] at q; cases q) q
      have R₃ := R₂.up e₃
      show wpAny _ _ (do holding [v1] (bindName env b v2); holding [] (bindName env a v1); pure ()) _ _ _
      have e13 := eP.trans e₃
      refine wpAny_bind (wpAny_holding (wpAny_bindName (R₃.bind (s := { s with heap := h₃, toks := tk₁ }) (d := u) (.inl hb) (q2.up (ext0 e13)) fun h₄ tk₄ e₄ _ R₄ => ?_)))
      refine wpAny_bind (wpAny_holding (wpAny_bindName (R₄.bind (s := { s with heap := h₄, toks := tk₄ }) (d := d) (.inl ha) ((q1.up (ext0 e13)).up (e₄.mono R₃.sub)) fun h₅ tk₅ e₅ _ R₅ => wpAny_pure ?_)))
      refine h.next (((ext0 (e₁.trans e13)).trans e₄).trans e₅) (R₅.forget ?_)
      intro y sl hy
      rw [getS_upd, getS_upd] at hy ⊢
      by_cases y1 : y = a
      · subst y1
        rw [if_neg hab] at hy
        rw [if_pos rfl] at hy ⊢
        exact hy
      · rw [if_neg y1] at hy ⊢
        exact hy

theorem asgS_ok (K : Bas tab mg mb B) (ok : LvOk prog w B n L) (hr : Room n A) {W₀ : List Addr} {t e : Expr} {p : Pos} {σ' : Sg} {r : Option D} (he : asgS L sc σ t e = some (σ', r)) (R : EnvR prog w B W F env sc σ s.heap) (hW₀ : ∀ a ∈ W₀, a ∈ W ∧ a ∉ F) {Q : Flow → Shared → Prop} (h : Left prog w B W F W₀ env sc s σ' r Q) :
    wpAny (model prog w) A (exec (.Assign [t] e p) env) Q E s := by
  unfold asgS at he
  split at he
  · -- x = e
    rename_i x xp
    split at he
    · rename_i hp
      split at he
      · rename_i d hd
        have hk : (kindIs sc x = some .local ∨ kindIs sc x = some .cell) ∧ σ' = upd σ x (.val d) ∧ r = none := by
          split at he
          · rename_i hk; cases he; exact ⟨.inl hk, rfl, rfl⟩
          · rename_i hk; cases he; exact ⟨.inr hk, rfl, rfl⟩
          · cases he
        obtain ⟨hk, rfl, rfl⟩ := hk
        refine wpAny_Assign_Name (ok.ev hd hr R _ _ fun v h₁ tk₁ e₁ b₁ => ?_) (swaps_plain hp _ _ _)
        exact (R.up e₁).bind (s := { s with heap := h₁, toks := tk₁ }) hk b₁ fun h₂ tk₂ e₂ _ R₂ => h.next ((ext0 e₁).trans e₂) R₂
      · cases he
    · cases he
  · -- a, b = e, f
    rename_i a pa b pb k tp
    split at he
    · rename_i e f k2 vp
      split at he
      · rename_i hc
        obtain ⟨hab, ha, hb, hse, hsf, hl, hf1, hf2⟩ := hc
        split at he
        · rename_i d hd
          split at he
          · rename_i u hu
            cases he
            exact st_tuple ok hr R hab ha hb hse hsf hl hf1 hf2 hd hu h
          · cases he
        · cases he
      · cases he
    · cases he
  · -- x[k] = e
    rename_i x xp k kp'
    split at he
    · rename_i hc
      obtain ⟨hp, hko, hdb⟩ := hc
      split at he
      · rename_i m hm
        split at he
        · rename_i l hx
          unfold heldOwn at hx
          split at hx
          case isFalse => cases hx
          rename_i hloc
          split at he
          · rename_i q hq
            split at he
            · rename_i hlen
              cases he
              refine wpAny_Assign_Subscript ?_ (swaps_plain hp _ _ _)
              refine ok.ev hm hr R _ _ fun v h₁ tk₁ e₁ b₁ => ?_
              have R₁ := R.up e₁
              obtain ⟨t, rfl⟩ := b₁
              obtain ⟨a, oa, hsl⟩ := R₁.own hloc hx rfl
              refine R₁.ownLoad (s := { s with heap := h₁, toks := tk₁ }) hloc oa hdb ?_
              refine ok.ev hq hr (s := { s with heap := h₁, toks := tk₁ }) R₁ _ _ fun kv h₂ tk₂ e₂ b₂ => ?_
              have R₂ := R₁.up e₂
              have oa₂ := oa.up e₂
              obtain ⟨a', e', a1, a2, a3, lo, xs, hD, hpr⟩ := R₂.ownIs hloc hx rfl oa₂
              cases e'
              obtain ⟨ka, rfl, kn, kt⟩ := b₂
              have hxl : xs.length ≤ sizeLine := by rw [line_is, hpr.length]; omega
              refine wpAny_setItem_heap (knd := knd prog w) (s := { s with heap := h₂, toks := tk₂ }) (k := q) (xs := xs) (by show A.units + 1 < cLine; have := hr.un; omega) kt hD (fun h₃ hD₃ hs₃ => ?_) hxl
              refine h.next (((ext0 e₁).trans (ext0 e₂)).trans (Ext.same hs₃ a1)) (R₂.put hloc hx rfl oa₂ hs₃ ⟨a, rfl, a1, a2, a3, lo, _, hD₃, put_pair hpr kn⟩ rfl)
            · cases he
          · cases he
        · rename_i b hx
          unfold heldOwn at hx
          split at hx
          case isFalse => cases hx
          rename_i hloc
          split at he
          · rename_i i hi
            split at he
            · rename_i hb
              obtain ⟨i0, i1, hb1, hin⟩ := hb
              cases he
              refine wpAny_Assign_Subscript ?_ (swaps_plain hp _ _ _)
              refine ok.ev hm hr R _ _ fun v h₁ tk₁ e₁ b₁ => ?_
              have R₁ := R.up e₁
              obtain ⟨t, rfl⟩ := b₁
              obtain ⟨a, oa, hsl⟩ := R₁.own hloc hx rfl
              refine R₁.ownLoad (s := { s with heap := h₁, toks := tk₁ }) hloc oa hdb ?_
              refine ok.ev hi hr (s := { s with heap := h₁, toks := tk₁ }) R₁ _ _ fun kv h₂ tk₂ e₂ b₂ => ?_
              have R₂ := R₁.up e₂
              have oa₂ := oa.up e₂
              obtain ⟨a', e', a1, a2, a3, hg, hall⟩ := R₂.ownIs hloc hx rfl oa₂
              cases e'
              obtain ⟨u, rfl⟩ := b₂
              refine ba_set (s := { s with heap := h₂, toks := tk₂ }) hg i0 i1 hb1 hin fun h₃ hs₃ hg₃ => ?_
              refine h.next (((ext0 e₁).trans (ext0 e₂)).trans (Ext.same hs₃ a1)) (R₂.put hloc hx rfl oa₂ hs₃ ⟨a, rfl, a1, a2, a3, hg₃, fun y hy => ?_⟩ rfl)
              rcases List.mem_or_eq_of_mem_set hy with q | q
              · exact hall y q
              · have := of_decide_eq_true hin
                rw [q]; omega
            · cases he
          · cases he
        · cases he
      · cases he
    · cases he
  · cases he

theorem augS_ok (K : Bas tab mg mb B) (ok : LvOk prog w B n L) (hr : Room n A) {W₀ : List Addr} {t e : Expr} {op : Operator} {p : Pos} {σ' : Sg} {r : Option D} (he : augS L sc σ t op e = some (σ', r)) (R : EnvR prog w B W F env sc σ s.heap) (hW₀ : ∀ a ∈ W₀, a ∈ W ∧ a ∉ F) {Q : Flow → Shared → Prop} (h : Left prog w B W F W₀ env sc s σ' r Q) :
    wpAny (model prog w) A (exec (.AugAssign t op e p) env) Q E s := by
  unfold augS at he
  split at he
  · -- x += e
    rename_i x xp
    split at he
    · rename_i a hx
      split at he
      · rename_i b hb
        split at he
        · rename_i hk
          cases he
          refine wpAny_AugAssign_Name ?_
          obtain ⟨v, hv, hl⟩ := R.load (A := A) hx
          obtain ⟨t, rfl⟩ := hv
          refine hl _ _ (ok.ev hb hr R _ _ fun v h₁ tk₁ e₁ b₁ => ?_)
          obtain ⟨u, rfl⟩ := b₁
          refine PyProof.Rows.iadd_int ?_
          exact (R.up e₁).bind (s := { s with heap := h₁, toks := tk₁ + 1 }) (d := .int (a + b)) (.inl hk) ⟨_, rfl⟩ fun h₂ tk₂ e₂ _ R₂ => h.next ((ext0 e₁).trans e₂) R₂
        · cases he
      · cases he
    · cases he
  · -- x[k] += e
    rename_i x xp k kp sp
    split at he
    · skip
      split at he
      · rename_i hdb
        split at he
        · rename_i l hx
          unfold heldOwn at hx
          split at hx
          case isFalse => cases hx
          rename_i hloc
          split at he
          · rename_i q hq
            split at he
            · cases he
            · rename_i hlen
              split at he
              · rename_i a0 ha0
                split at he
                · rename_i b hb
                  cases he
                  refine wpAny_AugAssign_Subscript ?_
                  obtain ⟨a, oa, hsl⟩ := R.own hloc hx rfl
                  refine R.ownLoad hloc oa hdb ?_
                  refine ok.ev hq hr R _ _ fun kv h₁ tk₁ e₁ b₁ => ?_
                  have R₁ := R.up e₁
                  have oa₁ := oa.up e₁
                  obtain ⟨a', e', a1, a2, a3, lo, xs, hD, hpr⟩ := R₁.ownIs hloc hx rfl oa₁
                  cases e'
                  obtain ⟨ka, rfl, kn, kt⟩ := b₁
                  have hroom : (knd prog w).room A.in1 := by show A.units + 1 < cLine; have := hr.un; omega
                  rcases look_pair q hpr with ⟨_, z⟩ | ⟨ka0, n0, t0, z1, z2, z3⟩
                  · rw [z] at ha0; cases ha0
                  rw [z3] at ha0; cases ha0
                  refine wpAny_getItem_heap (knd := knd prog w) (s := { s with heap := h₁, toks := tk₁ }) (k := q) hroom kt hD z1 ?_
                  refine ok.ev hb hr (s := { s with heap := h₁, toks := tk₁ + (knd prog w).draws q }) R₁ _ _ fun v h₂ tk₂ e₂ b₂ => ?_
                  obtain ⟨u, rfl⟩ := b₂
                  refine PyProof.Rows.iadd_int ?_
                  have R₂ := R₁.up e₂
                  have oa₂ := oa₁.up e₂
                  obtain ⟨a'', e'', a1, a2, a3, lo, ys, hD₂, hpr₂⟩ := R₂.ownIs hloc hx rfl oa₂
                  cases e''
                  have hxl : ys.length ≤ sizeLine := by rw [line_is, hpr₂.length]; omega
                  refine wpAny_setItem_heap (knd := knd prog w) (s := { s with heap := h₂, toks := tk₂ + 1 }) (k := q) (xs := ys) hroom (IsTupleKey.up kt fun o => e₂ ka o (by simp)) hD₂ (fun h₃ hD₃ hs₃ => ?_) hxl
                  refine h.next (((ext0 e₁).trans (ext0 e₂)).trans (Ext.same hs₃ a1)) (R₂.put hloc hx rfl oa₂ hs₃ ⟨a, rfl, a1, a2, a3, lo, _, hD₃, put_pair hpr₂ kn⟩ rfl)
                · cases he
              · cases he
          · cases he
        · cases he
      · cases he
    · cases he
  · cases he

theorem retS_ok (K : Bas tab mg mb B) (ok : LvOk prog w B n L) (hr : Room n A) {W₀ : List Addr} {e : Expr} {p : Pos} {σ' : Sg} {r : Option D} (he : retS L sc σ e = some (σ', r)) (R : EnvR prog w B W F env sc σ s.heap) (hW₀ : ∀ a ∈ W₀, a ∈ W ∧ a ∉ F) {Q : Flow → Shared → Prop} (h : Left prog w B W F W₀ env sc s σ' r Q) :
    wpAny (model prog w) A (exec (.Return (some e) p) env) Q E s := by
  unfold retS at he
  split at he
  · -- return x
    rename_i x xp
    split at he
    · rename_i l hx
      unfold heldOwn at hx
      split at hx
      case isFalse => cases hx
      rename_i hloc
      split at he
      · cases he
      · rename_i hdb
        cases he
        obtain ⟨a, oa, a', e', a1, a2, a3, lo, hD⟩ := R.own hloc hx rfl
        cases e'
        refine wpAny_Return_some (R.ownLoad hloc oa hdb ?_)
        exact h.retv (tk := s.toks) (Ext.refl _ _) ⟨a, rfl, fun q => (hW₀ a q).2 a1, lo, hD.less fun b hb => (hW₀ b hb).1⟩
    · split at he
      · rename_i d hd
        cases he
        exact ret_ok ok hr hW₀ R hd h
      · cases he
  · -- return bytes(x)
    rename_i f fp x xp cp
    split at he
    · rename_i hc
      obtain ⟨hg, rfl, hdb⟩ := hc
      split at he
      · rename_i b hx
        unfold heldOwn at hx
        split at hx
        case isFalse => cases hx
        rename_i hloc
        split at he
        · rename_i hb
          cases he
          obtain ⟨a, oa, a', e', a1, a2, a3, hgb, hall⟩ := R.own hloc hx rfl
          cases e'
          refine wpAny_Return_some (Call_ (glob_ok K R hg (v := .type "bytes") rfl (PySem.callWith_type (by rfl) (evalArgs_of (by rfl) ?_))))
          refine args_cons (R.ownLoad hloc oa hdb (args_nil ?_)) (star_plain rfl)
          refine ba_bytes hgb hb fun t k => ?_
          exact h.retv (v := .bytes _ t) (Ext.refl _ _) ⟨⟨t, rfl⟩, hall⟩
        · cases he
      · cases he
    · split at he
      · rename_i d hd
        cases he
        exact ret_ok ok hr hW₀ R hd h
      · cases he
  · split at he
    · rename_i d hd
      cases he
      exact ret_ok ok hr hW₀ R hd h
    · cases he

theorem stS_ok (K : Bas tab mg mb B) (ok : LvOk prog w B n L) : StOk prog w B n (stS L) := by
  intro sc σ st σ' r he A W F W₀ env s hr R hW₀ Q E h
  unfold stS at he
  split at he
  · exact asgS_ok K ok hr he R hW₀ h
  · exact augS_ok K ok hr he R hW₀ h
  · -- for
    rename_i target iter body p
    split at he
    · rename_i items hi
      split at he
      · rename_i σ1 hf
        cases he
        exact for_ok K ok hr R hi hf fun h₁ tk₁ e₁ R₁ => h.next e₁ R₁
      · cases he
    · cases he
  · -- if
    rename_i t body orelse p
    refine wpAny_If ?_
    split at he
    · rename_i ht
      refine ok.tr ht hr R _ _ fun h₁ tk₁ e₁ => ?_
      simp only [if_true]
      refine ok.xs he (W₀ := W₀) hr (s := { s with heap := h₁, toks := tk₁ }) (R.up e₁) hW₀ _ _ fun fl h₂ tk₂ e₂ hres => h fl h₂ tk₂ ((ext0 e₁).trans e₂) hres
    · rename_i ht
      refine ok.tr ht hr R _ _ fun h₁ tk₁ e₁ => ?_
      simp only [Bool.false_eq_true, if_false]
      refine ok.xs he (W₀ := W₀) hr (s := { s with heap := h₁, toks := tk₁ }) (R.up e₁) hW₀ _ _ fun fl h₂ tk₂ e₂ hres => h fl h₂ tk₂ ((ext0 e₁).trans e₂) hres
    · cases he
  · exact retS_ok K ok hr he R hW₀ h
  · cases he

theorem xsS_ok (K : Bas tab mg mb B) (ok : LvOk prog w B n L) : ∀ (sts : List Stmt) {sc : Scope} {σ σ' : Sg} {r : Option D}, xsS L sc sts σ = some (σ', r) → ∀ {A W F W₀ env} {s : Shared}, Room n A → EnvR prog w B W F env sc σ s.heap → (∀ a ∈ W₀, a ∈ W ∧ a ∉ F) →
    ∀ (Q : Flow → Shared → Prop) (E : Value → Shared → Prop), Left prog w B W F W₀ env sc s σ' r Q → wpAny (model prog w) A (execs sts env) Q E s
  | [], sc, σ, σ', r, e, A, W, F, W₀, env, s, hr, R, hW₀, Q, E, h => by
    cases e
    exact wpAny_execs_nil (h.next (tk := s.toks) (Ext.refl _ _) R)
  | st :: rest, sc, σ, σ', r, e, A, W, F, W₀, env, s, hr, R, hW₀, Q, E, h => by
    unfold xsS at e
    refine wpAny_execs_cons ?_
    split at e
    · rename_i σ1 hst
      refine stS_ok K ok hst hr R hW₀ _ _ fun fl h₁ tk₁ e₁ hres => ?_
      obtain ⟨rfl, R₁⟩ := hres
      exact xsS_ok K ok rest (s := { s with heap := h₁, toks := tk₁ }) e hr R₁ hW₀ Q E fun fl h₂ tk₂ e₂ hres => h fl h₂ tk₂ (e₁.trans e₂) hres
    · rename_i σ1 d hst
      cases e
      refine stS_ok K ok hst hr R hW₀ _ _ fun fl h₁ tk₁ e₁ hres => ?_
      obtain ⟨v, rfl, hb⟩ := hres
      exact h.retv e₁ hb
    · cases e

theorem lv_ok (K : Bas tab mg mb B) : ∀ n, LvOk prog w B n (lv tab n)
  | 0 => by
    refine ⟨?_, ?_, ?_⟩
    · intro sc σ e d h
      have h : (none : Option D) = some d := h
      cases h
    · intro sc σ e d h
      have h : (none : Option Bool) = some d := h
      cases h
    · intro sc σ sts σ' r h
      have h : (none : Option (Sg × Option D)) = some (σ', r) := h
      cases h
  | n + 1 => by
    refine ⟨evS_ok K (lv_ok K n), trS_ok (lv_ok K n), ?_⟩
    intro sc σ sts σ' r h A W F W₀ env s hr R hW Q E hl
    exact xsS_ok K (lv_ok K n) sts h hr.less R hW Q E hl
end
end Mine
end PartN18

section PartH1
open PySem PySem.W PySem.Calls PyProof.Rows
open Sem (wp)
set_option Elab.async false
namespace Mine

/-! ## the stack is clean: nothing on it holds a bytearray -/
noncomputable def badIds : List String := ["bytearray.__contains__", "bytearray.__mod__", "bytearray.__rmod__", "_struct.pack_into.held", "bytearray.find.held"] ++ Builtin.Bytes.decodersThatHold
noncomputable def badC : Code → Bool
  | .builtin id _ => badIds.contains id
  | _ => false
noncomputable def CleanL (l : List (Code × Pos)) : Prop := ∀ x ∈ l, badC x.1 = false
noncomputable def CleanC (Γ : Ctx) : Prop := badC Γ.code = false ∧ CleanL Γ.below

noncomputable def wpC {α : Type} (M : Model) (A : Around) (t : Sem α) (Q : α → Shared → Prop) (s : Shared) : Prop :=
  ∀ Γ p, Γ.In A → CleanC Γ → wp M Γ t (fun a _ s' => Q a s') (fun _ _ _ => False) p s
noncomputable def codeC (M : Model) (A : Around) (c : Code) (R : Result → Shared → Prop) (s : Shared) : Prop :=
  ∀ Γ p, Γ.code = c → Γ.Below A → CleanL Γ.below → wpCode M Γ R p s

section
variable {α β : Type} {M : Model} {A : Around} {s : Shared}
theorem wpC_of {t : Sem α} {Q : α → Shared → Prop} (h : wpAny M A t Q (fun _ _ => False) s) : wpC M A t Q s := fun Γ p hΓ _ => h Γ p hΓ
theorem wpC_pure {a : α} {Q : α → Shared → Prop} (h : Q a s) : wpC M A (pure a) Q s := fun _ _ _ _ => h
theorem wpC_mono {t : Sem α} {Q Q' : α → Shared → Prop} (h : wpC M A t Q s) (hQ : ∀ a s, Q a s → Q' a s) : wpC M A t Q' s :=
  fun Γ p hΓ hc => Sem.wp_mono M Γ t (fun a _ s => hQ a s) (fun _ _ _ x => x) p s (h Γ p hΓ hc)
theorem wpC_bind {m : Sem α} {f : α → Sem β} {Q : β → Shared → Prop} (h : wpC M A m (fun a s' => wpC M A (f a) Q s') s) : wpC M A (m >>= f) Q s := fun Γ p hΓ hc => by
  rw [Sem.wp_bind']
  exact Sem.wp_mono M Γ m (fun a p' s' h' => h' Γ p' hΓ hc) (fun _ _ _ x => x) p s (h Γ p hΓ hc)
theorem wpC_then {m : Sem α} {f : α → Sem β} {Q : β → Shared → Prop} (h : wpAny M A m (fun a s' => wpC M A (f a) Q s') (fun _ _ => False) s) : wpC M A (m >>= f) Q s := wpC_bind (wpC_of h)
theorem wpC_holding {vs : List Value} {m : Sem α} {Q : α → Shared → Prop} (h : wpC M A m Q s) : wpC M A (holding vs m) Q s :=
  fun Γ p hΓ hc => by rw [Sem.wp_holding]; exact h Γ p hΓ hc
theorem wpC_onRaise {m : Sem α} {k : Value → Sem Unit} {Q : α → Shared → Prop} (h : wpC M A m Q s) : wpC M A (m.onRaise k) Q s := fun Γ p hΓ hc => by
  rw [Sem.wp_onRaise]
  exact Sem.wp_mono M Γ m (fun _ _ _ x => x) (fun _ _ _ x => x.elim) p s (h Γ p hΓ hc)
theorem wpC_runValue {c : Code} {Q : Value → Shared → Prop} (hc : codeC M A c (fun r s' => match r with | .ok (.ret v) => Q v s' | _ => False) s) : wpC M A (runValue c) Q s := fun Γ p hΓ hcl => by
  rw [Sem.wp_runValue]
  refine wpCode_mono ?_ (hc _ p rfl (hΓ.enter c none p (by intro x; cases x)) ?_)
  · intro r s' h
    cases r with
    | ok f => cases f <;> exact h
    | error e => exact h.elim
  · intro x hx
    rcases List.mem_cons.mp hx with q | q
    · rw [q]; exact hcl.1
    · exact hcl.2 x q
theorem wpC_call {f : Value} {pos : List Value} {kw : List (Str × Value)} {Q : Value → Shared → Prop} (hc : codeC M A (.call f ⟨pos, kw⟩) (fun r s' => match r with | .ok (.ret v) => Q v s' | _ => False) s) :
    wpC M A (call f pos kw) Q s := wpC_runValue hc
theorem wpC_run {c : Code} {h : Option Value} {Q : Flow → Shared → Prop} (hc : codeC M (A.mark h) c (fun r s' => match r with | .ok f => Q f s' | .error _ => False) s) (hnb : h ≠ some byPass := by intro x; cases x) : wpC M A (run c h) Q s :=
  fun Γ p hΓ hcl => by
    rw [Sem.wp_run]
    refine wpCode_mono ?_ (hc _ p rfl (hΓ.enter c h p hnb) ?_)
    · intro r s' h
      cases r with
      | ok f => exact h
      | error e => exact h.elim
    · intro x hx
      rcases List.mem_cons.mp hx with q | q
      · rw [q]; exact hcl.1
      · exact hcl.2 x q
theorem codeC_mono {c : Code} {R R' : Result → Shared → Prop} (h : codeC M A c R s) (hR : ∀ r s, R r s → R' r s) : codeC M A c R' s := fun Γ p hc hΓ hl => wpCode_mono hR (h Γ p hc hΓ hl)
theorem codeC_of {c : Code} {R : Result → Shared → Prop} (h : codeAny M A c R s) : codeC M A c R s := fun Γ p hc hΓ _ => h Γ p hc hΓ
theorem codeC_of_tree {c : Code} {R : Result → Shared → Prop} (hb : badC c = false)
    (h : wpC M (A.under c) (M.den c) (fun fin s' => match fin with | .done f => R (.ok f) s' | .again c' => c'.quiet = true ∧ codeC M A c' R s') s) : codeC M A c R s := fun Γ p hc hΓ hl => by
  rw [wpCode_iff_wp, hc]
  refine Sem.wp_mono M Γ _ (fun fin p' s' h' => ?_) (fun _ _ _ h' => h'.elim) p s (h Γ p (hc ▸ hΓ.in) ⟨by rw [hc]; exact hb, hl⟩)
  cases fin with
  | done f => exact h'
  | again c' => exact ⟨h'.1, h'.2 (Γ.goto c') p' rfl (hΓ.goto c') hl⟩
theorem codeC_loop {c : Code} {R : Result → Shared → Prop} (hb : badC c = false) (hq : c.quiet = true) (I : Nat → Shared → Prop)
    (turn : ∀ n s, I n s → wpC M (A.under c) (M.den c)
      (fun fin s' => match fin with | .done f => R (.ok f) s' | .again c' => (c' = c ∧ ∃ m, m < n ∧ I m s') ∨ (c'.quiet = true ∧ codeC M A c' R s')) s)
    (n : Nat) (h : I n s) : codeC M A c R s := by
  induction n using Nat.strongRecOn generalizing s with
  | ind n ih =>
    refine codeC_of_tree hb (wpC_mono (turn n s h) fun fin s' hf => ?_)
    cases fin with
    | done f => exact hf
    | again c' =>
      rcases hf with ⟨rfl, m, hm, hI⟩ | hf
      · exact ⟨hq, ih m hm hI⟩
      · exact hf
end

/-- what `exported` looks for is not there -/
theorem not_exported (a : Value) : ∀ (l : List (Code × Pos)), CleanL l → (l.any fun
    | (.builtin "bytearray.__contains__" ⟨v :: _, _⟩, _) | (.builtin "bytearray.__mod__" ⟨v :: _, _⟩, _)
    | (.builtin "bytearray.__rmod__" ⟨_ :: v :: _, _⟩, _) | (.builtin "_struct.pack_into.held" ⟨v :: _, _⟩, _) => Builtin.Bytes.sameRef v a
    | (.builtin "bytearray.find.held" ⟨_ :: _ :: held, _⟩, _) => held.any (Builtin.Bytes.sameRef a)
    | (.builtin id ⟨v :: _, _⟩, _) => Builtin.Bytes.sameRef v a && Builtin.Bytes.decodersThatHold.contains id
    | _ => false) = false := by
  intro l hl
  rw [List.any_eq_false]
  rintro ⟨c, p⟩ hx
  have hc := hl _ hx
  simp only at hc
  split
  · rename_i v t1 t2 p' heq
    cases heq
    exact absurd hc (by show ¬ badIds.contains "bytearray.__contains__" = false; decide +kernel)
  · rename_i v t1 t2 p' heq
    cases heq
    exact absurd hc (by show ¬ badIds.contains "bytearray.__mod__" = false; decide +kernel)
  · rename_i v t1 t2 p' heq
    cases heq
    exact absurd hc (by show ¬ badIds.contains "bytearray.__rmod__" = false; decide +kernel)
  · rename_i v t1 t2 p' heq
    cases heq
    exact absurd hc (by show ¬ badIds.contains "_struct.pack_into.held" = false; decide +kernel)
  · rename_i v t1 t2 p' heq
    cases heq
    exact absurd hc (by show ¬ badIds.contains "bytearray.find.held" = false; decide +kernel)
  · rename_i heq
    cases heq
    have hc : badIds.contains _ = false := hc
    unfold badIds at hc
    rw [List.contains_eq_any_beq, List.any_append, Bool.or_eq_false_iff, ← List.contains_eq_any_beq, ← List.contains_eq_any_beq] at hc
    rw [hc.2, Bool.and_false]
    decide
  · decide

theorem exported_no {M : Model} {A : Around} {s : Shared} {a : Value} {Q : Bool → Shared → Prop} (h : Q false s) : wpC M A (Builtin.Bytes.exported a) Q s := fun Γ p hΓ hc => by
  have e := not_exported a ((Γ.code, p) :: Γ.below) (fun x hx => by
    rcases List.mem_cons.mp hx with q | q
    · rw [q]; exact hc.1
    · exact hc.2 x q)
  exact (congrArg (fun b => Q b s) e).mpr h
end Mine
end PartH1

section PartH2
open PySem PySem.W PySem.Calls PyProof.Rows
open Sem (wp)
set_option Elab.async false
set_option maxRecDepth 100000
namespace Mine
theorem ba_mro : mroOf (.type "bytearray") = pure [.type "bytearray", .type "object"] := by rw [mroOf_type]; kernel_rfl
theorem ba_lookup_new : typeLookup (.type "bytearray") "__new__" = pure (some (.builtin "bytearray.__new__")) := by rw [typeLookup_type, builtinLookup_eq_fast]; kernel_rfl
theorem ba_slot_init : PySem.Slot "bytearray" "__init__" "bytearray.__init__" :=
  .of (owner := "bytearray") (n := "__init__") (by rw [typeLookup_type, builtinLookup_eq_fast]; kernel_rfl) (by decide +kernel) (by decide +kernel) (by decide +kernel)
    (by first | exact .inl (by decide +kernel) | exact .inr (by decide +kernel)) (by rw [isSubtype_type]; kernel_rfl)
theorem ba_called : TypeCalled "bytearray" "bytearray.__new__" "bytearray.__init__" :=
  ⟨by decide +kernel, by decide +kernel, ⟨_, _, ba_mro⟩, madeBy_type ba_mro ba_lookup_new (by decide +kernel), by decide +kernel, by rw [isSubtype_type]; kernel_rfl, ba_slot_init⟩
theorem ba_typeCall (a : Value) : checkTypeCall "bytearray" ⟨[a], []⟩ = pure () := by kernel_rfl
theorem ba_newCall (a : Value) : checkBuiltinCall "bytearray.__new__" ⟨[.type "bytearray", a], []⟩ = pure () := by kernel_rfl
theorem ba_entry_new : entryFor table "bytearray.__new__" = some Builtin.«list.__new__» :=
  entryFor_alias (id' := "list.__new__") (by kernel_rfl) rfl (by decide +kernel) (by kernel_rfl)
theorem ba_plain_new : plainId "bytearray.__new__" = true := by decide +kernel
set_option maxRecDepth 1000000 in
set_option maxHeartbeats 4000000 in
theorem ba_owner_new : ("bytearray.__new__".splitOn ".__new__").headD "" = "bytearray" := by simp +decide [String.splitOn, String.splitOnAux]
theorem ba_sub_self : isSubtype (.type "bytearray") (.type "bytearray") = pure true := by rw [isSubtype_type]; kernel_rfl
theorem ba_entry_init : entryFor table "bytearray.__init__" = some Builtin.«bytearray.__init__» := by first | exact entryFor_of_fast (by kernel_rfl) | exact entryFor_of_tree (by kernel_rfl)
theorem ba_bind (v : Value) : Builtin.Bytes.bindOptional "bytearray.__init__" "bytearray" ["source", "encoding", "errors"] [v] [] = pure [some v, none, none] := by kernel_rfl
theorem ba_args_init (a b : Value) : argsOk "bytearray.__init__" ⟨[a, b], []⟩ := by
  unfold argsOk; rw [signature?_of (id := "bytearray.__init__") (n := ['_', '_', 't', 'i', 'n', 'i', '_', '_']) (o := ['y', 'a', 'r', 'r', 'a', 'e', 't', 'y', 'b']) (by kernel_rfl) owner_ba]; kernel_rfl

section
variable {prog : Program} {w : World} {A : Around} {E : Value → Shared → Prop} {s : Shared}
theorem ba_code_new (a : Value) {Q₁ : Value → Shared → Prop} (h : Q₁ (.ref s.heap.objs.size) { s with heap := s.heap.push { cls := .type "bytearray", data := .bytearray #[] } }) :
    codeAny (model prog w) A (.call (.builtin "bytearray.__new__") ⟨[.type "bytearray", a], []⟩) (wants Q₁ E) s := by
  refine codeAny_of_tree ?_
  show wpAny _ A.in1 (do checkBuiltinCall "bytearray.__new__" ⟨[.type "bytearray", a], []⟩; again (.builtin "bytearray.__new__" ⟨[.type "bytearray", a], []⟩)) _ _ s
  refine wpAny_bind (wpAny_of_eq (ba_newCall a) (wpAny_pure ⟨plainId_quiet ba_plain_new _, codeAny_builtin_stack ba_entry_new rfl fun p st => ?_⟩))
  rw [Around.under_plainId ba_plain_new _]
  have hsub := ba_sub_self
  have hown := ba_owner_new
  obtain ⟨hp, g, d, tk, os⟩ := s
  simp only [hown]
  wp_walk
  exact h

theorem ba_init {a : Addr} {n : Nat} {t : Tok} {Q : Fin → Shared → Prop} (ha : s.heap.get? a = some (bufObj [])) (hn : n ≤ 1000)
    (h : ∀ h', Heap.SameBut a s.heap h' → h'.get? a = some (bufObj (List.replicate n 0)) → Q (.done (.ret .none)) { s with heap := h' }) :
    wpC (model prog w) A (Builtin.«bytearray.__init__» ⟨[.ref a, .int n t], []⟩) Q s := by
  have hT : s.TypeIs (.ref a) "bytearray" := ⟨_, ha, rfl⟩
  unfold Builtin.«bytearray.__init__»
  refine wpC_then (ba_ownRelease ha ?_)
  refine wpC_then (wpAny_of_eq (ba_bind _) ?_)
  refine wpC_then (wpAny_of_eq (a := ()) rfl ?_)
  refine wpC_then (wpAny_of_eq (a := ()) rfl ?_)
  refine wpC_bind ?_
  show wpC _ _ (Builtin.Bytes.exported (.ref a) >>= fun b => _) _ _
  refine wpC_bind (exported_no (wpC_of ?_))
  show wpAny _ _ (Builtin.Bytes.exportsOf (.ref a) >>= fun b => pure (decide (b > 0))) _ _ _
  refine wpAny_bind ?_
  unfold Builtin.Bytes.exportsOf
  refine wpAny_bind (wpAny_load ha (wpAny_pure (wpAny_pure (wpC_of ?_))))
  refine bm_if_false rfl ?_
  refine wpAny_bind (ba_write (c := []) ha rfl (by simp) fun h₁ hs₁ hg₁ => ?_)
  have hno : asStr? (.int n t) = pure none := rfl
  show wpAny (model prog w) A (asStr? (.int n t) >>= _) _ _ _
  refine wpAny_bind ?_
  rw [hno]
  refine wpAny_pure ?_
  rw [if_neg (by decide)]
  rw [if_neg (by decide)]
  refine wpAny_bind ?_
  rw [if_neg (by decide)]
  refine wpAny_pure ?_
  refine wpAny_bind ?_
  have sp : ∀ (s : Shared) (Q : Option Value → Shared → Prop) (E : Value → Shared → Prop), Q (some (.builtin "int.__index__")) s → wpAny (model prog w) A (specialOf (.int (n : Int) t) (Str.ofString "__index__")) Q E s :=
    fun s Q E h => wpAny_specialOf (typeIs_int s n t) PySem.F.slot_int_index.lookup h
  refine sp _ _ _ ?_
  have f1 : Builtin.Bytes.fitsIndex (n : Int) = true := by simp only [Builtin.Bytes.fitsIndex, Bool.and_eq_true, decide_eq_true_eq]; omega
  have f2 : ¬ ((n : Int) < 0) := by omega
  have f3 : ((n : Int) == 2 ^ 63 - 1) = false := beq_eq_false_iff_ne.mpr (by omega)
  have f4 : Builtin.Bytes.tooLong (n : Int).toNat = false := by unfold Builtin.Bytes.tooLong; rw [line_is]; exact decide_eq_false (by omega)
  rw [if_pos (by rfl)]
  refine wpAny_bind ?_
  refine wpAny_attempt ?_
  have hix : asIndex (.int n t) = pure (n : Int) := rfl
  rw [hix]
  refine wpAny_pure ?_
  dsimp only
  rw [f1, if_neg (by decide), if_neg f2, f3, if_neg (by decide), f4, if_neg (by decide)]
  refine wpAny_bind (wpAny_rule ?_)
  by_cases h0 : (n : Int) > 0
  · rw [if_pos h0]
    refine wpAny_bind ?_
    refine ba_write (s := { s with heap := h₁ }) (c := List.replicate n 0) hg₁ (by simp [Int.toNat_natCast]) (by simpa using hn) fun h₂ hs₂ hg₂ => ?_
    exact wpAny_pure (h h₂ (hs₁.trans hs₂) hg₂)
  · rw [if_neg h0]
    have : n = 0 := by omega
    subst this
    exact wpAny_pure (h h₁ hs₁ hg₁)
end
end Mine
end PartH2

section PartH3
open PySem PySem.W PySem.Calls PyProof.Rows
open Sem (wp)
set_option Elab.async false
set_option maxRecDepth 100000
namespace Mine
theorem ba_plain_init : plainId "bytearray.__init__" = true := by decide +kernel
theorem ba_bad1 (x : Args) : badC (.builtin "bytearray.__init__" x) = false := by show badIds.contains "bytearray.__init__" = false; decide +kernel
theorem ba_bad2 (x : Args) : badC (.builtin "type.__call__" x) = false := by show badIds.contains "type.__call__" = false; decide +kernel
section
variable {prog : Program} {w : World} {A : Around} {s : Shared}
theorem wpC_of_eq {α : Type} {M : Model} {m : Sem α} {a : α} {Q : α → Shared → Prop} (e : m = pure a) (h : Q a s) : wpC M A m Q s := by rw [e]; exact wpC_pure h

theorem wpC_if_false {α : Type} {M : Model} {c : Bool} {a b : Sem α} {Q : α → Shared → Prop} (hc : c = false) (h : wpC M A b Q s) : wpC M A (if c = true then a else b) Q s := by
  subst hc
  exact h
theorem codeC_builtin {id : String} {args : Args} {b : Builtin} {R : Result → Shared → Prop} (hb : entryFor table id = some b) (hbad : badC (.builtin id args) = false)
    (h : wpC (model prog w) (A.under (.builtin id args)) (b args) (fun fin s' => match fin with | .done f => R (.ok f) s' | .again c' => c'.quiet = true ∧ codeC (model prog w) A c' R s') s) :
    codeC (model prog w) A (.builtin id args) R s := by
  refine codeC_of_tree hbad ?_
  show wpC _ _ (match entryFor table id with | some b => b args | none => unsupported ((withoutEnding? id "#data").getD id)) _ s
  rw [hb]; exact h
theorem ba_init_code {a : Addr} {n : Nat} {t : Tok} {R : Result → Shared → Prop} (ha : s.heap.get? a = some (bufObj [])) (hn : n ≤ 1000)
    (h : ∀ h', Heap.SameBut a s.heap h' → h'.get? a = some (bufObj (List.replicate n 0)) → R (.ok (.ret .none)) { s with heap := h' }) :
    codeC (model prog w) A (.call (.builtin "bytearray.__init__") ⟨[.ref a, .int n t], []⟩) R s := by
  refine codeC_of_tree rfl ?_
  show wpC _ A.in1 (do checkBuiltinCall "bytearray.__init__" ⟨[.ref a, .int n t], []⟩; again (.builtin "bytearray.__init__" ⟨[.ref a, .int n t], []⟩)) _ s
  have hT : s.TypeIs (.ref a) "bytearray" := ⟨_, ha, rfl⟩
  refine wpC_then (ba_slot_init.check _ _ _ _ _ _ _ _ hT (ba_args_init _ _) ?_)
  exact wpC_pure ⟨plainId_quiet ba_plain_init _, codeC_builtin ba_entry_init (ba_bad1 _) (ba_init ha hn h)⟩

theorem ba_make {n : Nat} {t : Tok} {Q : Value → Shared → Prop} (hn : n ≤ 1000)
    (h : ∀ h', (∀ b o, s.heap.get? b = some o → h'.get? b = some o) → h'.get? s.heap.objs.size = some (bufObj (List.replicate n 0)) → Q (.ref s.heap.objs.size) { s with heap := h' }) :
    wpC (model prog w) A (call (.type "bytearray") [.int n t]) Q s := by
  have hmade := ba_called.made
  refine wpC_call (codeC_of_tree rfl ?_)
  show wpC _ _ (callAny (.type "bytearray") _) _ _
  refine wpC_pure ⟨Code.quiet_builtin _ (by decide +kernel), codeC_builtin PySem.F.entry_type_call (ba_bad2 _) ?_⟩
  have h1 := ba_called.notType
  have h2 := ba_called.canCreate
  unfold Builtin.«type.__call__»
  refine wpC_if_false h1 ?_
  refine wpC_if_false h2 ?_
  refine wpC_bind (wpC_of_eq (ba_typeCall _) ?_)
  refine wpC_bind (wpC_of_eq ba_mro ?_)
  refine wpC_if_false rfl ?_
  refine wpC_bind (wpC_of_eq hmade ?_)
  refine wpC_bind (wpC_pure ?_)
  refine wpC_then (wpAny_holding (wpAny_call (codeAny_mono (ba_code_new (E := fun _ _ => False) (Q₁ := fun obj s₁ => obj = .ref s.heap.objs.size ∧ s₁ = { s with heap := s.heap.push { cls := .type "bytearray", data := .bytearray #[] } }) _ ⟨rfl, rfl⟩) fun r s₁ hr => ?_)))
  cases r with
  | error e => exact hr
  | ok fl =>
    cases fl with
    | ret obj =>
      obtain ⟨rfl, rfl⟩ := hr
      have hg : (s.heap.push { cls := .type "bytearray", data := .bytearray #[] }).get? s.heap.objs.size = some (bufObj []) := Heap.get?_push_size _ rfl
      have ek : ∀ b o, s.heap.get? b = some o → (s.heap.push { cls := .type "bytearray", data := .bytearray #[] }).get? b = some o := fun b o e => Heap.get?_push_of_some _ e
      have hlt : ∀ b o, s.heap.get? b = some o → b ≠ s.heap.objs.size := fun b o e => Nat.ne_of_lt (Heap.lt_size e)
      generalize s.heap.push { cls := .type "bytearray", data := .bytearray #[] } = h₁ at *
      generalize s.heap.objs.size = a at *
      have hT : Shared.TypeIs { s with heap := h₁ } (.ref a) "bytearray" := ⟨_, hg, rfl⟩
      refine wpC_then (wpAny_isInstance (T := "bytearray") (b := true) hT PySem.F.sub_bytearray_bytearray ?_)
      refine wpC_if_false rfl ?_
      refine wpC_bind (wpC_holding ?_)
      show wpC _ _ (callSpecial? (.ref a) (Str.ofString "__init__") [.int n t] []) _ _
      simp only [callSpecial?]
      refine wpC_then (wpAny_specialOf hT ba_slot_init.lookup ?_)
      simp only [ba_slot_init.bind]
      refine wpC_holding (wpC_bind (wpC_pure ?_))
      refine wpC_bind (wpC_call ?_)
      refine ba_init_code (s := { s with heap := h₁ }) hg hn fun h₂ hs₂ hg₂ => ?_
      refine wpC_pure ?_
      refine wpC_if_false (by decide) ?_
      exact wpC_pure (h h₂ (fun b o e => hs₂.extBut b o (hlt b o e) (ek b o e)) hg₂)
    | _ => exact hr.elim
end
end Mine
end PartH3

section PartH4
open PySem PySem.W PySem.Calls PyProof.Rows
open Sem (wp)
set_option Elab.async false
namespace Mine
section
variable {prog : Program} {w : World} {A : Around} {s : Shared} {B : Heap} {W F : List Addr} {env : Env} {sc : Scope} {σ : Sg} {n : Nat} {L : Lv} {tab : Str → Option DefRec} {mg mb : Str → Option Value}

theorem wpC_keep {α : Type} {M : Model} {vs : List Value} {m : Sem α} {Q : α → Shared → Prop} (h : wpC M A m Q s) : wpC M A (m.keep vs) Q s := fun Γ p hΓ hc => by rw [Sem.wp_keep]; exact h Γ p hΓ hc

theorem wpC_execs_cons {M : Model} {st : Stmt} {rest : List Stmt} {Q : Flow → Shared → Prop}
    (h : wpC M A (exec st env) (fun f s' => match f with | .next => wpC M A (execs rest env) Q s' | f => Q f s') s) : wpC M A (execs (st :: rest) env) Q s := by
  rw [execs_cons]
  refine wpC_bind (wpC_mono h fun f s' h' => ?_)
  cases f <;> first | exact h' | exact wpC_pure h'

theorem codeC_func {body : List Stmt} {R : Result → Shared → Prop} (h : wpC (model prog w) (A.deeper env) (execs body env) (fun f s' => R (.ok (.ret (match f with | .ret v => v | _ => .none))) s') s) :
    codeC (model prog w) A (.func body env) R s := by
  refine codeC_of_tree rfl ?_
  show wpC _ (A.deeper env) (do point; match ← (execs body env).onRaise (leaving env) with | .ret v => ret v | _ => ret .none) _ s
  refine wpC_then (wpAny_point (wpC_bind (wpC_onRaise (wpC_mono h fun f s' h' => ?_))))
  cases f <;> exact wpC_pure h'

theorem callC_open (K : Bas tab mg mb B) (hroom : A.depth < recursionLimit) (rd : Ready B W s.heap) {f : Str} {d : DefRec} {a : Addr} (ht : tab f = some d) (ha : mg f = some (.ref a)) {vs : List Value} {ds : List D} (he : enterOk d ds.length = true) (hp : Paired (DB prog w W s.heap) vs ds) {P : Result → Shared → Prop}
    (h : ∀ env h₁ tk₁, EnvR prog w B (footOf env ++ W) (footOf env) env d.scope (zipS (d.params.args.map (·.arg)) ds) h₁ → (∀ b o, s.heap.get? b = some o → h₁.get? b = some o) → (∀ b ∈ footOf env, s.heap.get? b = none) →
      wpC (model prog w) (A.deeper env) (execs d.body env) (fun f s' => P (.ok (.ret (match f with | .ret v => v | _ => .none))) s') { s with heap := h₁, toks := tk₁ }) :
    codeC (model prog w) A (.call (.ref a) ⟨vs, []⟩) P s := by
  obtain ⟨_, a', o, pm, code, doc, h1, h2, h3, h4⟩ := K.fn f d ht
  rw [ha] at h1; cases h1
  have hl := hp.length
  obtain ⟨a1, a2, a3, a4, e2, e3, k1, k2, k3, e7, e8⟩ := enter_parts he
  have hb := binds_ok (d := d) (pm := pm) (code := code) (doc := doc) (vs := vs) (by rw [hl]; exact he)
  refine codeC_of_tree rfl ?_
  show wpC _ A.in1 (callAny (.ref a) ⟨vs, []⟩) _ s
  simp only [callAny]
  refine wpC_then (wpAny_load (rd.keep _ _ h2) ?_)
  obtain ⟨c, oc, cvs, tq, hc, hoc, hdc, hq⟩ := h4.keeps rd.keep
  have q1 : (docDef d.name d.params d.body d.scope pm code doc).scope = d.scope := rfl
  have q2 : (docDef d.name d.params d.body d.scope pm code doc).body = .stmts d.body := rfl
  have q3 : (docDef d.name d.params d.body d.scope pm code doc).code = .ref c := hc
  simp only [h3, callFunction, q1, q2, k2, k3, q3]
  refine wpC_then (wpAny_field hoc hdc hq (wpC_bind (wpC_pure ?_)))
  rw [hb]
  refine wpC_bind (wpC_pure ?_)
  refine wpC_then (wpAny_newFunctionEnv_cells k1 ?_ fun env he' s₁ x => ?_)
  · intro y hy
    have hm : y.1 ∈ d.params.args.map (·.arg) := (List.of_mem_zip hy).1
    obtain ⟨q, hq, hq2⟩ := List.mem_map.mp hm
    have := e7 q hq
    rw [hq2] at this
    unfold parOk at this
    split at this
    · left; assumption
    · rename_i hk
      right
      refine ⟨hk, ?_⟩
      obtain ⟨c, hc⟩ := cellsFrom_has d.scope.names (s.heap.objs.size + 1) [] y.1 (.inr (mem_of_lookup hk))
      obtain ⟨c', hc'⟩ := lookup_of_mem hc
      show ((cellsFrom (s.heap.objs.size + 1) d.scope.names []).lookup y.1).isSome = true
      rw [hc']; rfl
    · cases this
  · have keep := x.toInCall.keep
    refine wpC_then (wpAny_enterFrame (K.nolimit.keeps fun b o q => keep b o (rd.keep b o q)) (by show A.depth < _; exact hroom) ?_)
    refine wpC_pure ⟨rfl, codeC_func ?_⟩
    have R := enter_env he rd hp (env := env) (by rw [he']; rfl) (by rw [he']; rfl) (by rw [he']; rfl) (by rw [he']; rfl) x
    have fr := foot_fresh x
    obtain ⟨h₁, tk₁, rfl⟩ := x.toInCall.same
    exact h env h₁ tk₁ R keep fr

theorem Room.le {n m : Nat} (r : Room n A) (h : m ≤ n) : Room m A := ⟨r.hh, by have := r.dep; omega, by have := r.un; omega⟩

/-- bytearray(len(y)) -/
theorem evalC_made (K : Bas tab mg mb B) (hr : Room 1 A) (R : EnvR prog w B W F env sc σ s.heap) {fp gp yp ip p : Pos} {y : Str} {b : List Nat} (hg1 : isGlob sc sBytearray = true) (hg2 : isGlob sc sLen = true) (hy : y ≠ Str.ofString "__debug__") (hx : held sc σ y = some (.val (.byt b)))
    (hb : b.length ≤ 1000) {Q : Value → Shared → Prop} (h : ∀ a h₁ tk₁, Ext [] s.heap h₁ → s.heap.get? a = none → h₁.get? a = some (bufObj (List.replicate b.length 0)) → Q (.ref a) { s with heap := h₁, toks := tk₁ }) :
    wpC (model prog w) A (eval (.Call (.Name sBytearray fp) [.Call (.Name sLen gp) [.Name y yp] [] ip] [] p) env) Q s := by
  rw [arm_eval_Call_Name']
  refine wpC_then (glob_ok K R hg1 (v := .type "bytearray") rfl ?_)
  show wpC _ _ (callWith p (.type "bytearray") [] (backTo p (starEach [.Call (.Name sLen gp) [.Name y yp] [] ip] env)) []) _ _
  unfold callWith
  have hev : evList ((lv tab 1).ev sc σ) [.Name y yp] = some [.byt b] := by
    have : (lv tab 1).ev sc σ (.Name y yp) = some (.byt b) := by
      show evS lv0 tab sc σ (.Name y yp) = _
      simp only [evS, if_neg hy, hx]
    simp only [evList, starless, this, if_true]
  have hp : primD sLen [.byt b] = some (.int b.length) := by
    simp only [primD, if_pos hb, if_true]
  refine wpC_then (wpAny_holding (evalArgs_of (by rfl) (args_cons (prim_ok K (lv_ok K 1) hr R hg2 hev hp _ _ fun v h₁ tk₁ e₁ b₁ => args_nil ?_) (star_plain rfl))))
  obtain ⟨t, rfl⟩ := b₁
  refine wpC_then (wpAny_standAt ?_)
  have hpl : (backTo p (starEach [.Call (.Name sLen gp) [.Name y yp] [] ip] env)).any (·.1) = false := rfl
  simp only [hpl, List.any_nil, Bool.or_false]
  refine wpC_bind (wpC_pure ?_)
  show wpC _ _ (call (.type "bytearray") [.int (b.length : Int) t] [] >>= _) _ _
  refine wpC_bind (ba_make (s := { s with heap := h₁, toks := tk₁ }) hb fun h₂ k₂ hg₂ => ?_)
  refine wpC_of (wpAny_bind (wpAny_holding (wpAny_point (wpAny_pure ?_))))
  exact h _ h₂ tk₁ (fun c o _ q => k₂ c o (e₁ c o (by simp) q)) (none_back e₁ (size_none _)) hg₂
end
end Mine
end PartH4

section PartH5
open PySem PySem.W PySem.Calls PyProof.Rows
open Sem (wp)
set_option Elab.async false
namespace Mine
section
variable {prog : Program} {w : World} {A : Around} {s : Shared} {B : Heap} {W F : List Addr} {env : Env} {sc : Scope} {σ : Sg} {n : Nat} {L : Lv} {tab : Str → Option DefRec} {mg mb : Str → Option Value}

theorem wpC_Assign_Name {x : Str} {xp p : Pos} {e : Expr} {Q : Flow → Shared → Prop} (hs : swapsWith e (some (.Name x xp)) p.line env = pure false) (h : wpC (model prog w) A (eval e env) (fun v s₁ => wpAny (model prog w) A (storeName env x v) (fun _ => Q .next) (fun _ _ => False) s₁) s) :
    wpC (model prog w) A (exec (.Assign [.Name x xp] e p) env) Q s := by
  rw [exec_Assign_Name env x xp e p hs]
  refine wpC_then (wpAny_standAt (wpC_bind (wpC_mono h fun v s₁ h₁ => wpC_of (wpAny_bind (wpAny_standAt (wpAny_bind (wpAny_bindName (wpAny_mono h₁ (fun _ s₂ h₂ => wpAny_pure h₂) fun _ _ x => x))))))))

/-- the call of the one function that makes a bytearray -/
theorem swapC (K : Bas tab mg mb B) (ok : LvOk prog w B n L) (hr : Room (n + 1) A) (h1 : 1 ≤ n) (rd : Ready B W s.heap) {ds : List D} {r : D} {a : Addr} {vs : List Value} (e : swapD L tab ds = some r) (ha : mg sByteswap = some (.ref a)) (hp : Paired (DB prog w W s.heap) vs ds) {Q : Value → Shared → Prop}
    (hQ : ∀ v h' tk, Ext [] s.heap h' → DB prog w W h' v r → Q v { s with heap := h', toks := tk }) : wpC (model prog w) A (call (.ref a) vs) Q s := by
  unfold swapD at e
  split at e
  · rename_i dr ht
    split at e
    · rename_i he
      split at e
      · rename_i st0 rest hbody
        split at e
        · rename_i x f g y hmk
          obtain ⟨xp, fp, gp, yp, ip, cp, ap, rfl⟩ := madeOf_is hmk
          split at e
          · rename_i hc
            obtain ⟨rfl, hg1, rfl, hg2, hk, _, hdb⟩ := hc
            split at e
            · rename_i b hy
              split at e
              · rename_i hb
                refine wpC_call (callC_open K (by have := hr.dep; omega) rd ht ha he hp fun env h₁ tk₁ R keep fr => ?_)
                rw [hbody]
                have hrd : Room n (A.deeper env) := hr.deep
                refine wpC_execs_cons (wpC_Assign_Name rfl (evalC_made K (hrd.le h1) R (s := { s with heap := h₁, toks := tk₁ }) hg1 hg2 hdb hy hb fun a0 h₂ tk₂ e₂ hn0 hg₂ => ?_))
                have R1 := R.more (N := [a0]) (fun I hI => by rw [List.mem_singleton.mp hI]; exact hn0) e₂ (fun I hI => by rw [List.mem_singleton.mp hI]; exact ⟨_, hg₂⟩)
                have aNew : ∀ c ∈ footOf env ++ W, c ≠ a0 := fun c hc q => by obtain ⟨o, ho'⟩ := R.here c hc; rw [q, hn0] at ho'; cases ho'
                have R2 : EnvR prog w B ([a0] ++ (footOf env ++ W)) (a0 :: footOf env) env dr.scope (zipS (dr.params.args.map (·.arg)) ds) h₂ := R1.widen (fun c hc => List.mem_cons_of_mem _ hc) (fun c hc => by
                  rcases List.mem_cons.mp hc with q | q
                  · simp [q]
                  · simp [q])
                refine R2.bindS (s := { s with heap := h₂, toks := tk₂ }) (sl0 := .buf (List.replicate b.length 0)) hk ⟨a0, rfl, List.mem_cons_self .., fun q => aNew env.locals (R.sub _ R.LF) q.symm, fun z c hz => aNew c (R.sub _ (R.cl z c hz).1), hg₂, fun z hz => by rw [(List.mem_replicate.mp hz).2]; decide⟩
                  (fun z sl hz => by obtain ⟨_, _, rfl, _, _⟩ := getS_zipS _ hp hz; rfl) fun h₃ tk₃ e₃ R₃ => wpC_of ?_
                have e : ∃ σ', L.xs dr.scope (upd (zipS (dr.params.args.map (·.arg)) ds) x (.buf (List.replicate b.length 0))) rest = some (σ', some r) := by
                  split at e
                  · cases e; exact ⟨_, by assumption⟩
                  · cases e
                obtain ⟨σ', e⟩ := e
                refine ok.xs e (W₀ := W) hrd (s := { s with heap := h₃, toks := tk₃ }) R₃ (fun c hc => ⟨by simp [hc], fun q => ?_⟩) _ _ fun fl h₄ tk₄ e₄ hres => ?_
                · rcases List.mem_cons.mp q with q | q
                  · exact aNew c (by simp [hc]) q
                  · obtain ⟨o, ho⟩ := rd.here c hc
                    rw [fr c q] at ho; cases ho
                · obtain ⟨v, rfl, hv⟩ := hres
                  refine hQ v h₄ tk₄ (fun c o _ q => ?_) hv
                  have q1 := keep c o q
                  have ca : c ≠ a0 := fun z => by rw [z, hn0] at q1; cases q1
                  have cf : c ∉ footOf env := fun z => by rw [fr c z] at q; cases q
                  refine e₄ c o (fun z => ?_) (e₃ c o (fun z => ?_) (e₂ c o (by simp) q1))
                  · rcases List.mem_cons.mp z with z | z
                    · exact ca z
                    · exact cf z
                  · rw [List.mem_singleton.mp z] at cf; exact cf (List.mem_cons_self ..)
              · cases e
            · cases e
          · cases e
        · cases e
      · cases e
    · cases e
  · cases e

/-- t = _byteswap(args) -/
theorem evalC_swap (K : Bas tab mg mb B) (ok : LvOk prog w B n L) (hr : Room (n + 1) A) (h1 : 1 ≤ n) (R : EnvR prog w B W F env sc σ s.heap) {fp p : Pos} {args : List Expr} {ds : List D} {r : D} (hg : isGlob sc sByteswap = true) (he : evList (L.ev sc σ) args = some ds) (e : swapD L tab ds = some r)
    {Q : Value → Shared → Prop} (h : ∀ v h' tk, Ext [] s.heap h' → DB prog w W h' v r → Q v { s with heap := h', toks := tk }) : wpC (model prog w) A (eval (.Call (.Name sByteswap fp) args [] p) env) Q s := by
  obtain ⟨dr, ht⟩ : ∃ dr, tab sByteswap = some dr := by
    unfold swapD at e
    split at e
    · exact ⟨_, by assumption⟩
    · cases e
  have hen : enterOk dr ds.length = true := by
    unfold swapD at e
    rw [ht] at e
    dsimp only at e
    split at e
    · assumption
    · cases e
  obtain ⟨hdbg, a, o, pm, code, doc, q1, q2, q3, q4⟩ := K.fn sByteswap dr ht
  have hne : ∃ x r, args = x :: r := by
    cases args with
    | nil => cases he; obtain ⟨_, _, _, _, _, q, _⟩ := enter_parts hen; rcases q with q | q <;> cases q
    | cons x r => exact ⟨x, r, rfl⟩
  obtain ⟨x, rr, rfl⟩ := hne
  have hx : starless x = true := by
    unfold evList at he
    split at he
    · assumption
    · cases he
  have hk : env.kindOf sByteswap = some .globalImplicit := by show env.scope.names.lookup sByteswap = _; rw [R.is]; exact eq_of_beq hg
  rw [arm_eval_Call_Name']
  refine wpC_then (Name_function_global (by rw [R.is, R.fn]) hk (loadGlobal_global (mg := mg) (by rw [R.gl]; exact K.g.keeps R.keep) q1 ?_) (beq_eq_false_iff_ne.mpr hdbg))
  show wpC _ _ (callWith p (.ref a) [] (backTo p (starEach (x :: rr) env)) []) _ _
  unfold callWith
  refine wpC_then (wpAny_holding (evalArgs_of hx (evList_ok ok.ev hr.less he R _ _ fun vs h₁ tk₁ e₁ p₁ => ?_)))
  refine wpC_then (wpAny_standAt ?_)
  have hpl := evList_plain he env p
  simp only [hpl, List.any_nil, Bool.or_false]
  have R₁ := R.up e₁
  refine wpC_then (m := keeperOf (.ref a)) ?_
  unfold keeperOf
  refine wpAny_bind (wpAny_load (e₁ a o (by simp) (R.keep a o q2)) ?_)
  rw [q3]
  refine wpAny_pure ?_
  have go : wpC (model prog w) A (call (.ref a) vs []) (fun v s' => wpC (model prog w) A (holding [v] point >>= fun _ => pure v) Q s') { s with heap := h₁, toks := tk₁ } :=
    swapC K ok hr h1 (s := { s with heap := h₁, toks := tk₁ }) R₁.ready e q1 p₁ fun v h₂ tk₂ e₂ b₂ => wpC_of (wpAny_bind (wpAny_holding (wpAny_point (wpAny_pure (h v h₂ tk₂ (e₁.trans e₂) b₂)))))
  dsimp only
  split
  · exact wpC_bind go
  · refine wpC_bind ?_
    unfold callMarked
    exact wpC_keep go
end
end Mine
end PartH5

section PartH6
open PySem PySem.W PySem.Calls PyProof.Rows
open Sem (wp)
set_option Elab.async false
namespace Mine
section
variable {prog : Program} {w : World} {A : Around} {s : Shared} {B : Heap} {W F : List Addr} {env : Env} {sc : Scope} {σ : Sg} {n : Nat} {L : Lv} {tab : Str → Option DefRec} {mg mb : Str → Option Value}

theorem hot_loop (K : Bas tab mg mb B) (ok : LvOk prog w B n L) (hr : Room (n + 1) A) (hn1 : 1 ≤ n) {target : Expr} {t : Str} {tp fp cp ap : Pos} {args : List Expr} {rest : List Stmt} (hg : isGlob sc sByteswap = true) (hkt : kindIs sc t = some .local)
    {I : Addr} {St : List D → Heap → Prop} {Md : D → List D → Value → Heap → Prop} (T : Tn prog w A target (I :: W) I St Md) (hI : I ∉ W)
    {ds : List D} {σ' : Sg} (R : EnvR prog w B (I :: W) F env sc σ s.heap) (hFW : ∀ a ∈ F, a ∈ W) (st : St ds s.heap) (e : hotFor L tab sc target t args rest ds σ = some (σ', none)) {P : Result → Shared → Prop}
    (h : ∀ h' tk, Ext (I :: F) s.heap h' → EnvR prog w B W F env sc σ' h' → P (.ok .next) { s with heap := h', toks := tk }) :
    codeC (model prog w) A (.forLoop target (.ref I) (.Assign [.Name t tp] (.Call (.Name sByteswap fp) args [] cp) ap :: rest) [] env) P s := by
  have hIF : I ∉ F := fun q => hI (hFW I q)
  refine codeC_loop rfl rfl (fun k s' => ∃ h' tk ds' σ₁, s' = { s with heap := h', toks := tk } ∧ k = ds'.length + 1 ∧ Ext (I :: F) s.heap h' ∧ EnvR prog w B (I :: W) F env sc σ₁ h' ∧ St ds' h' ∧ hotFor L tab sc target t args rest ds' σ₁ = some (σ', none)) ?_ (ds.length + 1)
    ⟨s.heap, s.toks, ds, σ, rfl, rfl, Ext.refl _ _, R, st, e⟩
  rintro k s' ⟨h₁, tk₁, ds', σ₁, rfl, rfl, e₁, R₁, st₁, f₁⟩
  show wpC _ A ((forTurn target (.ref I) (.Assign [.Name t tp] (.Call (.Name sByteswap fp) args [] cp) ap :: rest) [] env).onRaise (fun x => do noteFrame x env; theTreesLotGoes x)) _ _
  refine wpC_onRaise ?_
  simp only [forTurn]
  refine wpC_then (wpAny_standAt (wpC_bind (wpC_onRaise (wpC_of ?_))))
  cases ds' with
  | nil =>
    refine T.done _ _ _ st₁ fun h₂ tk₂ e₂ => wpC_pure (.inr ⟨rfl, codeC_of (codeAny_block (wpAny_execs_nil ?_))⟩)
    unfold hotFor at f₁
    cases f₁
    refine h _ _ (e₁.trans (e₂.mono fun x hx => by rw [List.mem_singleton.mp hx]; simp)) ?_
    refine R₁.move e₂ (fun x hx => by rw [List.mem_singleton.mp hx]; simp) (fun x hx => by rw [List.mem_singleton.mp hx]; exact hIF) (fun x hx => List.mem_cons_of_mem _ hx) hFW fun a ha hx => ?_
    rw [List.mem_singleton.mp hx] at ha; exact absurd ha hI
  | cons d r =>
    refine T.item d r _ _ _ st₁ R₁.low fun v h₂ tk₂ hMd e₂ => ?_
    refine wpC_then (T.go d r v _ _ _ hMd fun h₃ hv st₃ e₃ => ?_)
    have R₃ : EnvR prog w B (I :: W) F env sc σ₁ h₃ := R₁.move (e₂.trans e₃) (fun x hx => by rw [List.mem_singleton.mp hx]; simp) (fun x hx => by rw [List.mem_singleton.mp hx]; exact hIF) (fun x hx => hx) R₁.sub fun a ha hx => by
      rw [List.mem_singleton.mp hx]; exact T.here _ _ st₃
    unfold hotFor at f₁
    split at f₁
    · cases f₁
    · rename_i σ₂ hb
      refine wpC_then (bindT_ok (s := { s with heap := h₃, toks := tk₂ }) R₃ hr.hh hb hv fun h₄ tk₄ e₄ _ R₄ => ?_)
      split at f₁
      · cases f₁
      · rename_i as has
        split at f₁
        · cases f₁
        · rename_i res hres
          split at f₁
          · rename_i σ₃ hbody
            refine wpC_bind (wpC_execs_cons (wpC_Assign_Name (by rfl) (evalC_swap K ok hr hn1 (s := { s with heap := h₄, toks := tk₄ }) R₄ hg has hres fun u h₅ tk₅ e₅ b₅ => ?_)))
            refine (R₄.up e₅).bind (s := { s with heap := h₅, toks := tk₅ }) (.inl hkt) b₅ fun h₆ tk₆ e₆ _ R₆ => wpC_of ?_
            refine ok.xs hbody (W₀ := []) hr.less (s := { s with heap := h₆, toks := tk₆ }) R₆ (fun a ha => by cases ha) _ _ ?_
            rintro fl h₇ tk₇ e₇ ⟨rfl, R₇⟩
            have eF : Ext F h₃ h₇ := ((e₄.trans (ext0 e₅)).trans e₆).trans e₇
            refine wpC_pure (.inl ⟨rfl, r.length + 1, by simp, h₇, tk₇, r, σ₃, rfl, rfl, ?_, R₇, T.frame _ _ _ st₃ (eF.mono fun x hx => R₃.sub x hx) (fun o q => eF I o hIF q), f₁⟩)
            exact (e₁.trans ((e₂.trans e₃).mono fun x hx => by rw [List.mem_singleton.mp hx]; simp)).trans (eF.mono fun x hx => List.mem_cons_of_mem _ hx)
          · cases f₁

theorem hot_for (K : Bas tab mg mb B) (ok : LvOk prog w B n L) (hr : Room (n + 1) A) (hn1 : 1 ≤ n) (R : EnvR prog w B W F env sc σ s.heap) {target iter : Expr} {t : Str} {tp fp cp ap pos : Pos} {args : List Expr} {rest : List Stmt} (hg : isGlob sc sByteswap = true) (hkt : kindIs sc t = some .local)
    {ds : List D} {σ' : Sg} (hi : iterS L sc σ target iter = some ds) (hf : hotFor L tab sc target t args rest ds σ = some (σ', none)) {Q : Flow → Shared → Prop} (h : ∀ h' tk, Ext F s.heap h' → EnvR prog w B W F env sc σ' h' → Q .next { s with heap := h', toks := tk }) :
    wpC (model prog w) A (exec (.For target iter (.Assign [.Name t tp] (.Call (.Name sByteswap fp) args [] cp) ap :: rest) [] pos) env) Q s := by
  have key := iterS_ok K ok hr.less R hi (E := fun _ _ => False) (Q := fun it s₂ => wpC (model prog w) A (runOwn (.forLoop target it (.Assign [.Name t tp] (.Call (.Name sByteswap fp) args [] cp) ap :: rest) [] env) env) Q s₂) ?_
  · rw [exec_For]
    refine wpC_then (wpAny_standAt (wpC_then (wpAny_mono key.2 (fun x s₁ h₁ => wpC_bind (wpC_of_eq (fold_of key.1 env x) (wpC_then (wpAny_standAt (wpC_then (wpAny_holding h₁)))))) fun _ _ x => x)))
  · intro I h₁ tk₁ e₁ hI R₁ its
    obtain ⟨St, Md, T, st⟩ := its [] (fun a ha => by cases ha)
    have hIW : I ∉ W := fun q => by obtain ⟨o, ho⟩ := R.here I q; rw [hI] at ho; cases ho
    unfold runOwn
    refine wpC_onRaise (wpC_run ?_)
    refine hot_loop K ok hr hn1 hg hkt T hIW (s := { s with heap := h₁, toks := tk₁ }) R₁ R.sub st hf fun h₂ tk₂ e₂ R₂ => h _ _ (fun b o nb q => ?_) R₂
    refine e₂ b o (fun z => ?_) (e₁ b o (by simp) q)
    rcases List.mem_cons.mp z with z | z
    · subst z; rw [hI] at q; cases q
    · exact nb z

/-- the law's own block -/
theorem lawXs_ok (K : Bas tab mg mb B) (ok : LvOk prog w B n L) (hr : Room (n + 1) A) (hn1 : 1 ≤ n) {W₀ : List Addr} (hW₀ : ∀ a ∈ W₀, a ∈ W ∧ a ∉ F) : ∀ (sts : List Stmt) {σ : Sg} {d : D} {s : Shared}, lawXs L tab sc sts σ = some d → EnvR prog w B W F env sc σ s.heap →
    ∀ (Q : Flow → Shared → Prop), (∀ v h' tk, Ext F s.heap h' → DB prog w W₀ h' v d → Q (.ret v) { s with heap := h', toks := tk }) → wpC (model prog w) A (execs sts env) Q s
  | [], σ, d, s, e, R, Q, h => by
    unfold lawXs at e; cases e
  | st :: rest, σ, d, s, e, R, Q, h => by
    have plain : ∀ {st' : Stmt}, (match stS L sc σ st' with
        | some (σ', none) => lawXs L tab sc rest σ'
        | some (_, some d) => some d
        | none => none) = some d → wpC (model prog w) A (execs (st' :: rest) env) Q s := by
      intro st' e
      refine wpC_execs_cons (wpC_of ?_)
      split at e
      · rename_i σ1 hst
        refine stS_ok K ok hst hr.less R hW₀ _ _ fun fl h₁ tk₁ e₁ hres => ?_
        obtain ⟨rfl, R₁⟩ := hres
        exact lawXs_ok K ok hr hn1 hW₀ rest (s := { s with heap := h₁, toks := tk₁ }) e R₁ Q fun v h₂ tk₂ e₂ b₂ => h v h₂ tk₂ (e₁.trans e₂) b₂
      · rename_i σ1 d' hst
        cases e
        refine stS_ok K ok hst hr.less R hW₀ _ _ fun fl h₁ tk₁ e₁ hres => ?_
        obtain ⟨v, rfl, hb⟩ := hres
        exact h v h₁ tk₁ e₁ hb
      · cases e
    unfold lawXs at e
    split at e
    · rename_i target iter t f args body hht
      obtain ⟨tp, fp, cp, ap, fpos, rfl⟩ := hotOf_is hht
      split at e
      · rename_i hc
        obtain ⟨rfl, hg, hkt⟩ := hc
        split at e
        · rename_i items hi
          split at e
          · rename_i σ1 hf
            refine wpC_execs_cons (hot_for K ok hr hn1 R hg hkt hi hf fun h₁ tk₁ e₁ R₁ => ?_)
            exact lawXs_ok K ok hr hn1 hW₀ rest (s := { s with heap := h₁, toks := tk₁ }) e R₁ Q fun v h₂ tk₂ e₂ b₂ => h v h₂ tk₂ (e₁.trans e₂) b₂
          · cases e
        · cases e
      · exact plain e
    · exact plain e
end
end Mine
end PartH6

section PartL1
open PySem PySem.W PySem.Calls PyProof.Rows
open Sem (wp)
set_option Elab.async false
namespace Mine
noncomputable def sLaw : Str := Str.ofString "law"
noncomputable def sMany : Str := Str.ofString "many"
noncomputable def sOnes : Str := Str.ofString "ones"
noncomputable def sScript : Str := Str.ofString "script"
noncomputable def shape1 (st : Stmt) : Option (Str × Str) :=
  (asN st).bind fun a => (asAdd a.2).bind fun b => (asI b.1).bind fun i => (asMod b.2).bind fun c => (asCall c.1).bind fun d => (asName d.1).bind fun f => (asName d.2).bind fun y => (asI c.2).bind fun j => if i = 1 ∧ j = 5 ∧ f = sSum then some (a.1, y) else none
noncomputable def shape2 (st : Stmt) : Option (Str × Str × Str) :=
  (asN st).bind fun a => (asMod a.2).bind fun b => (asSub b.1).bind fun c => (asAdd c.1).bind fun d => (asName d.1).bind fun y => (asList d.2).bind fun e => (asI e).bind fun i => (asI c.2).bind fun j => (asAdd b.2).bind fun g => (asName g.1).bind fun z => (asI g.2).bind fun k => if i = 0 ∧ j = 0 ∧ k = 1 then some (a.1, y, z) else none
noncomputable def lawOk (d : DefRec) : Bool :=
  enterOk d 1 && decide (d.params.args.map (·.arg) = [sScript]) && decide ((d.body[0]?).bind shape1 = some (sMany, sScript)) && decide ((d.body[1]?).bind shape2 = some (sOnes, sScript, sMany)) &&
    decide (kindIs d.scope sMany = some .local) && decide (kindIs d.scope sScript = some .local) && decide (kindIs d.scope sOnes = some .cell) && isGlob d.scope sSum
section
variable {tab : Str → Option DefRec} {sc : Scope} {σ : Sg}
theorem ev_succ {k : Nat} {e : Expr} : (lv tab (k + 1)).ev sc σ e = evS (lv tab k) tab sc σ e := rfl
theorem ev_name {k : Nat} {y : Str} {p : Pos} {d : D} (hd : y ≠ Str.ofString "__debug__") (hy : held sc σ y = some (.val d)) : (lv tab (k + 1)).ev sc σ (.Name y p) = some d := by
  show evS (lv tab k) tab sc σ (.Name y p) = _
  simp only [evS, if_neg hd, hy]
theorem ev_int {k kk : Nat} {i : Int} {p : Pos} : (lv tab (k + 1)).ev sc σ (.Constant (.int i) kk p) = some (.int i) := rfl
theorem ev_bin {k : Nat} {l r : Expr} {op : Operator} {p : Pos} {a b d : D} (hl : (lv tab k).ev sc σ l = some a) (hr : (lv tab k).ev sc σ r = some b) (e : binD op a b = some d) : (lv tab (k + 1)).ev sc σ (.BinOp l op r p) = some d := by
  show evS (lv tab k) tab sc σ (.BinOp l op r p) = _
  simp only [evS, hl, hr, e]
theorem fdiv5 (a : Int) : binD .Mod (.int a) (.int 5) = some (.int (a.fmod 5)) := by simp [binD]

theorem ev_n {k : Nat} {e : Expr} {y : Str} {d : D} (h : asName e = some y) (hd : y ≠ Str.ofString "__debug__") (hy : held sc σ y = some (.val d)) : (lv tab (k + 1)).ev sc σ e = some d := by
  obtain ⟨p, rfl⟩ := asName_is h
  exact ev_name hd hy
theorem ev_i {k : Nat} {e : Expr} {i : Int} (h : asI e = some i) : (lv tab (k + 1)).ev sc σ e = some (.int i) := by
  obtain ⟨_, _, rfl⟩ := asI_is h
  exact ev_int
theorem ev_add {k : Nat} {e : Expr} {q : Expr × Expr} {a b d : D} (h : asAdd e = some q) (hl : (lv tab k).ev sc σ q.1 = some a) (hr : (lv tab k).ev sc σ q.2 = some b) (e' : binD .Add a b = some d) : (lv tab (k + 1)).ev sc σ e = some d := by
  obtain ⟨p, rfl⟩ := asAdd_is h
  exact ev_bin hl hr e'
theorem ev_mod {k : Nat} {e : Expr} {q : Expr × Expr} {a b d : D} (h : asMod e = some q) (hl : (lv tab k).ev sc σ q.1 = some a) (hr : (lv tab k).ev sc σ q.2 = some b) (e' : binD .Mod a b = some d) : (lv tab (k + 1)).ev sc σ e = some d := by
  obtain ⟨p, rfl⟩ := asMod_is h
  exact ev_bin hl hr e'
theorem plain_add {e : Expr} {q : Expr × Expr} (h : asAdd e = some q) : plainE e = true := by
  obtain ⟨p, rfl⟩ := asAdd_is h
  rfl
theorem plain_mod {e : Expr} {q : Expr × Expr} (h : asMod e = some q) : plainE e = true := by
  obtain ⟨p, rfl⟩ := asMod_is h
  rfl
theorem st_name {L : Lv} {st : Stmt} {q : Str × Expr} {d : D} (h : asN st = some q) (hp : plainE q.2 = true) (he : L.ev sc σ q.2 = some d) (hk : kindIs sc q.1 = some .local ∨ kindIs sc q.1 = some .cell) : stS L sc σ st = some (upd σ q.1 (.val d), none) := by
  obtain ⟨_, _, rfl⟩ := asN_is h
  rcases hk with hk | hk <;> simp only [stS, asgS, hp, he, hk, if_true]
theorem ev_sum {k : Nat} {e : Expr} {q : Expr × Expr} {y : Str} {l : List It} {ns : List Int} (h : asCall e = some q) (hf : asName q.1 = some sSum) (hq : asName q.2 = some y) (hg : isGlob sc sSum = true) (hd : y ≠ Str.ofString "__debug__") (hy : held sc σ y = some (.val (.list l))) (hl : l.length ≤ 1000) (hi : intsOf l = some ns) : (lv tab (k + 2)).ev sc σ e = some (.int ns.sum) := by
  have e1 : (lv tab (k + 1)).ev sc σ q.2 = some (.list l) := ev_n hq hd hy
  obtain ⟨cp, rfl⟩ := asCall_is h
  obtain ⟨fp, hf⟩ := asName_is hf
  obtain ⟨yp, hq⟩ := asName_is hq
  rw [hf]
  refine (ev_succ (k := k + 1)).trans ?_
  have h1 : ¬ sSum = sIsi := by decide +kernel
  have h2 : isPrim sSum = true := by decide +kernel
  have h3 : ¬ sSum = sLen := by decide +kernel
  have hs : starless q.2 = true := by rw [hq]; rfl
  simp only [evS, hg, if_true, if_neg h1, h2, evList, hs, e1, primD, if_pos hl, if_neg h3, hi, Option.map_some]
theorem ev_get0 {k : Nat} {e : Expr} {q : Expr × Expr} {l : List It} {o : Int} (h : asSub e = some q) (hj : asI q.2 = some 0) (hl : (lv tab (k + 1)).ev sc σ q.1 = some (.list l)) (hn : 0 < l.length) (hm : l.length ≤ 1000) (ho : (l[0]?).map itD = some (.int o)) : (lv tab (k + 2)).ev sc σ e = some (.int o) := by
  have e1 : (lv tab (k + 1)).ev sc σ q.2 = some (.int 0) := ev_i hj
  obtain ⟨p, rfl⟩ := asSub_is h
  obtain ⟨_, _, hj⟩ := asI_is hj
  refine (ev_succ (k := k + 1)).trans ?_
  rw [hj] at e1 ⊢
  simp only [evS, subS, idxOk, if_true, hl, e1, itemD]
  rw [if_pos ⟨by decide, by omega⟩]
  exact ho
theorem ev_one {k : Nat} {e a : Expr} (h : asList e = some a) (hi : asI a = some 0) : (lv tab (k + 2)).ev sc σ e = some (.list [It.int 0]) := by
  have e0 : (lv tab (k + 1)).ev sc σ a = some (.int 0) := ev_i hi
  obtain ⟨p, rfl⟩ := asList_is h
  obtain ⟨_, _, hi⟩ := asI_is hi
  refine (ev_succ (k := k + 1)).trans ?_
  have hs : starless a = true := by rw [hi]; rfl
  simp only [evS, evList, hs, e0, if_true]
  rfl

theorem first_ok {k : Nat} {l : List It} {ns : List Int} {st : Stmt} {x y : Str} (hs : shape1 st = some (x, y)) (hx : kindIs sc x = some .local) (hg : isGlob sc sSum = true) (hd : y ≠ Str.ofString "__debug__") (hy : held sc σ y = some (.val (.list l))) (hl : l.length ≤ 1000) (hi : intsOf l = some ns) :
    stS (lv tab (k + 4)) sc σ st = some (upd σ x (.val (.int (1 + ns.sum.fmod 5))), none) := by
  simp only [shape1, Option.bind_eq_some_iff] at hs
  obtain ⟨a, h1, b, h2, i, h3, c, h4, d, h5, f, h6, y', h7, j, h8, h⟩ := hs
  by_cases hc : i = 1 ∧ j = 5 ∧ f = sSum
  · rw [if_pos hc] at h
    obtain ⟨rfl, rfl, rfl⟩ := hc
    cases h
    exact st_name h1 (plain_add h2) (ev_add h2 (ev_i h3) (ev_mod h4 (ev_sum h5 h6 h7 hg hd hy hl hi) (ev_i h8) (fdiv5 _)) rfl) (.inl hx)
  · rw [if_neg hc] at h
    cases h

theorem second_ok {k : Nat} {l : List It} {m o : Int} {st : Stmt} {x y z : Str} (hs : shape2 st = some (x, y, z)) (hx : kindIs sc x = some .cell) (hd : y ≠ Str.ofString "__debug__") (hd2 : z ≠ Str.ofString "__debug__") (hy : held sc σ y = some (.val (.list l))) (hz : held sc σ z = some (.val (.int m)))
    (hl : l.length ≤ 900) (ho : ((l ++ [It.int 0])[0]?).map itD = some (.int o)) (hm : m + 1 ≠ 0) :
    stS (lv tab (k + 5)) sc σ st = some (upd σ x (.val (.int (o.fmod (m + 1)))), none) := by
  simp only [shape2, Option.bind_eq_some_iff] at hs
  obtain ⟨a, h1, b, h2, c, h3, d, h4, y', h5, e, h6, i, h7, j, h8, g, h9, z', h10, kk, h11, h⟩ := hs
  by_cases hc : i = 0 ∧ j = 0 ∧ kk = 1
  · rw [if_pos hc] at h
    obtain ⟨rfl, rfl, rfl⟩ := hc
    cases h
    have n1 : (l ++ [It.int 0]).length = l.length + 1 := by rw [List.length_append, List.length_singleton]
    have ea : binD .Add (.list l) (.list [It.int 0]) = some (.list (l ++ [It.int 0])) := by
      simp only [binD, List.length_singleton]
      rw [if_pos (by omega)]
    have em : binD .Mod (.int o) (.int (m + 1)) = some (.int (o.fmod (m + 1))) := by simp only [binD, if_neg hm]
    exact st_name h1 (plain_mod h2) (ev_mod h2 (ev_get0 h3 h8 (ev_add h4 (ev_n h5 hd hy) (ev_one h6 h7) ea) (by omega) (by omega) ho) (ev_add h9 (ev_n h10 hd2 hz) (ev_i h11) rfl) em) (.inr hx)
  · rw [if_neg hc] at h
    cases h

theorem intsOf_map : ∀ ns : List Int, intsOf (ns.map It.int) = some ns
  | [] => by unfold intsOf; rw [List.map_nil, List.mapM_nil]; rfl
  | n :: r => by
    have ih := intsOf_map r
    unfold intsOf at ih ⊢
    rw [List.map_cons, List.mapM_cons, ih]
    rfl
end
end Mine
end PartL1

section PartL2
open PySem PySem.W PySem.Calls PyProof.Rows
open Sem (wp)
set_option Elab.async false
namespace Mine
section
variable {prog : Program} {w : World} {s : Shared} {tab : Str → Option DefRec} {mg mb : Str → Option Value}

theorem names_apart : sScript ≠ sMany ∧ sScript ≠ sOnes ∧ sMany ≠ sOnes ∧ sScript ≠ Str.ofString "__debug__" ∧ sMany ≠ Str.ofString "__debug__" := by decide +kernel
theorem caller_room (env : Env) : Room 61 (callerA.deeper env) := ⟨rfl, by show 1 + claimMargin + 1 + 61 + 2 < recursionLimit; decide +kernel, by show 4 + 3 + 10 * 61 + 20 < cLine; decide +kernel⟩
theorem caller_depth : callerA.depth < recursionLimit := by show 1 + claimMargin < recursionLimit; decide +kernel

theorem law_ok (K : Bas tab mg mb s.heap) {d : DefRec} {fa l : Addr} {vs : Array Value} {ns : List Int} (ht : tab sLaw = some d) (hm : mg sLaw = some (.ref fa)) (h1 : lawOk d = true) (h2 : ∀ i : Nat, i < 5 → ∀ j : Nat, j < i + 2 → isTrueD (lawXs (lv tab 60) tab d.scope (d.body.drop 2) [(sMany, .val (.int ((i : Int) + 1))), (sOnes, .val (.int (j : Int)))]) = true) (hl : s.heap.PlainList l vs) (hi : IntsAre vs.toList ns) (hn : ns.length ≤ 63) :
    wpC (model prog w) callerA (call (.ref fa) [.ref l]) (fun v s' => v = .bool true ∧ ∃ h' tk, s' = { s with heap := h', toks := tk } ∧ ∀ b o, s.heap.get? b = some o → h'.get? b = some o) s := by
  simp only [lawOk, Bool.and_eq_true, decide_eq_true_eq] at h1
  obtain ⟨⟨⟨⟨⟨⟨⟨c1, c2⟩, c3⟩, c4⟩, c5⟩, c6⟩, c7⟩, c8⟩ := h1
  obtain ⟨st1, q1, s1⟩ := Option.bind_eq_some_iff.mp c3
  obtain ⟨st2, q2, s2⟩ := Option.bind_eq_some_iff.mp c4
  have hbody : ∃ rest, d.body = st1 :: st2 :: rest := by
    cases hb : d.body with
    | nil => rw [hb] at q1; simp at q1
    | cons a t =>
      cases t with
      | nil => rw [hb] at q2; simp at q2
      | cons b r =>
        rw [hb] at q1 q2
        simp at q1 q2
        subst q1 q2
        exact ⟨r, rfl⟩
  obtain ⟨rest, hbody⟩ := hbody
  obtain ⟨n1, n2, n3, n4, n5⟩ := names_apart
  have hp : Paired (DB prog w [] s.heap) [.ref l] [.list (ns.map It.int)] := .cons ⟨l, rfl, by simp, vs, hl, intsAre_it hi⟩ .nil
  refine wpC_call (callC_open (W := []) K caller_depth ⟨fun _ _ e => e, fun a ha => (by cases ha), fun a ha => (by cases ha)⟩ ht hm (ds := [.list (ns.map It.int)]) c1 hp fun env h₁ tk₁ R keep fr => ?_)
  rw [c2] at R
  rw [hbody]
  have hroom := caller_room env
  have LK := lv_ok (prog := prog) (w := w) K 60
  have hlen : (ns.map It.int).length ≤ 900 := by rw [List.length_map]; omega
  have f0 : (0 : Int) ≤ ns.sum.fmod 5 := Int.fmod_nonneg_of_pos _ (by decide)
  have f1 : ns.sum.fmod 5 < 5 := Int.fmod_lt_of_pos _ (by decide)
  -- many
  have hy0 : held d.scope (zipS [sScript] [.list (ns.map It.int)]) sScript = some (.val (.list (ns.map It.int))) := by
    simp only [held, c6, zipS, getS, if_true]
  have E1 := first_ok (tab := tab) (k := 56) s1 c5 c8 n4 hy0 (by omega) (intsOf_map ns)
  refine wpC_execs_cons (wpC_of ?_)
  refine stS_ok K LK E1 hroom.less (s := { s with heap := h₁, toks := tk₁ }) (W₀ := []) R (fun a ha => by cases ha) _ _ fun fl h₂ tk₂ e₂ hres => ?_
  obtain ⟨rfl, R₂⟩ := hres
  -- ones
  obtain ⟨o, ho⟩ : ∃ o, (((ns.map It.int) ++ [It.int 0])[0]?).map itD = some (.int o) := by
    cases ns with
    | nil => exact ⟨0, rfl⟩
    | cons a r => exact ⟨a, rfl⟩
  have hy1 : held d.scope (upd (zipS [sScript] [.list (ns.map It.int)]) sMany (.val (.int (1 + ns.sum.fmod 5)))) sScript = some (.val (.list (ns.map It.int))) := by
    simp only [held, c6, getS_upd, if_neg n1, zipS, getS, if_true]
  have hz1 : held d.scope (upd (zipS [sScript] [.list (ns.map It.int)]) sMany (.val (.int (1 + ns.sum.fmod 5)))) sMany = some (.val (.int (1 + ns.sum.fmod 5))) := by
    simp only [held, c5, getS_upd, if_true]
  have E2 := second_ok (tab := tab) (k := 55) s2 c7 n4 n5 hy1 hz1 hlen ho (by omega)
  refine wpC_execs_cons (wpC_of ?_)
  refine stS_ok K LK E2 hroom.less (s := { s with heap := h₂, toks := tk₂ }) (W₀ := []) R₂ (fun a ha => by cases ha) _ _ fun fl h₃ tk₃ e₃ hres => ?_
  obtain ⟨rfl, R₃⟩ := hres
  -- the rest
  generalize hmm : ns.sum.fmod 5 = mm at *
  have g0 : (0 : Int) ≤ o.fmod (1 + mm + 1) := Int.fmod_nonneg_of_pos _ (by omega)
  have g1 : o.fmod (1 + mm + 1) < 1 + mm + 1 := Int.fmod_lt_of_pos _ (by omega)
  generalize o.fmod (1 + mm + 1) = oo at *
  obtain ⟨i, rfl⟩ := Int.eq_ofNat_of_zero_le f0
  obtain ⟨j, rfl⟩ := Int.eq_ofNat_of_zero_le g0
  have hi5 : i < 5 := by omega
  have hj : j < i + 2 := by omega
  have A2 := h2 i hi5 j hj
  have hdrop : d.body.drop 2 = rest := by rw [hbody]; rfl
  rw [hdrop] at A2
  have A3 : lawXs (lv tab 60) tab d.scope rest [(sMany, .val (.int ((i : Int) + 1))), (sOnes, .val (.int (j : Int)))] = some (.bool true) := by
    unfold isTrueD at A2
    split at A2
    · assumption
    · cases A2
  have R₄ : EnvR prog w s.heap (footOf env ++ []) (footOf env) env d.scope [(sMany, .val (.int ((i : Int) + 1))), (sOnes, .val (.int (j : Int)))] h₃ := R₃.forget fun x sl hx => by
    rw [getS_upd, getS_upd]
    rw [getS_cons, getS_cons] at hx
    by_cases x1 : x = sMany
    · rw [if_pos x1] at hx
      rw [if_neg (by rw [x1]; exact n3), if_pos x1, ← hx]
      rw [show (1 : Int) + (i : Int) = (i : Int) + 1 from Int.add_comm _ _]
    · rw [if_neg x1] at hx
      by_cases x2 : x = sOnes
      · rw [if_pos x2] at hx ⊢
        exact hx
      · rw [if_neg x2] at hx
        cases hx
  refine lawXs_ok K LK hroom (by decide) (W₀ := []) (fun a ha => by cases ha) rest (s := { s with heap := h₃, toks := tk₃ }) A3 R₄ _ fun v h₄ tk₄ e₄ b₄ => ?_
  have b₄ : v = .bool true := b₄
  subst b₄
  refine ⟨rfl, h₄, tk₄, rfl, fun b o q => ?_⟩
  have nf : b ∉ footOf env := fun z => by rw [fr b z] at q; cases q
  exact e₄ b o nf (e₃ b o nf (e₂ b o nf (keep b o q)))
end
end Mine
end PartL2

section PartH7
open PySem PySem.W PySem.Calls PyProof.Rows
open Sem (wp)
set_option Elab.async false
namespace Mine

theorem caller_clean : CleanC (⟨.builtin "claim.caller" {}, none, none, [], none⟩ : Ctx) := ⟨by show badIds.contains "claim.caller" = false; decide +kernel, fun x hx => by cases hx⟩

/-- the caller's thread ends, told on the clean stack -/
theorem endsC {prog : Program} {w : World} {t : Sem Fin} {s : Shared} {R : Result → Shared → Prop} (hreg : s.asleep)
    (h : wpC (model prog w) callerA t (fun fin s' => ∃ f, fin = .done f ∧ (R (.ok f) s' ∧ leftWithCleanup s'.gens = false)) s) :
    ∃ n r s' s'', runN (denote table) prog w n s ⟨t, .builtin "claim.caller" {}, default, []⟩ = .halted (outcomeOf r) s' ∧
      schedN (denote table) prog w n (.single s ⟨t, .builtin "claim.caller" {}, default, []⟩) = .halted (outcomeOf r) s' ∧ s'.forget = s''.forget ∧ R r s'' := by
  obtain ⟨n, r, s₁, s₂, hs, hn, hfo, hR⟩ := wp_halts_full (M := model prog w) (R := R) hreg (by
    refine Sem.wp_mono (model prog w) _ t (fun fin p' s' h' => ?_) (fun _ _ _ h' => h'.elim) default s (h _ default caller_in caller_clean)
    obtain ⟨f, rfl, hf⟩ := h'
    exact hf)
  exact ⟨n, r, s₂, s₁, hn, hs, hfo, hR⟩

theorem callFromC {c : ClaimW} {tree : List Value → Sem Fin} {w : World} {s : Shared} {free : Addr → Prop} {gens : Prop} {kept : Heap → Prop} (hz : s.asleep) (hgens : s.gens = #[])
    (hspec : ∀ args, c.pre args = true → WData.layableAll args = true → ∀ ord : List DictEntry → List DictEntry, (∀ l, (ord l).Perm l) →
      ∃ vs s₁, layAllW c.records (classAt s.heap) w.params ord args s = some (vs, s₁) ∧
        wpC (model c.prog w) callerA (tree vs) (fun fin s' => ∃ f, fin = .done f ∧ (c.Ends s args vs s₁ (.ok f) s' ∧ s'.os = s.os ∧ AllBare s'.gens ∧ kept s'.heap)) s₁) :
    c.CallFrom (fun vs => ⟨tree vs, .builtin "claim.caller" {}, default, []⟩) w free gens kept s := by
  intro args hpre hlay ord hord
  obtain ⟨vs, s₁, hlaid, hcode⟩ := hspec args hpre hlay ord hord
  have hal := layAllW_rest _ _ _ hlaid
  obtain ⟨k, r, s', s'', hrun, hsched, hfo, hcase, hos, hkp⟩ := endsC (prog := c.prog) (w := w) (t := tree vs) (s := s₁)
    (R := fun r s' => c.Ends s args vs s₁ r s' ∧ s'.os = s.os ∧ kept s'.heap) (Shared.asleep_of_life hal.2.2.2 hz)
    (wpC_mono hcode (by
      rintro fin s' ⟨f, e, h1, h2, h3, h4⟩
      exact ⟨f, e, ⟨h1, h2, h4⟩, leftWithCleanup_false_of_bare h3⟩))
  obtain ⟨eh, _, _, eo, _⟩ := Shared.forget_eq hfo
  have hcase := hcase.congr eh
  have hkp : kept s'.heap := by first | exact eh ▸ hkp | (rw [eh] at hkp; exact hkp) | (rw [← eh] at hkp; exact hkp)
  rw [← eo] at hos
  have hlife : s'.heap.life = s.heap.life := (runN_life _ _ _ hrun).trans hal.2.2.2
  refine ⟨vs, s₁, hlaid, k, _, s', hsched, ?_, (fun _ i x hx => by rw [hgens] at hx; simp at hx), hkp, by rw [hlife], Shared.rest_eq hos⟩
  rcases hcase with ⟨v, rfl, d1, d2, d3, d4, d5⟩ | ⟨e, ob, cls, rfl, d1, d2, d3, d4, d5⟩
  · exact .inl ⟨v, rfl, d1, d2, d3, fun b o y _ => d4 b o y, d5⟩
  · exact .inr ⟨e, ob, cls, rfl, d1, d2, d3, d4, fun b o y _ => d5 b o y⟩

theorem openC {r : RowW} {run : Value → List Value → Sem Value} {tree : List Value → Sem Fin} {q : Program} {loose defs kps : List Str} {writes : Bool} {Xt : Shared → Bool} {XP : (Str → Option Value) → Heap → Prop} {α : Type} {Yf : Shared → α} {Ya : World → α} {YP : World → Heap → Prop} {N : Nat}
    (left : LeftO r.prog q loose Xt Yf Ya N) (hY : ∀ w s, Yf s = Ya w → YP w s.heap) (hYk : ∀ w h h', YP w h → (∀ b o, h.get? b = some o → h'.get? b = some o) → YP w h') (hX : ∀ s, Xt s = true → XP (s.heap.nsMap mainGlobals) s.heap) (hXk : ∀ mg h h', XP mg h → (∀ b o, h.get? b = some o → h'.get? b = some o) → XP mg h')
    (hRf : ∀ s, Xt s = true → RecFacts r.records s.heap) (hwr : (!writes || r.records.isEmpty) = true) (ok : (chainsOk q && opensWell r.prog && (frees r && r.within.isEmpty)) = true) (hb : r.prog.bare) (hw : r.promised)
    (ht : ∀ vs (w : World) (s : Shared) mg f (Q : Fin → Shared → Prop), s.heap.Ns mainGlobals mg → mg r.name = some f → wpC (model r.prog w) callerA (run f vs) (fun v s' => Q (.done (.ret v)) s') s → wpC (model r.prog w) callerA (tree vs) Q s)
    (pin : ∀ w s, s.heap.isNs mainGlobals = true → PySem.W.Ground q loose [] XP w s (s.heap.nsMap mainGlobals) (s.heap.nsMap builtinsNs) s.heap → ∀ n ∈ defs, isTheDefsW r.prog s.heap n)
    (call : ∀ (w : World) (s₀ s₁ : Shared) (mg mb : Str → Option Value), PySem.W.Ground q loose r.records XP w s₀ mg mb s₁.heap → YP w s₁.heap → ∀ (args : List WData) (vs : List Value) (as : List Addr),
      r.claim.pre args = true → WData.layableAll args = true → Laid r.records w s₀ s₁ args vs as → sysModules < s₀.heap.objs.size → ∃ f, mg r.name = some f ∧
        wpC (model r.prog w) callerA (run f vs) (fun v s' => GoodWG r.claim (classAt s₀.heap) (ExcName.means s₀.heap) args s₁ (.ok (.ret v)) s') s₁) : r.claim.HoldsOpenBy (fun vs => ⟨tree vs, .builtin "claim.caller" {}, default, []⟩) defs kps writes := by
  obtain ⟨ok, k5⟩ := Bool.and_eq_true_iff.mp ok
  obtain ⟨hch, o1⟩ := Bool.and_eq_true_iff.mp ok
  obtain ⟨k5, k6⟩ := Bool.and_eq_true_iff.mp k5
  obtain ⟨hsame, hu, ha, hap, hm⟩ := frees_parts k5
  refine ⟨⟨hb, o1, by show r.makers.map _ = []; rw [hm]; rfl⟩, hw.witness, fun w => ⟨(left.behind hX hch w).1, fun s' hs' => ?_⟩⟩
  obtain ⟨s₀, hf, hg0, s, hT, hz, hgens, hg, G00, y⟩ := (left.behind (XP := fun mg h => XP mg h ∧ RecFacts r.records h) (fun s hs => ⟨hX s hs, hRf s hs⟩) hch w).2 s' hs'
  have G0 : PySem.W.Ground q loose [] XP w s (s.heap.nsMap mainGlobals) (s.heap.nsMap builtinsNs) s.heap := ⟨G00.T, G00.B, G00.D, G00.TE, G00.TD, G00.W, G00.X.1, G00.cls, G00.has, G00.apart, G00.once, G00.K⟩
  have RF := G00.X.2
  have hT' := hT
  refine ⟨s₀, hf, hg0, s, hT, pin w s hg G0, RF.1, RF.2.1, ?_⟩
  have hgens : s.gens = #[] := Array.eq_empty_of_size_eq_zero (beq_iff_eq.mp hgens)
  have G : PySem.W.Ground q loose r.records XP w s _ _ s.heap := RF.ground G0
  refine callFromC (c := r.claim) hz hgens fun args hpre hlay ord hord => ?_
  obtain ⟨⟨vs, s₁⟩, hlaid⟩ := Option.isSome_iff_exists.mp (layAllW_isSome (P := w.params) (ord := ord) G.has args r.args s (pre_splitW hpre).1)
  have keeps := layAllW_keeps _ _ _ hlaid
  have hal := layAllW_rest _ _ _ hlaid
  obtain ⟨as, hrd, hin, hold⟩ := reads_layAllW hord _ _ _ hlaid hlay s₁.heap (fun _ _ e => e)
  have L : Laid r.records w s s₁ args vs as := ⟨⟨ord, hord, hlaid⟩, hrd, hin, hold, keeps, hal.1.trans hgens, hal.2.2.1⟩
  have G₁ := G.keeps hXk keeps
  obtain ⟨f, hf, h⟩ := call w s s₁ _ _ G₁ (hYk _ _ _ (hY w s y) keeps) args vs as hpre hlay L G.low
  have hi := ident_freeW hu ha hap
  have hwi : r.claim.within = [] := List.isEmpty_iff.mp k6
  exact ⟨vs, s₁, hlaid, ht vs w s₁ _ f _ G₁.T.g hf (wpC_mono h (fun v s' g => ⟨_, rfl, have z := g.laid (c := r.claim) hsame hwi hi L; ⟨z.1, z.2.1, z.2.2, fun q => ⟨namesKept_of hT' hg kps keeps g.2.1.old, noTable hwr q⟩⟩⟩))⟩

noncomputable abbrev WalkC (q : Program) (loose : List Str) (XP : (Str → Option Value) → Heap → Prop) (YP : World → Heap → Prop) (r : RowW) (d : DefRec) (kwd : List (Str × Expr)) : Prop :=
  ∀ (w : World) (s₀ s₁ : Shared) (mg mb : Str → Option Value), PySem.W.Ground q loose r.records XP w s₀ mg mb s₁.heap → YP w s₁.heap → ∀ (a : Addr) (o : Obj) (pm cd doc dV kV : Value), s₁.heap.get? a = some o →
    o.data = .func { docDef d.name d.params d.body d.scope pm cd doc with defaults := dV, kwdefaults := kV } → s₁.heap.CodeRec cd d.name → Dflts mg s₁.heap d.params kwd dV kV → mg d.name = some (.ref a) → s₁.gens = #[] →
    ∀ (args : List WData) (vals : List Value) (as : List Addr), r.claim.pre args = true → WData.layableAll args = true → ReadsAllW r.records (classAt s₀.heap) s₁.heap vals args as → WellAll w.params s₁.heap vals args → (∀ a ∈ as, (a == sysModules) = false) →
      wpC (model r.prog w) callerA (call (.ref a) vals) (fun v s' => GoodWG r.claim (classAt s₀.heap) (ExcName.means s₀.heap) args s₁ (.ok (.ret v)) s') s₁

theorem PySem.W.holds_open {r : OpenRow} {q : Program} {loose : List Str} {Xt : Shared → Bool} {XP : (Str → Option Value) → Heap → Prop} {α : Type} {Yf : Shared → α} {Ya : World → α} {YP : World → Heap → Prop} {d : DefRec} {kwd : List (Str × Expr)} {N : Nat}
    (left : LeftO r.prog q loose Xt Yf Ya N) (hY : ∀ w s, Yf s = Ya w → YP w s.heap) (hYk : ∀ w h h', YP w h → (∀ b o, h.get? b = some o → h'.get? b = some o) → YP w h')
    (hX : ∀ s, Xt s = true → XP (s.heap.nsMap mainGlobals) s.heap) (hXk : ∀ mg h h', XP mg h → (∀ b o, h.get? b = some o → h'.get? b = some o) → XP mg h')
    (hdef : defOf q r.name = some (d, kwd)) (hp : r.prog.theDef r.name = some (d.params, d.body, d.scope)) (hk : kwWritten? d.params.kwonlyargs d.params.kw_defaults = some kwd) (hRf : ∀ s, Xt s = true → RecFacts r.records s.heap) (hwr : (!r.writes || r.records.isEmpty) = true)
    (k1 : r.wellSaid = true) (ok : (chainsOk q && opensWell r.prog && (frees r.toRowW && r.within.isEmpty)) = true) (hb : r.prog.bare) (hw : r.toRowW.promised)
    (call : WalkC q loose XP YP r.toRowW d kwd) : r.Holds := by
  refine ⟨k1, hw, openC (r := r.toRowW) (run := fun f vs => PySem.call f vs) (tree := fun vs => do match ← nsGet mainNs r.name with
      | some f => do ret (← PySem.call f vs)
      | none => unsupported "claim.caller:no-such-global") left hY hYk hX hXk hRf hwr ok hb hw
    (fun vs w s mg f Q hg hf h => wpC_then (wpAny_nsGet hg (by rw [hf]; exact wpC_bind (wpC_mono h (fun _ _ x => wpC_pure x)))))
    (fun w s hg G n hn => ?_) fun w s₀ s₁ mg mb G Y args vs as hpre hlay L low => ?_⟩
  · obtain rfl : n = r.name := by split at hn <;> simp_all
    exact pinned_of_view hg G hdef hp hk
  · obtain ⟨a, o, pm, cd, doc, dV, kV, h1, h2, h3, h4, h5⟩ := G.fn hdef
    exact ⟨.ref a, h1, call w s₀ s₁ mg mb G Y a o pm cd doc dV kV h2 h3 h4 h5 (defOf_name hdef ▸ h1) L.gens args vs as hpre hlay L.reads L.well (L.low low)⟩
end Mine
end PartH7

section PartH8
open PySem PySem.W PySem.Calls PyProof.Rows
open Sem (wp)
set_option Elab.async false
namespace Mine

noncomputable def allFree (p : Program) (loose : List Str) : Bool :=
  [sLen, sSum, sList, sBytes, sDict, sIsi, sTuple, sRange, sBytearray].all fun x =>
    !(startupNames.contains x) && !(loose.contains x) && !((recsOf p).any fun d => d.name == x) && !((litsOf p).any fun q => q.1 == x) && !((clssOf p loose).any fun c => c.name == x)
noncomputable def allNamed (p : Program) : Bool := (recsOf p).all fun d => d.name != Str.ofString "__debug__"
theorem built_boot : ∀ x ∈ [sLen, sSum, sList, sBytes, sDict, sIsi, sTuple, sRange, sBytearray], x ≠ "__name__" ∧ bootBuiltins x = builtOf x := by decide +kernel
theorem builtOf_in {f : Str} {v : Value} (h : builtOf f = some v) : f ∈ [sLen, sSum, sList, sBytes, sDict, sIsi, sTuple, sRange, sBytearray] := by
  unfold builtOf at h
  repeat' (split at h; · rename_i q; rw [q]; simp)
  cases h

theorem bas_of_top {p : Program} {loose : List Str} {mean : ExcName → Option Value} {mg mb : Str → Option Value} {h : Heap} (T : PyProof.Rows.Top p loose mean mg mb h) (h1 : allFree p loose = true) (h2 : allNamed p = true) : Bas (tabOf p) mg mb h := by
  refine ⟨T.g, T.b, T.nolimit, fun f v hf => ?_, fun f d hf => ?_⟩
  · have hm := builtOf_in hf
    obtain ⟨b1, b2⟩ := built_boot f hm
    have := List.all_eq_true.mp h1 f hm
    simp only [Bool.and_eq_true, Bool.not_eq_true'] at this
    obtain ⟨⟨⟨⟨a1, a2⟩, a3⟩, a4⟩, a5⟩ := this
    refine ⟨T.free f ?_ ?_ ?_ ?_ ?_, by rw [T.builtins f b1, b2, hf]⟩
    · intro q; rw [List.contains_iff_mem.mpr q] at a1; cases a1
    · intro q; rw [List.contains_iff_mem.mpr q] at a2; cases a2
    · intro q
      obtain ⟨d, hd, rfl⟩ := List.mem_map.mp q
      rw [List.any_eq_false] at a3
      exact a3 d hd (beq_self_eq_true _)
    · intro q
      obtain ⟨d, hd, rfl⟩ := List.mem_map.mp q
      rw [List.any_eq_false] at a4
      exact a4 d hd (beq_self_eq_true _)
    · intro q
      obtain ⟨d, hd, rfl⟩ := List.mem_map.mp q
      rw [List.any_eq_false] at a5
      exact a5 d hd (beq_self_eq_true _)
  · have hm := List.mem_of_find?_eq_some hf
    have hn : d.name = f := eq_of_beq (List.find?_some (p := fun d : DefRec => d.name == f) hf)
    refine ⟨?_, ?_⟩
    · have := List.all_eq_true.mp h2 d hm
      rw [← hn]
      simpa using this
    · obtain ⟨a, o, pm, code, doc, q1, q2, q3, q4⟩ := T.fn d hm
      exact ⟨a, o, pm, code, doc, hn ▸ q1, q2, q3, q4⟩

theorem ints_of_well {P : Params} {h : Heap} : ∀ {vs : List Value} {ns : List Int}, WellAll P h vs ((ns.map PyData.int).map ofPy) → IntsAre vs ns
  | _, [], .nil => .nil
  | _, n :: ns, .cons (vs := vs) hv ht => by
    cases hv
    exact .cons _ _ (ints_of_well ht)

/-! ## the twenty cases -/
noncomputable abbrev thePw : Program := PySem.Challenge.pw_ha0001_01
noncomputable def lawCase (i o : Nat) : Bool :=
  match tabOf thePw sLaw with
  | some d => isTrueD (lawXs (lv (tabOf thePw) 60) (tabOf thePw) d.scope (d.body.drop 2) [(sMany, .val (.int ((i : Int) + 1))), (sOnes, .val (.int (o : Int)))])
  | none => false
noncomputable def lawHas : Bool :=
  match tabOf thePw sLaw with
  | some d => lawOk d
  | none => false
theorem law_has : lawHas = true := by decide +kernel
theorem case0x0 : lawCase 0 0 = true := by decide +kernel
theorem case0x1 : lawCase 0 1 = true := by decide +kernel
theorem case1x0 : lawCase 1 0 = true := by decide +kernel
theorem case1x1 : lawCase 1 1 = true := by decide +kernel
theorem case1x2 : lawCase 1 2 = true := by decide +kernel
theorem case2x0 : lawCase 2 0 = true := by decide +kernel
theorem case2x1 : lawCase 2 1 = true := by decide +kernel
theorem case2x2 : lawCase 2 2 = true := by decide +kernel
theorem case2x3 : lawCase 2 3 = true := by decide +kernel
theorem case3x0 : lawCase 3 0 = true := by decide +kernel
theorem case3x1 : lawCase 3 1 = true := by decide +kernel
theorem case3x2 : lawCase 3 2 = true := by decide +kernel
theorem case3x3 : lawCase 3 3 = true := by decide +kernel
theorem case3x4 : lawCase 3 4 = true := by decide +kernel
theorem case4x0 : lawCase 4 0 = true := by decide +kernel
theorem case4x1 : lawCase 4 1 = true := by decide +kernel
theorem case4x2 : lawCase 4 2 = true := by decide +kernel
theorem case4x3 : lawCase 4 3 = true := by decide +kernel
theorem case4x4 : lawCase 4 4 = true := by decide +kernel
theorem case4x5 : lawCase 4 5 = true := by decide +kernel
theorem law_case (i : Nat) (hi : i < 5) (o : Nat) (ho : o < i + 2) : lawCase i o = true := by
  have h5 : i = 0 ∨ i = 1 ∨ i = 2 ∨ i = 3 ∨ i = 4 := by omega
  rcases h5 with rfl | rfl | rfl | rfl | rfl
  · have h : o = 0 ∨ o = 1 := by omega
    rcases h with rfl | rfl
    · exact case0x0
    · exact case0x1
  · have h : o = 0 ∨ o = 1 ∨ o = 2 := by omega
    rcases h with rfl | rfl | rfl
    · exact case1x0
    · exact case1x1
    · exact case1x2
  · have h : o = 0 ∨ o = 1 ∨ o = 2 ∨ o = 3 := by omega
    rcases h with rfl | rfl | rfl | rfl
    · exact case2x0
    · exact case2x1
    · exact case2x2
    · exact case2x3
  · have h : o = 0 ∨ o = 1 ∨ o = 2 ∨ o = 3 ∨ o = 4 := by omega
    rcases h with rfl | rfl | rfl | rfl | rfl
    · exact case3x0
    · exact case3x1
    · exact case3x2
    · exact case3x3
    · exact case3x4
  · have h : o = 0 ∨ o = 1 ∨ o = 2 ∨ o = 3 ∨ o = 4 ∨ o = 5 := by omega
    rcases h with rfl | rfl | rfl | rfl | rfl | rfl
    · exact case4x0
    · exact case4x1
    · exact case4x2
    · exact case4x3
    · exact case4x4
    · exact case4x5

theorem law_found : ∃ d, tabOf thePw sLaw = some d ∧ lawOk d = true ∧ ∀ i : Nat, i < 5 → ∀ j : Nat, j < i + 2 → isTrueD (lawXs (lv (tabOf thePw) 60) (tabOf thePw) d.scope (d.body.drop 2) [(sMany, .val (.int ((i : Int) + 1))), (sOnes, .val (.int (j : Int)))]) = true := by
  have h := law_has
  unfold lawHas at h
  have hc := law_case
  unfold lawCase at hc
  cases hd : tabOf thePw sLaw with
  | none => rw [hd] at h; cases h
  | some d =>
    rw [hd] at h
    simp only [hd] at hc
    exact ⟨d, rfl, h, hc⟩

theorem list_of_well {P : Params} {h : Heap} {l : Addr} {ns : List Int} (x : Well P h (.ref l) (ofPy (PyData.list (ns.map PyData.int)))) : ∃ vs : List Value, h.PlainList l vs.toArray ∧ IntsAre vs ns := by
  have x : Well P h (.ref l) (.list (ofPys (ns.map PyData.int))) := x
  rw [ofPys_eq] at x
  cases x with
  | list h1 h2 => exact ⟨_, ⟨_, h1⟩, ints_of_well h2⟩
theorem post_true (args : List WData) : PySem.Challenge.rw_ha0001_01.row.claim.post args (.bool true) args = true := by
  show (WShape.has [] (.bool true) .bool && WTm.holds [] (.eq .res (.lit (.bool true))) { args := args, res := some (.bool true), after := args }) = true
  have h1 : WShape.has [] (.bool true) .bool = true := by first | rfl | simp [WShape.has] | decide
  have h2 : WTm.value [] (.eq .res (.lit (.bool true))) { args := args, res := some (.bool true), after := args } = some (.bool true) := by simp [WTm.value]; decide +kernel
  rw [h1, holdsW_of_value h2]; rfl

/-- the walk, at whatever program the head looks at, so it has the same functions -/
theorem walk_at {p : Program} {XP : (Str → Option Value) → Heap → Prop} {w : World} {s₀ s₁ : Shared} {mg mb : Str → Option Value} {fa l : Addr} {vs : List Value} {ns : List Int} {args : List WData}
    (hp : recsOf p = recsOf thePw) (h1 : allFree p (looseW p []) = true) (h2 : allNamed p = true)
    (G : PySem.W.Ground p [] PySem.Challenge.rw_ha0001_01.row.records XP w s₀ mg mb s₁.heap)
    (hmg : mg sLaw = some (.ref fa)) (hg : s₁.gens = #[]) (hl : s₁.heap.PlainList l vs.toArray) (hi : IntsAre vs ns) (hn : ns.length ≤ 63) (hraise : ∀ cls, PySem.Challenge.rw_ha0001_01.row.claim.raises args cls = false) :
    wpC (model PySem.Challenge.rw_ha0001_01.row.prog w) callerA (call (.ref fa) [.ref l])
      (fun v s' => GoodWG PySem.Challenge.rw_ha0001_01.row.claim (classAt s₀.heap) (ExcName.means s₀.heap) args s₁ (.ok (.ret v)) s') s₁ := by
  obtain ⟨d, ht, hk, hc⟩ := law_found
  have et : tabOf p = tabOf thePw := by funext n; unfold tabOf; rw [hp]
  have K := bas_of_top G.T h1 h2
  rw [et] at K
  refine wpC_mono (law_ok K ht hmg hk hc hl (by simpa using hi) hn) ?_
  rintro v s' ⟨rfl, h', tk, rfl, hk⟩
  exact ⟨.inl ⟨_, .bool true, [], rfl, hraise, .bool true, post_true args, fun _ => ⟨List.nodup_nil, fun a ha => by cases ha⟩⟩, .of_keep hk, rfl, .of_eq hg⟩
end Mine
end PartH8

section PartZ3
open PySem PySem.W PySem.Calls PyProof.Rows
set_option Elab.async false
namespace Mine
set_option maxRecDepth 100000 in
set_option maxHeartbeats 8000000 in
theorem top : PySem.Challenge.rw_ha0001_01.Holds := by
  w_on
  o_law
  k_head
  (case hw => w_witness2)
  intro w s₀ s₁ mg mb G Y fa o pm cd doc dV kV ho hd hcd hD hmg hg args vals as hpre hlay hrd hwl hlo
  clear hd hcd hD
  wrow_args hpre hlay hrd hwl hlo
  replace hmg : mg sLaw = some (.ref fa) := hmg
  rename Well _ _ _ _ => hW
  clear Y ho
  obtain ⟨us, hP, hU⟩ := list_of_well hW
  refine walk_at ?_ ?_ ?_ G hmg hg hP hU ?_ ?_
  · kernel_rfl
  · decide +kernel
  · decide +kernel
  · omega
  · intro cls
    rfl
end Mine
end PartZ3

theorem PySem.Challenge.cw_ha0001_01_holds : PySem.Challenge.rw_ha0001_01.Holds :=
  Mine.top
