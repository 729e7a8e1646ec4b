import PyProof.Rows.All
import Wide.All
import OpenK.AllK
import Wide.FinOn
import PySem.Challenge.RW_qc0002_02
open PySem PySem.W PyProof.Rows
set_option Elab.async false
set_option compiler.extract_closed false
namespace Mine
noncomputable section
section


inductive D where
  | none
  | bool (b : Bool)
  | int (i : Int)
  | str (l : List Nat)
  | tup (ds : List D)
  | list (ds : List D)
  | dict (kvs : List (List Nat × D))

noncomputable abbrev S (l : List Nat) : Str := ⟨l.toArray⟩
noncomputable abbrev Facts := Addr → Obj → Prop
noncomputable abbrev tupO (vs : List Value) (n : Nat) : Obj := { cls := .type "tuple", data := .seq vs.toArray n }
noncomputable abbrev listO (vs : List Value) (n : Nat) : Obj := { cls := .type "list", data := .seq vs.toArray n }
noncomputable abbrev dictO (es : List DictEntry) (n : Nat) : Obj := { cls := .type "dict", data := .dict es.toArray n }

structure Cx where
  prog : Program
  w : World
  K : Frag
  mg : Str → Option Value
  mb : Str → Option Value

noncomputable abbrev Cx.M (c : Cx) : Model := model c.prog c.w
noncomputable abbrev Cx.hash (c : Cx) (k : Str) : Int := PyData.keyHash c.w.params k

mutual
inductive Rep (c : Cx) (P : Facts) : Value → D → Prop
  | none : Rep c P Value.none D.none
  | bool (b : Bool) : Rep c P (Value.bool b) (D.bool b)
  | int (i : Int) (t : Tok) : Rep c P (Value.int i t) (D.int i)
  | str (l : List Nat) (t : Tok) : Rep c P (Value.str (S l) t) (D.str l)
  | tup {a : Addr} {vs : List Value} {n : Nat} {ds : List D} : P a (tupO vs n) → RepL c P vs ds → Rep c P (Value.ref a) (D.tup ds)
  | list {a : Addr} {vs : List Value} {n : Nat} {ds : List D} : P a (listO vs n) → RepL c P vs ds → Rep c P (Value.ref a) (D.list ds)
  | dict {a : Addr} {es : List DictEntry} {n : Nat} {kvs : List (List Nat × D)} : P a (dictO es n) → RepK c P es kvs → Rep c P (Value.ref a) (D.dict kvs)
inductive RepL (c : Cx) (P : Facts) : List Value → List D → Prop
  | nil : RepL c P [] []
  | cons {v : Value} {vs : List Value} {d : D} {ds : List D} : Rep c P v d → RepL c P vs ds → RepL c P (v :: vs) (d :: ds)
inductive RepK (c : Cx) (P : Facts) : List DictEntry → List (List Nat × D) → Prop
  | nil : RepK c P [] []
  | cons {k : List Nat} {t : Tok} {v : Value} {es : List DictEntry} {d : D} {kvs : List (List Nat × D)} : Rep c P v d → RepK c P es kvs →
      RepK c P (⟨PyData.keyHash c.w.params (S k), .str (S k) t, v⟩ :: es) ((k, d) :: kvs)
end

section
variable {c : Cx} {P : Facts} {v : Value} {vs : List Value}
theorem Rep.inv {d : D} (h : Rep c P v d) : match d with
    | .none => v = .none
    | .bool b => v = .bool b
    | .int i => ∃ t, v = .int i t
    | .str l => ∃ t, v = .str (S l) t
    | .tup ds => ∃ a us n, v = .ref a ∧ P a (tupO us n) ∧ RepL c P us ds
    | .list ds => ∃ a us n, v = .ref a ∧ P a (listO us n) ∧ RepL c P us ds
    | .dict kvs => ∃ a es n, v = .ref a ∧ P a (dictO es n) ∧ RepK c P es kvs :=
  match h with
  | .none => rfl
  | .bool _ => rfl
  | .int _ t => ⟨t, rfl⟩
  | .str _ t => ⟨t, rfl⟩
  | .tup h r => ⟨_, _, _, rfl, h, r⟩
  | .list h r => ⟨_, _, _, rfl, h, r⟩
  | .dict h r => ⟨_, _, _, rfl, h, r⟩
theorem Rep.none_inv (h : Rep c P v .none) : v = .none := h.inv
theorem Rep.bool_inv {b : Bool} (h : Rep c P v (.bool b)) : v = .bool b := h.inv
theorem Rep.int_inv {i : Int} (h : Rep c P v (.int i)) : ∃ t, v = .int i t := h.inv
theorem Rep.str_inv {l : List Nat} (h : Rep c P v (.str l)) : ∃ t, v = .str (S l) t := h.inv
theorem Rep.tup_inv {ds : List D} (h : Rep c P v (.tup ds)) : ∃ a us n, v = .ref a ∧ P a (tupO us n) ∧ RepL c P us ds := h.inv
theorem Rep.list_inv {ds : List D} (h : Rep c P v (.list ds)) : ∃ a us n, v = .ref a ∧ P a (listO us n) ∧ RepL c P us ds := h.inv
theorem Rep.dict_inv {kvs : List (List Nat × D)} (h : Rep c P v (.dict kvs)) : ∃ a es n, v = .ref a ∧ P a (dictO es n) ∧ RepK c P es kvs := h.inv
theorem RepL.nil_inv (h : RepL c P vs []) : vs = [] := by cases h; rfl
theorem RepL.cons_inv {d : D} {ds : List D} (h : RepL c P vs (d :: ds)) : ∃ u us, vs = u :: us ∧ Rep c P u d ∧ RepL c P us ds := by cases h; exact ⟨_, _, rfl, by assumption, by assumption⟩
end

noncomputable def IsData (o : Obj) : Prop := (∃ vs n, o = tupO vs n) ∨ (∃ vs n, o = listO vs n) ∨ (∃ es n, o = dictO es n)

section
variable {c : Cx} {P P' : Facts} (hs : ∀ a o, IsData o → P a o → P' a o)
include hs
theorem Rep.only {v : Value} {d : D} (h : Rep c P v d) : Rep c P' v d :=
  Rep.rec (motive_1 := fun v d _ => Rep c P' v d) (motive_2 := fun vs ds _ => RepL c P' vs ds) (motive_3 := fun es kvs _ => RepK c P' es kvs) .none .bool .int .str
    (fun h _ r => .tup (hs _ _ (.inl ⟨_, _, rfl⟩) h) r) (fun h _ r => .list (hs _ _ (.inr (.inl ⟨_, _, rfl⟩)) h) r) (fun h _ r => .dict (hs _ _ (.inr (.inr ⟨_, _, rfl⟩)) h) r)
    .nil (fun _ _ h r => .cons h r) .nil (fun _ _ h r => .cons h r) h
theorem RepL.only {vs : List Value} {ds : List D} (h : RepL c P vs ds) : RepL c P' vs ds :=
  RepL.rec (motive_1 := fun v d _ => Rep c P' v d) (motive_2 := fun vs ds _ => RepL c P' vs ds) (motive_3 := fun es kvs _ => RepK c P' es kvs) .none .bool .int .str
    (fun h _ r => .tup (hs _ _ (.inl ⟨_, _, rfl⟩) h) r) (fun h _ r => .list (hs _ _ (.inr (.inl ⟨_, _, rfl⟩)) h) r) (fun h _ r => .dict (hs _ _ (.inr (.inr ⟨_, _, rfl⟩)) h) r)
    .nil (fun _ _ h r => .cons h r) .nil (fun _ _ h r => .cons h r) h
theorem RepK.only {es : List DictEntry} {kvs : List (List Nat × D)} (h : RepK c P es kvs) : RepK c P' es kvs :=
  RepK.rec (motive_1 := fun v d _ => Rep c P' v d) (motive_2 := fun vs ds _ => RepL c P' vs ds) (motive_3 := fun es kvs _ => RepK c P' es kvs) .none .bool .int .str
    (fun h _ r => .tup (hs _ _ (.inl ⟨_, _, rfl⟩) h) r) (fun h _ r => .list (hs _ _ (.inr (.inl ⟨_, _, rfl⟩)) h) r) (fun h _ r => .dict (hs _ _ (.inr (.inr ⟨_, _, rfl⟩)) h) r)
    .nil (fun _ _ h r => .cons h r) .nil (fun _ _ h r => .cons h r) h
end

theorem Rep.mono {c : Cx} {P P' : Facts} (hs : ∀ a o, P a o → P' a o) {v : Value} {d : D} (h : Rep c P v d) : Rep c P' v d := h.only fun a o _ => hs a o
theorem RepL.mono {c : Cx} {P P' : Facts} (hs : ∀ a o, P a o → P' a o) {vs : List Value} {ds : List D} (h : RepL c P vs ds) : RepL c P' vs ds := h.only fun a o _ => hs a o
theorem RepK.mono {c : Cx} {P P' : Facts} (hs : ∀ a o, P a o → P' a o) {es : List DictEntry} {kvs : List (List Nat × D)} (h : RepK c P es kvs) : RepK c P' es kvs := h.only fun a o _ => hs a o

section
variable {c : Cx} {P : Facts} {v : Value} {d : D} {vs ws : List Value} {ds es : List D}
theorem RepL.length (h : RepL c P vs ds) : vs.length = ds.length := by
  induction vs generalizing ds with
  | nil => cases h; rfl
  | cons v vs ih => cases h with | cons _ r => rw [List.length_cons, List.length_cons, ih r]
theorem RepL.append (h : RepL c P vs ds) (k : RepL c P ws es) : RepL c P (vs ++ ws) (ds ++ es) := by
  induction vs generalizing ds with
  | nil => cases h; exact k
  | cons v vs ih => cases h with | cons h r => exact .cons h (ih r)
theorem RepL.get (h : RepL c P vs ds) {k : Nat} {d : D} (hk : ds[k]? = some d) : ∃ v, vs[k]? = some v ∧ Rep c P v d := by
  induction vs generalizing ds k with
  | nil => cases h; simp at hk
  | cons v vs ih =>
    cases h with
    | cons h r =>
      cases k with
      | zero => simp at hk; subst hk; exact ⟨v, rfl, h⟩
      | succ k => exact ih r (by simpa using hk)
theorem RepL.get' (h : RepL c P vs ds) {k : Nat} {v : Value} (hk : vs[k]? = some v) : ∃ d, ds[k]? = some d ∧ Rep c P v d := by
  induction vs generalizing ds k with
  | nil => simp at hk
  | cons u vs ih =>
    cases h with
    | cons h r =>
      cases k with
      | zero => simp at hk; subst hk; exact ⟨_, rfl, h⟩
      | succ k => exact ih r (by simpa using hk)
theorem RepL.take (h : RepL c P vs ds) (k : Nat) : RepL c P (vs.take k) (ds.take k) := by
  induction vs generalizing ds k with
  | nil => cases h; simp; exact .nil
  | cons v vs ih =>
    cases h with
    | cons h r => cases k with
      | zero => simp; exact .nil
      | succ k => simp; exact .cons h (ih r k)
theorem RepL.drop (h : RepL c P vs ds) (k : Nat) : RepL c P (vs.drop k) (ds.drop k) := by
  induction vs generalizing ds k with
  | nil => cases h; simp; exact .nil
  | cons v vs ih =>
    cases h with
    | cons h r => cases k with
      | zero => simp; exact .cons h r
      | succ k => simp; exact ih r k
theorem RepL.one (h : Rep c P v d) : RepL c P [v] [d] := .cons h .nil
end


structure Tops (c : Cx) (h : Heap) : Prop where
  g : h.Ns mainGlobals c.mg
  b : h.Ns builtinsNs c.mb
  lim : h.NoLimit
  k : c.K.In h
  bb : ∀ x : Str, x ≠ "__name__" → c.mb x = bootBuiltins x

theorem Tops.keeps {c : Cx} {h h' : Heap} (T : Tops c h) (hk : ∀ b o, h.get? b = some o → h'.get? b = some o) : Tops c h' :=
  ⟨T.g.keeps hk, T.b.keeps hk, T.lim.keeps hk, T.k.keeps hk, T.bb⟩

noncomputable def VarIs (env : Env) (h : Heap) (x : Str) (v : Value) : Prop :=
  (env.kindOf x = some .local ∧ ∃ m, h.Ns env.locals m ∧ m x = some v) ∨
  (env.kindOf x = some .cell ∧ ∃ a, env.cells.lookup x = some a ∧ h.IsCell a (some v))

theorem VarIs.keeps {env : Env} {h h' : Heap} {x : Str} {v : Value} (V : VarIs env h x v) (hk : ∀ b o, h.get? b = some o → h'.get? b = some o) : VarIs env h' x v := by
  rcases V with ⟨h1, m, h2, h3⟩ | ⟨h1, a, h2, h3⟩
  · exact .inl ⟨h1, m, h2.keeps hk, h3⟩
  · exact .inr ⟨h1, a, h2, h3.keeps hk⟩

inductive Slot where
  | val (d : D)
  | own (d : D)
noncomputable abbrev Sto := List (String × Slot)

noncomputable def OwnObj (c : Cx) (P : Facts) (h : Heap) (a : Addr) : D → Prop
  | .list ds => ∃ vs n, h.get? a = some (listO vs n) ∧ RepL c P vs ds
  | .dict kvs => ∃ es n, h.get? a = some (dictO es n) ∧ RepK c P es kvs
  | _ => False

theorem OwnObj.keeps {c : Cx} {P P' : Facts} {h h' : Heap} {a : Addr} (hs : ∀ a o, P a o → P' a o) (hk : ∀ o, h.get? a = some o → h'.get? a = some o) : ∀ {d : D}, OwnObj c P h a d → OwnObj c P' h' a d
  | .list _, ⟨vs, n, e, r⟩ => ⟨vs, n, hk _ e, r.mono hs⟩
  | .dict _, ⟨vs, n, e, r⟩ => ⟨vs, n, hk _ e, r.mono hs⟩
theorem OwnObj.some {c : Cx} {P : Facts} {h : Heap} {a : Addr} : ∀ {d : D}, OwnObj c P h a d → ∃ o, h.get? a = some o ∧ IsData o
  | .list _, ⟨_, _, e, _⟩ => ⟨_, e, .inr (.inl ⟨_, _, rfl⟩)⟩
  | .dict _, ⟨_, _, e, _⟩ => ⟨_, e, .inr (.inr ⟨_, _, rfl⟩)⟩
theorem OwnObj.only {c : Cx} {P P' : Facts} {h : Heap} {a : Addr} (hs : ∀ a o, IsData o → P a o → P' a o) : ∀ {d : D}, OwnObj c P h a d → OwnObj c P' h a d
  | .list _, ⟨vs, n, e, r⟩ => ⟨vs, n, e, r.only hs⟩
  | .dict _, ⟨vs, n, e, r⟩ => ⟨vs, n, e, r.only hs⟩

structure EnvOk (env : Env) : Prop where
  kind : env.scope.kind = .function
  globals : env.globals = mainGlobals
  builtins : env.builtins = builtinsNs

structure Good (c : Cx) (env : Env) (σ : Sto) (P : Facts) (s : Shared) : Prop where
  eok : EnvOk env
  tops : Tops c s.heap
  ok : ∀ a o, P a o → s.heap.get? a = some o
  vars : ∀ x d, (x, Slot.val d) ∈ σ → ∃ v, VarIs env s.heap (Str.ofString x) v ∧ Rep c P v d
  owns : ∀ x d, (x, Slot.own d) ∈ σ → ∃ a, VarIs env s.heap (Str.ofString x) (.ref a) ∧ (∀ o, ¬ P a o) ∧ OwnObj c P s.heap a d

structure Step (P P' : Facts) (h h' : Heap) : Prop where
  ext : ∀ b o, h.get? b = some o → h'.get? b = some o
  sub : ∀ a o, P a o → P' a o
  new : ∀ a o, P' a o → P a o ∨ h.get? a = none
  ok : ∀ a o, P' a o → h'.get? a = some o

theorem Step.refl {P : Facts} {h : Heap} (ok : ∀ a o, P a o → h.get? a = some o) : Step P P h h := ⟨fun _ _ e => e, fun _ _ e => e, fun _ _ e => .inl e, ok⟩
theorem Step.trans {P P' P'' : Facts} {h h' h'' : Heap} (x : Step P P' h h') (y : Step P' P'' h' h'') : Step P P'' h h'' :=
  ⟨fun b o e => y.ext b o (x.ext b o e), fun a o e => y.sub a o (x.sub a o e), fun a o e => by
    rcases y.new a o e with q | q
    · exact x.new a o q
    · refine .inr ?_
      cases z : h.get? a with
      | none => rfl
      | some o' => exact absurd (x.ext a o' z) (by rw [q]; intro e; cases e), y.ok⟩
theorem Step.heap {P : Facts} {h h' : Heap} (ok : ∀ a o, P a o → h.get? a = some o) (ext : ∀ b o, h.get? b = some o → h'.get? b = some o) : Step P P h h' :=
  ⟨ext, fun _ _ e => e, fun _ _ e => .inl e, fun a o e => ext a o (ok a o e)⟩
theorem Step.more {P : Facts} {h h' : Heap} {a : Addr} {o : Obj} (ok : ∀ a o, P a o → h.get? a = some o) (ext : ∀ b o, h.get? b = some o → h'.get? b = some o) (hn : h.get? a = none) (ha : h'.get? a = some o) :
    Step P (fun b x => P b x ∨ (b = a ∧ x = o)) h h' :=
  ⟨ext, fun _ _ e => .inl e, fun b x e => by
    rcases e with e | ⟨rfl, rfl⟩
    · exact .inl e
    · exact .inr hn, fun b x e => by
    rcases e with e | ⟨rfl, rfl⟩
    · exact ext _ _ (ok _ _ e)
    · exact ha⟩

theorem Good.step {c : Cx} {env : Env} {σ : Sto} {P P' : Facts} {s : Shared} {h' : Heap} {tk : Nat} (G : Good c env σ P s) (S : Step P P' s.heap h') : Good c env σ P' { s with heap := h', toks := tk } where
  eok := G.eok
  tops := G.tops.keeps S.ext
  ok := S.ok
  vars := fun x d hx => let ⟨v, h1, h2⟩ := G.vars x d hx; ⟨v, h1.keeps S.ext, h2.mono S.sub⟩
  owns := fun x d hx => by
    obtain ⟨a, h1, h2, h3⟩ := G.owns x d hx
    refine ⟨a, h1.keeps S.ext, fun o ho => ?_, h3.keeps S.sub fun o e => S.ext _ _ e⟩
    obtain ⟨o', e, _⟩ := h3.some
    rcases S.new a o ho with q | q
    · exact h2 o q
    · rw [e] at q; cases q

structure AOk (n : Nat) (A : Around) : Prop where
  handled : A.handled = none
  depth : A.depth + n < recursionLimit
  units : A.units + 20 * n + 100 < cLine

theorem AOk.deeper {n : Nat} {A : Around} (h : AOk (n + 1) A) (env : Env) : AOk n (A.deeper env) :=
  ⟨h.handled, by have := h.depth; show A.depth + 1 + n < _; (first | lia | omega), by have := h.units; show A.units + 3 + _ + _ < _; (first | lia | omega)⟩
theorem AOk.le {n k : Nat} {A : Around} (h : AOk n A) (hk : k ≤ n) : AOk k A :=
  ⟨h.handled, by have := h.depth; (first | lia | omega), by have := h.units; (first | lia | omega)⟩
theorem AOk.room {n : Nat} {A : Around} (h : AOk n A) : A.depth < recursionLimit := by have := h.depth; (first | lia | omega)


noncomputable def Ev (c : Cx) (A : Around) (env : Env) (σ : Sto) (e : Expr) (d : D) : Prop :=
  ∀ (P : Facts) (s : Shared), Good c env σ P s → ∀ (Q : Value → Shared → Prop) (E : Value → Shared → Prop),
    (∀ v h' tk P', Step P P' s.heap h' → Rep c P' v d → Q v { s with heap := h', toks := tk }) → wpAny c.M A (eval e env) Q E s

noncomputable def EvT (c : Cx) (A : Around) (env : Env) (σ : Sto) (e : Expr) (b : Bool) : Prop :=
  ∀ (P : Facts) (s : Shared), Good c env σ P s → ∀ (Q : Bool → Shared → Prop) (E : Value → Shared → Prop),
    (∀ h' tk P', Step P P' s.heap h' → Q b { s with heap := h', toks := tk }) → wpAny c.M A (isTrue e env (eval e env)) Q E s

section
variable {c : Cx} {A : Around} {env : Env} {σ : Sto}

theorem Ev.val {e : Expr} {d : D} {P : Facts} {s : Shared} (h : Ev c A env σ e d) (G : Good c env σ P s) {Q : Value → Shared → Prop} {E : Value → Shared → Prop}
    (k : ∀ v h' tk P', Step P P' s.heap h' → Good c env σ P' { s with heap := h', toks := tk } → Rep c P' v d → Q v { s with heap := h', toks := tk }) : wpAny c.M A (eval e env) Q E s :=
  h P s G Q E fun v h' tk P' S R => k v h' tk P' S (G.step S) R

theorem ev_name {n : String} {pos : Pos} {d : D} (h : (n, Slot.val d) ∈ σ) (hd : ((Str.ofString n) == ("__debug__" : Str)) = false := by decide +kernel) : Ev c A env σ (.Name (Str.ofString n) pos) d := by
  intro P s G Q E k
  obtain ⟨v, V, R⟩ := G.vars _ _ h
  have q : Q v s := k v s.heap s.toks P (Step.refl G.ok) R
  refine wpAny_Name ?_ hd
  rcases V with ⟨h1, m, h2, h3⟩ | ⟨h1, a, h2, h3⟩
  · exact wpAny_loadName_local G.eok.kind h1 h2 h3 q
  · exact wpAny_loadName_cell G.eok.kind h1 h2 h3 q

theorem ev_int {i : Int} {k : Nat} {pos : Pos} : Ev c A env σ (.Constant (.int i) k pos) (.int i) := by
  intro P s G Q E q
  exact wpAny_Constant_int (q _ s.heap _ P (Step.refl G.ok) (.int _ _))
theorem ev_str {x : Str} {l : List Nat} {k : Nat} {pos : Pos} (hx : x = S l) : Ev c A env σ (.Constant (.str x) k pos) (.str l) := by
  intro P s G Q E q
  subst hx
  rw [eval_Constant]
  exact wpAny_mkText (q _ s.heap _ P (Step.refl G.ok) (.str _ _))
theorem ev_bool {b : Bool} {k : Nat} {pos : Pos} : Ev c A env σ (.Constant (.bool b) k pos) (.bool b) := by
  intro P s G Q E q
  rw [eval_Constant]
  exact wpAny_pure (q _ s.heap _ P (Step.refl G.ok) (.bool _))
end
end
section

theorem S_append (a b : List Nat) : S a ++ S b = S (a ++ b) := by
  show Str.mk (a.toArray ++ b.toArray) = _
  simp [S]
theorem S_length (a : List Nat) : (S a).length = a.length := by simp [S, Str.length]
theorem S_inj {a b : List Nat} : S a = S b ↔ a = b := by
  constructor
  · intro h
    have := congrArg (fun x : Str => x.cps.toList) h
    simpa [S] using this
  · rintro rfl; rfl
theorem S_beq (a b : List Nat) : (S a == S b) = decide (a = b) := by
  rw [Bool.eq_iff_iff, beq_iff_eq, S_inj, decide_eq_true_eq]
theorem S_toList (a : List Nat) : (S a).cps.toList = a := by simp [S]
theorem S_eta (x : Str) : S x.cps.toList = x := by cases x; simp [S]

noncomputable def Op2 (c : Cx) (A : Around) (f : Value → Value → Sem Value) (a b d : D) : Prop :=
  ∀ (P : Facts) (s : Shared) (u v : Value), (∀ a o, P a o → s.heap.get? a = some o) → Rep c P u a → Rep c P v b →
    ∀ (Q : Value → Shared → Prop) (E : Value → Shared → Prop),
      (∀ r h' tk P', Step P P' s.heap h' → Rep c P' r d → Q r { s with heap := h', toks := tk }) → wpAny c.M A (f u v) Q E s

section
variable {c : Cx} {A : Around} {env : Env} {σ : Sto}

theorem ev_binop {l r : Expr} {op : Operator} {pos : Pos} {a b d : D} (hl : Ev c A env σ l a) (hr : Ev c A env σ r b) (H : Op2 c A (binaryOp op) a b d) : Ev c A env σ (.BinOp l op r pos) d := by
  intro P s G Q E k
  refine wpAny_BinOp (hl.val G fun u h1 t1 P1 S1 G1 R1 => hr.val G1 fun v h2 t2 P2 S2 G2 R2 => ?_)
  exact H P2 _ u v G2.ok (R1.mono S2.sub) R2 Q E fun r h3 t3 P3 S3 R3 => k r h3 t3 P3 ((S1.trans S2).trans S3) R3

theorem ev_cmp {l r : Expr} {op : CmpOp} {pos : Pos} {a b d : D} (hl : Ev c A env σ l a) (hr : Ev c A env σ r b) (H : Op2 c A (compareOp op) a b d)
    (hm : behindInMarks op r = false := by with_unfolding_all rfl) : Ev c A env σ (.Compare l [op] [r] pos) d := by
  intro P s G Q E k
  refine wpAny_Compare1 (hl.val G fun u h1 t1 P1 S1 G1 R1 => hr.val G1 fun v h2 t2 P2 S2 G2 R2 => ?_) hm
  exact H P2 _ u v G2.ok (R1.mono S2.sub) R2 Q E fun r h3 t3 P3 S3 R3 => k r h3 t3 P3 ((S1.trans S2).trans S3) R3

theorem evt_cmp {l r : Expr} {op : CmpOp} {pos : Pos} {a b : D} {t : Bool} (hl : Ev c A env σ l a) (hr : Ev c A env σ r b) (H : Op2 c A (compareOp op) a b (.bool t))
    (hm : behindInMarks op r = false := by with_unfolding_all rfl) : EvT c A env σ (.Compare l [op] [r] pos) t := by
  intro P s G Q E k
  refine wpAny_isTrue_Compare1 (hl.val G fun u h1 t1 P1 S1 G1 R1 => hr.val G1 fun v h2 t2 P2 S2 G2 R2 => ?_) hm
  refine H P2 _ u v G2.ok (R1.mono S2.sub) R2 _ E fun r h3 t3 P3 S3 R3 => ?_
  obtain rfl := R3.bool_inv
  exact wpAny_truthy_bool (k h3 t3 P3 ((S1.trans S2).trans S3))

section
variable {a b : Int}
theorem op_add_int : Op2 c A (binaryOp .Add) (.int a) (.int b) (.int (a + b)) := by
  intro P s u v ok Ru Rv Q E k; obtain ⟨_, rfl⟩ := Ru.int_inv; obtain ⟨_, rfl⟩ := Rv.int_inv; exact PySem.P.add_int (k _ s.heap _ P (Step.refl ok) (.int _ _))
theorem op_sub_int : Op2 c A (binaryOp .Sub) (.int a) (.int b) (.int (a - b)) := by
  intro P s u v ok Ru Rv Q E k; obtain ⟨_, rfl⟩ := Ru.int_inv; obtain ⟨_, rfl⟩ := Rv.int_inv; exact PySem.P.sub_int (k _ s.heap _ P (Step.refl ok) (.int _ _))
theorem op_mul_int (hm : IntMulOk a b) : Op2 c A (binaryOp .Mult) (.int a) (.int b) (.int (a * b)) := by
  intro P s u v ok Ru Rv Q E k; obtain ⟨_, rfl⟩ := Ru.int_inv; obtain ⟨_, rfl⟩ := Rv.int_inv; exact PySem.P.mul_int (k _ s.heap _ P (Step.refl ok) (.int _ _)) hm
theorem op_iadd_int : Op2 c A (inplaceOp .Add) (.int a) (.int b) (.int (a + b)) := by
  intro P s u v ok Ru Rv Q E k; obtain ⟨_, rfl⟩ := Ru.int_inv; obtain ⟨_, rfl⟩ := Rv.int_inv; exact PySem.P.iadd_int (k _ s.heap _ P (Step.refl ok) (.int _ _))
theorem op_isub_int : Op2 c A (inplaceOp .Sub) (.int a) (.int b) (.int (a - b)) := by
  intro P s u v ok Ru Rv Q E k; obtain ⟨_, rfl⟩ := Ru.int_inv; obtain ⟨_, rfl⟩ := Rv.int_inv; exact PySem.P.isub_int (k _ s.heap _ P (Step.refl ok) (.int _ _))
theorem op_eq_int : Op2 c A (compareOp .Eq) (.int a) (.int b) (.bool (decide (a = b))) := by
  intro P s u v ok Ru Rv Q E k; obtain ⟨_, rfl⟩ := Ru.int_inv; obtain ⟨_, rfl⟩ := Rv.int_inv
  exact PySem.P.eq_int (k _ s.heap _ P (Step.refl ok) (by rw [show (a == b) = decide (a = b) from rfl]; exact .bool _))
theorem op_lt_int : Op2 c A (compareOp .Lt) (.int a) (.int b) (.bool (decide (a < b))) := by
  intro P s u v ok Ru Rv Q E k; obtain ⟨_, rfl⟩ := Ru.int_inv; obtain ⟨_, rfl⟩ := Rv.int_inv; exact PySem.P.lt_int (k _ s.heap _ P (Step.refl ok) (.bool _))
theorem op_le_int : Op2 c A (compareOp .LtE) (.int a) (.int b) (.bool (decide (a ≤ b))) := by
  intro P s u v ok Ru Rv Q E k; obtain ⟨_, rfl⟩ := Ru.int_inv; obtain ⟨_, rfl⟩ := Rv.int_inv; exact PySem.P.le_int (k _ s.heap _ P (Step.refl ok) (.bool _))
theorem op_gt_int : Op2 c A (compareOp .Gt) (.int a) (.int b) (.bool (decide (a > b))) := by
  intro P s u v ok Ru Rv Q E k; obtain ⟨_, rfl⟩ := Ru.int_inv; obtain ⟨_, rfl⟩ := Rv.int_inv; exact PySem.P.gt_int (k _ s.heap _ P (Step.refl ok) (.bool _))
theorem op_ge_int : Op2 c A (compareOp .GtE) (.int a) (.int b) (.bool (decide (a ≥ b))) := by
  intro P s u v ok Ru Rv Q E k; obtain ⟨_, rfl⟩ := Ru.int_inv; obtain ⟨_, rfl⟩ := Rv.int_inv; exact PySem.P.ge_int (k _ s.heap _ P (Step.refl ok) (.bool _))
end

section
variable {a b : List Nat}
theorem op_add_str (h : a.length + b.length ≤ sizeLine) : Op2 c A (binaryOp .Add) (.str a) (.str b) (.str (a ++ b)) := by
  intro P s u v ok Ru Rv Q E k; obtain ⟨_, rfl⟩ := Ru.str_inv; obtain ⟨_, rfl⟩ := Rv.str_inv
  exact SB.add (fun t' k' => k _ s.heap _ P (Step.refl ok) (by rw [S_append]; exact .str _ _)) (by rw [S_length, S_length]; exact h)
theorem op_iadd_str (h : a.length + b.length ≤ sizeLine) : Op2 c A (inplaceOp .Add) (.str a) (.str b) (.str (a ++ b)) := by
  intro P s u v ok Ru Rv Q E k; obtain ⟨_, rfl⟩ := Ru.str_inv; obtain ⟨_, rfl⟩ := Rv.str_inv
  exact SB.iadd (fun t' k' => k _ s.heap _ P (Step.refl ok) (by rw [S_append]; exact .str _ _)) (by rw [S_length, S_length]; exact h)
theorem op_eq_str : Op2 c A (compareOp .Eq) (.str a) (.str b) (.bool (decide (a = b))) := by
  intro P s u v ok Ru Rv Q E k; obtain ⟨_, rfl⟩ := Ru.str_inv; obtain ⟨_, rfl⟩ := Rv.str_inv
  exact PyProof.Rows.eq_str (k _ s.heap _ P (Step.refl ok) (by rw [S_beq]; exact .bool _))
theorem op_ne_str : Op2 c A (compareOp .NotEq) (.str a) (.str b) (.bool (!decide (a = b))) := by
  intro P s u v ok Ru Rv Q E k; obtain ⟨_, rfl⟩ := Ru.str_inv; obtain ⟨_, rfl⟩ := Rv.str_inv
  exact PyProof.Rows.ne_str (k _ s.heap _ P (Step.refl ok) (by rw [show (S a != S b) = !(S a == S b) from rfl, S_beq]; exact .bool _))
theorem op_le_str : Op2 c A (compareOp .LtE) (.str a) (.str b) (.bool (!decide (b < a))) := by
  intro P s u v ok Ru Rv Q E k; obtain ⟨_, rfl⟩ := Ru.str_inv; obtain ⟨_, rfl⟩ := Rv.str_inv
  exact PySem.P.le_str (k _ s.heap _ P (Step.refl ok) (by rw [S_toList, S_toList]; exact .bool _))
theorem op_gt_str : Op2 c A (compareOp .Gt) (.str a) (.str b) (.bool (decide (b < a))) := by
  intro P s u v ok Ru Rv Q E k; obtain ⟨_, rfl⟩ := Ru.str_inv; obtain ⟨_, rfl⟩ := Rv.str_inv
  exact PySem.P.gt_str (k _ s.heap _ P (Step.refl ok) (by rw [S_toList, S_toList]; exact .bool _))
end
end
end
section

section
variable {c : Cx} {A : Around} {env : Env} {σ : Sto}

theorem op_floordiv {a b : Int} (hb : b ≠ 0) (hs : Builtin.divisionGoesByPylong a b = false) : Op2 c A (binaryOp .FloorDiv) (.int a) (.int b) (.int (a.fdiv b)) := by
  intro P s u v ok Ru Rv Q E k; obtain ⟨_, rfl⟩ := Ru.int_inv; obtain ⟨_, rfl⟩ := Rv.int_inv
  exact AutoIntOps.floordiv_1 (by simpa using hb) (by rw [hs]; exact Bool.false_ne_true) (k _ s.heap _ P (Step.refl ok) (.int _ _))
theorem op_mod {a b : Int} (hb : b ≠ 0) : Op2 c A (binaryOp .Mod) (.int a) (.int b) (.int (a.fmod b)) := by
  intro P s u v ok Ru Rv Q E k; obtain ⟨_, rfl⟩ := Ru.int_inv; obtain ⟨_, rfl⟩ := Rv.int_inv
  exact AutoIntOps.mod_1 (by simpa using hb) (k _ s.heap _ P (Step.refl ok) (.int _ _))
theorem mulL_eq (l : List Nat) (n : Int) : Txt.mul (S l) n = S (List.replicate n.toNat l).flatten := by
  unfold Txt.mul
  split
  · have : n.toNat = 0 := by first | lia | omega
    rw [this]; rfl
  · split
    · rename_i h1 h2
      simp only [Bool.or_eq_true, beq_iff_eq] at h2
      rcases h2 with h2 | h2
      · subst h2; simp
      · rw [S_length] at h2
        have : l = [] := List.eq_nil_of_length_eq_zero h2
        subst this
        simp
    · have hf : ∀ (k : Nat) (acc : Array Nat), (List.replicate k l.toArray).foldl (· ++ ·) acc = acc ++ (List.replicate k l).flatten.toArray := by
        intro k
        induction k with
        | zero => intro acc; simp
        | succ k ih => intro acc; rw [List.replicate_succ, List.foldl_cons, ih]; simp [List.replicate_succ]
      rw [hf]; simp [S]
theorem op_mul_str {a : List Nat} {n : Int} (hlo : -1000 ≤ n) (hn : n ≤ 1000) (hl : a.length ≤ 1000) : Op2 c A (binaryOp .Mult) (.str a) (.int n) (.str (List.replicate n.toNat a).flatten) := by
  intro P s u v ok Ru Rv Q E k; obtain ⟨_, rfl⟩ := Ru.str_inv; obtain ⟨_, rfl⟩ := Rv.int_inv
  refine SB.mul ⟨?_, ?_, ?_⟩ (fun t' k' => k _ s.heap _ P (Step.refl ok) (by rw [mulL_eq]; exact .str _ _))
  · simp only [Bool.or_eq_false_iff, decide_eq_false_iff_not]; (first | lia | omega)
  · intro h1 _ h2
    rw [S_length] at h2
    have : (2 ^ 63 - 1 : Int) / n < 1000 := by first | lia | omega
    have h3 : (2 ^ 63 - 1 : Int) < 1000 * n := by
      exact Int.lt_mul_of_ediv_lt (by first | lia | omega) this
    (first | lia | omega)
  · intro h1 _
    rw [S_length]
    unfold Builtin.Str.tooLong
    have : a.length * n.toNat ≤ 1000 * 1000 := Nat.mul_le_mul hl (by first | lia | omega)
    simp only [gt_iff_lt, decide_eq_false_iff_not]
    have : sizeLine = 16777216 := by decide
    (first | lia | omega)

theorem op_notin_str {a b : List Nat} : Op2 c A (compareOp .NotIn) (.str a) (.str b) (.bool (!Txt.contains (S b) (S a))) := by
  intro P s u v ok Ru Rv Q E k; obtain ⟨_, rfl⟩ := Ru.str_inv; obtain ⟨_, rfl⟩ := Rv.str_inv
  exact SB.notContains (k _ s.heap _ P (Step.refl ok) (.bool _))
theorem op_is_bool {a b : Bool} : Op2 c A (compareOp .Is) (.bool a) (.bool b) (.bool (a == b)) := by
  intro P s u v ok Ru Rv Q E k; obtain rfl := Ru.bool_inv; obtain rfl := Rv.bool_inv
  exact wpAny_is_plain rfl (k _ s.heap _ P (Step.refl ok) (by rw [show (Value.bool a == Value.bool b) = (a == b) from by cases a <;> cases b <;> rfl]; exact .bool _))
theorem op_isnot_bool {a b : Bool} : Op2 c A (compareOp .IsNot) (.bool a) (.bool b) (.bool (!(a == b))) := by
  intro P s u v ok Ru Rv Q E k; obtain rfl := Ru.bool_inv; obtain rfl := Rv.bool_inv
  exact wpAny_isNot_plain rfl (k _ s.heap _ P (Step.refl ok) (by rw [show (Value.bool a == Value.bool b) = (a == b) from by cases a <;> cases b <;> rfl]; exact .bool _))

noncomputable def truthD : D → Option Bool
  | .none => some false
  | .bool b => some b
  | .int i => some (i != 0)
  | .str l => if l.length < 2 ^ 62 then some (l.length != 0) else Option.none
  | _ => Option.none

theorem truthy_D {d : D} {b : Bool} (hd : truthD d = some b) {P : Facts} {v : Value} (R : Rep c P v d) {s : Shared} {Q : Bool → Shared → Prop} {E : Value → Shared → Prop} (h : ∀ tk, Q b { s with toks := tk }) : wpAny c.M A (truthy v) Q E s := by
  cases d with
  | none => cases hd; obtain rfl := R.none_inv; exact fun _ _ _ => h s.toks
  | bool b => cases hd; obtain rfl := R.bool_inv; exact wpAny_truthy_bool (h s.toks)
  | int i => cases hd; obtain ⟨_, rfl⟩ := R.int_inv; exact PySem.P.truthy_int (h s.toks)
  | str l =>
    obtain ⟨_, rfl⟩ := R.str_inv
    simp only [truthD] at hd
    split at hd
    · rename_i hl
      cases hd
      refine PySem.P.truthy_str (by rw [S_length]; (first | lia | omega)) ?_
      rw [S_length, show ((l.length : Int) != 0) = (l.length != 0) from by rw [Bool.eq_iff_iff]; simp]
      exact h _
    · cases hd
  | tup | list | dict => cases hd

theorem evt_of_ev {e : Expr} {d : D} {b : Bool} (h : Ev c A env σ e d) (hd : truthD d = some b)
    (he : isTrue e env (eval e env) = (do let v ← eval e env; standAt e.pos; holding [v] (truthy v)) := by rfl) : EvT c A env σ e b := by
  intro P s G Q E k
  exact isTrue_plain (h.val G fun v h1 t1 P1 S1 G1 R1 => truthy_D hd R1 fun tk => k h1 tk P1 S1) he
theorem evt_and {x y : Expr} {pos : Pos} {a b : Bool} (hx : EvT c A env σ x a) (hy : a = true → EvT c A env σ y b) : EvT c A env σ (.BoolOp .And [x, y] pos) (a && b) := by
  intro P s G Q E k
  refine isTrue_and (hx P s G _ E fun h' tk P' S => ?_)
  cases a with
  | false => exact k h' tk P' S
  | true =>
    refine isTrue_and (hy rfl P' _ (G.step S) _ E fun h2 tk2 P2 S2 => ?_)
    cases b with
    | false => exact k h2 tk2 P2 (S.trans S2)
    | true => exact isTrue_and_nil (k h2 tk2 P2 (S.trans S2))
theorem evt_or {x y : Expr} {pos : Pos} {a b : Bool} (hx : EvT c A env σ x a) (hy : a = false → EvT c A env σ y b) : EvT c A env σ (.BoolOp .Or [x, y] pos) (a || b) := by
  intro P s G Q E k
  refine isTrue_or (hx P s G _ E fun h' tk P' S => ?_)
  cases a with
  | true => exact k h' tk P' S
  | false =>
    refine isTrue_or (hy rfl P' _ (G.step S) _ E fun h2 tk2 P2 S2 => ?_)
    cases b with
    | true => exact k h2 tk2 P2 (S.trans S2)
    | false => exact isTrue_or_nil (k h2 tk2 P2 (S.trans S2))
theorem ev_and {x y : Expr} {pos : Pos} {a b : D} {t : Bool} (hx : Ev c A env σ x a) (ht : truthD a = some t) (hy : t = true → Ev c A env σ y b) : Ev c A env σ (.BoolOp .And [x, y] pos) (if t then b else a) := by
  intro P s G Q E k
  refine BoolOp_and (hx.val G fun v h1 t1 P1 S1 G1 R1 => truthy_D ht R1 fun tk => ?_)
  cases t with
  | false => exact k v h1 tk P1 S1 R1
  | true => exact BoolOp_one ((hy rfl).val (G.step (tk := tk) S1) fun v2 h2 t2 P2 S2 G2 R2 => k v2 h2 t2 P2 (S1.trans S2) R2)
theorem ev_or {x y : Expr} {pos : Pos} {a b : D} {t : Bool} (hx : Ev c A env σ x a) (ht : truthD a = some t) (hy : t = false → Ev c A env σ y b) : Ev c A env σ (.BoolOp .Or [x, y] pos) (if t then a else b) := by
  intro P s G Q E k
  refine BoolOp_or (hx.val G fun v h1 t1 P1 S1 G1 R1 => truthy_D ht R1 fun tk => ?_)
  cases t with
  | true => exact k v h1 tk P1 S1 R1
  | false => exact BoolOp_one ((hy rfl).val (G.step (tk := tk) S1) fun v2 h2 t2 P2 S2 G2 R2 => k v2 h2 t2 P2 (S1.trans S2) R2)
theorem ev_ifexp {t x y : Expr} {pos : Pos} {a b : D} {q : Bool} (ht : EvT c A env σ t q) (hx : q = true → Ev c A env σ x a) (hy : q = false → Ev c A env σ y b) : Ev c A env σ (.IfExp t x y pos) (if q then a else b) := by
  intro P s G Q E k
  refine IfExp_ (ht P s G _ E fun h' tk P' S => ?_)
  cases q with
  | true => exact (hx rfl).val (G.step S) fun v2 h2 t2 P2 S2 G2 R2 => k v2 h2 t2 P2 (S.trans S2) R2
  | false => exact (hy rfl).val (G.step S) fun v2 h2 t2 P2 S2 G2 R2 => k v2 h2 t2 P2 (S.trans S2) R2
theorem ev_neg {x : Expr} {pos : Pos} {i : Int} (hx : Ev c A env σ x (.int i)) : Ev c A env σ (.UnaryOp .USub x pos) (.int (-i)) := by
  intro P s G Q E k
  refine UnaryOp_ (hx.val G fun v h1 t1 P1 S1 G1 R1 => ?_)
  obtain ⟨_, rfl⟩ := R1.int_inv
  exact PySem.P.neg_int (k _ h1 _ P1 S1 (.int _ _))

noncomputable def EvL (c : Cx) (A : Around) (env : Env) (σ : Sto) (pos : Pos) (es : List Expr) (ds : List D) : Prop :=
  ∀ (P : Facts) (s : Shared), Good c env σ P s → ∀ (Q : List Value → Shared → Prop) (E : Value → Shared → Prop),
    (∀ vs h' tk P', Step P P' s.heap h' → RepL c P' vs ds → Q vs { s with heap := h', toks := tk }) → wpAny c.M A (spliced (backTo pos (starEach es env))) Q E s

theorem evl_nil {pos : Pos} : EvL c A env σ pos [] [] := by
  intro P s G Q E k
  exact wpAny_items_nil (k [] s.heap s.toks P (Step.refl G.ok) .nil)
theorem evl_cons {pos : Pos} {e : Expr} {es : List Expr} {d : D} {ds : List D} (h : Ev c A env σ e d) (hs : EvL c A env σ pos es ds)
    (he : starEach (e :: es) env = (false, eval e env) :: starEach es env := by rfl) : EvL c A env σ pos (e :: es) (d :: ds) := by
  intro P s G Q E k
  refine wpAny_items_cons (h.val G fun v h1 t1 P1 S1 G1 R1 => hs P1 _ G1 _ E fun vs h2 t2 P2 S2 R2 => ?_) he
  exact k (v :: vs) h2 t2 P2 (S1.trans S2) (.cons (R1.mono S2.sub) R2)

theorem push_step {P : Facts} {h : Heap} {o : Obj} (ok : ∀ a o, P a o → h.get? a = some o) (hf : o.isFreed = false := by rfl) : Step P (fun b x => P b x ∨ (b = h.objs.size ∧ x = o)) h (h.push o) := by
  refine Step.more ok (fun b o e => Heap.get?_push_of_some _ e) ?_ (Heap.get?_push_size _ hf)
  cases z : h.get? h.objs.size with
  | none => rfl
  | some o' => exact absurd (Heap.lt_size z) (Nat.lt_irrefl _)

theorem ev_tuple {es : List Expr} {ds : List D} {k : Nat} {pos : Pos} (h : EvL c A env σ pos es ds) (hl : ds.length ≤ sizeLine := by exact Nat.le_of_ble_eq_true rfl) : Ev c A env σ (.Tuple es k pos) (.tup ds) := by
  intro P s G Q E q
  refine wpAny_Tuple (h P s G _ E fun vs h1 t1 P1 S1 R1 => ⟨by rw [R1.length]; exact hl, ?_⟩)
  have S2 := push_step (o := tupO vs 0) S1.ok
  exact q _ _ _ _ (S1.trans S2) (.tup (.inr ⟨rfl, rfl⟩) (R1.mono S2.sub))
theorem ev_list {es : List Expr} {ds : List D} {pos : Pos} (h : EvL c A env σ pos es ds) (hl : ds.length ≤ sizeLine := by exact Nat.le_of_ble_eq_true rfl) : Ev c A env σ (.List es pos) (.list ds) := by
  intro P s G Q E q
  refine wpAny_List (h P s G _ E fun vs h1 t1 P1 S1 R1 => ⟨by rw [R1.length]; exact hl, ?_⟩)
  have S2 := push_step (o := listO vs 0) S1.ok
  exact q _ _ _ _ (S1.trans S2) (.list (.inr ⟨rfl, rfl⟩) (R1.mono S2.sub))

theorem my_Subscript {value slice : Expr} {pos : Pos} {s : Shared} {Q : Value → Shared → Prop} {E : Value → Shared → Prop} {prog : Program} {w : World}
    (h : wpAny (model prog w) A (eval value env) (fun o s₁ => wpAny (model prog w) A (eval slice env) (fun i s₂ => ItemOn (model prog w) A E o i Q s₂) E s₁) E s)
    (hs : ∀ o i, ∃ ops, subscripted slice false o i = operate ops (getItem o i)) : wpAny (model prog w) A (eval (.Subscript value slice pos) env) Q E s := by
  rw [eval_Subscript]
  refine wpAny_bind (wpAny_mono h (fun o s₁ h₁ => wpAny_bind (wpAny_holding (wpAny_mono h₁ (fun i s₂ h₂ => wpAny_bind (wpAny_standAt ?_)) fun _ _ x => x))) fun _ _ x => x)
  obtain ⟨T, id, hl, hT, hg⟩ := h₂
  obtain ⟨ops, hops⟩ := hs o i
  refine wpAny_bind ?_
  rw [getitemInPython_of_ne hT.not_modules]
  refine wpAny_bind (wpAny_specialOf hT hl ?_)
  refine wpAny_pure ?_
  have fin : wpAny (model prog w) A (operate ops (getItem o i)) (fun r s₃ => wpAny (model prog w) A (letTemporaryGo value o r >>= fun _ => pure r) Q E s₃) E s₂ :=
    wpAny_operating (wpAny_mono hg (fun r s₃ h₃ => wpAny_bind (wpAny_letTemporaryGo (wpAny_pure h₃))) fun _ _ x => x)
  rw [← hops] at fin
  exact wpAny_bind fin

end
end
section

section
variable {c : Cx} {A : Around} {env : Env} {σ : Sto}

noncomputable def clipL (n : Nat) (dflt : Nat) : Option Int → Nat
  | none => dflt
  | some i => clipAt n i
noncomputable def sliceL {α : Type} (l : List α) (lo hi : Option Int) : List α := (l.drop (clipL l.length 0 lo)).take (clipL l.length l.length hi - clipL l.length 0 lo)

theorem strIdx_eq (lo hi : Option Int) (n : Nat) : Builtin.Str.strSliceIndices lo hi 1 n = sliceRange ((clipL n 0 lo : Nat) : Int) ((clipL n n hi : Nat) : Int) 1 := by
  unfold Builtin.Str.strSliceIndices
  cases lo <;> cases hi <;> simp [clipL, clipAt_cast]

theorem pickL (l : List Nat) (lo hi : Option Int) : (Builtin.Str.strSliceIndices lo hi 1 l.length).filterMap (l.toArray[·]?) = sliceL l lo hi := by
  rw [strIdx_eq, sliceRange_one, pick_run]
  simp [sliceL]

theorem sliceL_length_le {α : Type} (l : List α) (lo hi : Option Int) : (sliceL l lo hi).length ≤ l.length := by
  unfold sliceL; rw [List.length_take, List.length_drop]; (first | lia | omega)

noncomputable def EvO (c : Cx) (A : Around) (env : Env) (σ : Sto) (e : Option Expr) (i : Option Int) : Prop :=
  match e, i with
  | none, none => True
  | some e, some i => Ev c A env σ e (.int i)
  | _, _ => False

theorem EvO.val {e : Option Expr} {i : Option Int} (h : EvO c A env σ e i) {P : Facts} {s : Shared} (G : Good c env σ P s) {Q : Value → Shared → Prop} {E : Value → Shared → Prop}
    (k : ∀ v h' tk P' t, Step P P' s.heap h' → Good c env σ P' { s with heap := h', toks := tk } → v = partValue (i.map fun x => (x, t)) → Q v { s with heap := h', toks := tk }) : wpAny c.M A (evalPart e env) Q E s := by
  cases e with
  | none =>
    cases i with
    | none => exact wpAny_pure (k _ s.heap s.toks P 0 (Step.refl G.ok) G rfl)
    | some i => exact h.elim
  | some e =>
    cases i with
    | none => exact h.elim
    | some i =>
      rw [evalPart_some]
      refine Ev.val h G fun v h1 t1 P1 S1 G1 R1 => ?_
      obtain ⟨_, rfl⟩ := R1.int_inv
      exact k _ h1 t1 P1 _ S1 G1 rfl

theorem ev_slice_str {v : Expr} {lo hi : Option Expr} {p pos : Pos} {l : List Nat} {i j : Option Int} (hv : Ev c A env σ v (.str l)) (hlo : EvO c A env σ lo i) (hhi : EvO c A env σ hi j) (hl : l.length ≤ sizeLine) :
    Ev c A env σ (.Subscript v (.Slice lo hi none p) pos) (.str (sliceL l i j)) := by
  intro P s G Q E k
  refine my_Subscript (hv.val G fun u h1 t1 P1 S1 G1 R1 => ?_) (fun o i => ⟨_, rfl⟩)
  refine wpAny_Slice (hlo.val G1 fun vl h2 t2 P2 tt S2 G2 e2 => hhi.val G2 fun vu h3 t3 P3 tt' S3 G3 e3 => ?_)
  rw [evalPart_none]
  refine wpAny_pure ?_
  obtain ⟨_, rfl⟩ := R1.str_inv
  subst e2; subst e3
  refine ⟨"str", _, F.slot_str_getitem.lookup, typeIs_str _ _ _, wpAny_getItem_str_slice (l := i.map fun x => (x, tt)) (u := j.map fun x => (x, tt')) (st := none) ⟨_, Heap.get?_push_size _ rfl, rfl, rfl⟩ rfl ?_⟩
  have Sall : Step P P3 s.heap (h3.push { cls := .type "slice", data := .fields #[partValue (i.map fun x => (x, tt)), partValue (j.map fun x => (x, tt')), .none] }) :=
    ((S1.trans S2).trans S3).trans (Step.heap S3.ok fun b o e => Heap.get?_push_of_some _ e)
  have em : ∀ (o : Option Int) (t : Tok), (o.map fun x => (x, t)).map (·.1) = o := by intro o t; cases o <;> rfl
  unfold sliceMade slicePicked
  rw [em, em, S_length]
  show Made.post (if ((1 : Int) == 1 && (Builtin.Str.strSliceIndices i j 1 l.length).length == l.length) = true then _ else Made.str ⟨((Builtin.Str.strSliceIndices i j 1 l.length).filterMap (l.toArray[·]?)).toArray⟩) _ _
  split
  · rename_i he
    have hlen : (Builtin.Str.strSliceIndices i j 1 l.length).length = l.length := by simpa using he
    have e : sliceL l i j = l := by
      have h5 := pickL l i j
      rw [strIdx_eq, sliceRange_one] at hlen
      simp only [List.length_map, List.length_range] at hlen
      have ha : clipL l.length 0 i ≤ l.length := by cases i with | none => simp [clipL] | some i => have := clipAt_cast l.length i; simp only [clipL]; (first | lia | omega)
      have hb : clipL l.length l.length j ≤ l.length := by cases j with | none => simp [clipL] | some i => have := clipAt_cast l.length i; simp only [clipL]; (first | lia | omega)
      unfold sliceL
      by_cases hz : l.length = 0
      · have : l = [] := List.eq_nil_of_length_eq_zero hz
        subst this; simp
      · have e1 : clipL l.length 0 i = 0 := by first | lia | omega
        have e2 : clipL l.length l.length j = l.length := by first | lia | omega
        rw [e1, e2]; simp
    rw [e] at k
    exact k _ _ _ P3 Sall (.str _ _)
  · refine ⟨?_, ?_⟩
    · show (Str.mk _).length ≤ sizeLine
      rw [pickL, S_length]
      exact Nat.le_trans (sliceL_length_le l i j) hl
    · rw [pickL]
      exact k _ _ _ P3 Sall (.str _ _)

theorem ev_item_str {v x : Expr} {pos : Pos} {l : List Nat} {i : Int} {a : Nat} (hv : Ev c A env σ v (.str l)) (hi : Ev c A env σ x (.int i)) (hj : (seqIndex? i l.length).bind (l[·]?) = some a) (hf : -1000000 < i ∧ i < 1000000)
    (hs : ∀ o i, subscripted x false o i = operate [o, i] (getItem o i) := by intro _ _; rfl) :
    Ev c A env σ (.Subscript v x pos) (.str [a]) := by
  intro P s G Q E k
  refine my_Subscript (hv.val G fun u h1 t1 P1 S1 G1 R1 => hi.val G1 fun w h2 t2 P2 S2 G2 R2 => ?_) (fun o i => ⟨_, hs o i⟩)
  obtain ⟨_, rfl⟩ := R1.str_inv; obtain ⟨_, rfl⟩ := R2.int_inv
  have hc : Txt.charAt (S l) i = some a := by unfold Txt.charAt; rw [S_length]; simpa [S] using hj
  refine SB.item ?_ (by rw [hc]; rfl) ?_
  · unfold fitsSsize; simp only [Bool.not_eq_true', Bool.or_eq_false_iff, decide_eq_false_iff_not]; (first | lia | omega)
  · have : Txt.item (S l) i = S [a] := by unfold Txt.item; rw [hc]; rfl
    rw [this]
    exact k _ h2 _ P2 (S1.trans S2) (.str _ _)

theorem isList_of {P : Facts} {h : Heap} (ok : ∀ a o, P a o → h.get? a = some o) {a : Addr} {vs : List Value} {n : Nat} (hp : P a (listO vs n)) : h.IsList a vs.toArray := ⟨_, ok _ _ hp, rfl, n, rfl⟩
theorem isTup_of {P : Facts} {h : Heap} (ok : ∀ a o, P a o → h.get? a = some o) {a : Addr} {vs : List Value} {n : Nat} (hp : P a (tupO vs n)) : IsTup h a vs.toArray := ⟨_, ok _ _ hp, rfl, n, rfl⟩

theorem getItem_L {s : Shared} {l : Addr} {vs : List Value} {k : Int} {u : Tok} {j : Nat} {v : Value} {Q : Value → Shared → Prop} {E : Value → Shared → Prop} (hl : s.heap.IsList l vs.toArray) (hf : -1000000 < k ∧ k < 1000000)
    (hj : seqIndex? k vs.length = some j) (hx : vs[j]? = some v) (h : Q v s) : wpAny c.M A (getItem (.ref l) (.int k u)) Q E s := by
  by_cases h0 : 0 ≤ k
  · refine wpAny_getItem_list hl h0 (by first | lia | omega) (x := v) ?_ h
    have e : j = k.toNat := by
      unfold seqIndex? at hj
      dsimp only at hj
      rw [if_neg (show ¬ k < 0 by first | lia | omega)] at hj
      by_cases hq : (decide (0 ≤ k) && decide (k < (vs.length : Int))) = true
      · rw [if_pos hq] at hj; exact (Option.some.inj hj).symm
      · rw [if_neg hq] at hj; cases hj
    subst e
    simpa using hx
  · exact kde_getNeg hl (by first | lia | omega) (by first | lia | omega) hj hx h

theorem ev_item_tup {v x : Expr} {pos : Pos} {ds : List D} {i : Int} {j : Nat} {d : D} (hv : Ev c A env σ v (.tup ds)) (hi : Ev c A env σ x (.int i)) (hj : seqIndex? i ds.length = some j) (hd : ds[j]? = some d) (hf : -1000000 < i ∧ i < 1000000)
    (hs : ∀ o i, subscripted x false o i = operate [o, i] (getItem o i) := by intro _ _; rfl) :
    Ev c A env σ (.Subscript v x pos) d := by
  intro P s G Q E k
  refine my_Subscript (hv.val G fun u h1 t1 P1 S1 G1 R1 => hi.val G1 fun w h2 t2 P2 S2 G2 R2 => ?_) (fun o i => ⟨_, hs o i⟩)
  obtain ⟨_, rfl⟩ := R2.int_inv
  obtain ⟨_, _, _, rfl, hp, RL⟩ := R1.tup_inv
  obtain ⟨y, hy, Ry⟩ := RL.get hd
  have hl := isTup_of S2.ok (S2.sub _ _ hp)
  exact ⟨"tuple", _, PyProof.Rows.slot_tuple_getitem.lookup, hl.typeIs, getItem_tuple hl (by first | lia | omega) (by first | lia | omega) (by simpa [RL.length] using hj) (by simpa using hy) (k y h2 t2 P2 (S1.trans S2) (Ry.mono S2.sub))⟩

theorem RepL.slice {P : Facts} {vs : List Value} {ds : List D} (h : RepL c P vs ds) (lo hi : Option Int) : RepL c P (sliceL vs lo hi) (sliceL ds lo hi) := by
  unfold sliceL
  rw [h.length]
  exact (h.drop _).take _

theorem ev_slice_list {v : Expr} {lo hi : Option Expr} {p pos : Pos} {ds : List D} {i j : Option Int} (hv : Ev c A env σ v (.list ds)) (hlo : EvO c A env σ lo i) (hhi : EvO c A env σ hi j) (hl : ds.length ≤ sizeLine) :
    Ev c A env σ (.Subscript v (.Slice lo hi none p) pos) (.list (sliceL ds i j)) := by
  intro P s G Q E k
  refine my_Subscript (hv.val G fun u h1 t1 P1 S1 G1 R1 => ?_) (fun o i => ⟨_, rfl⟩)
  refine wpAny_Slice (hlo.val G1 fun vl h2 t2 P2 tt S2 G2 e2 => hhi.val G2 fun vu h3 t3 P3 tt' S3 G3 e3 => ?_)
  rw [evalPart_none]
  refine wpAny_pure ?_
  subst e2; subst e3
  obtain ⟨a, vs, n, rfl, hp, RL⟩ := R1.list_inv
  have hL : h3.IsList a vs.toArray := isList_of S3.ok (S3.sub _ _ (S2.sub _ _ hp))
  have hpart : ∀ (o : Option Int) (t : Tok), IsPart (partValue (o.map fun x => (x, t))) o := by
    intro o t; cases o with
    | none => exact .none
    | some i => exact .int i t
  refine ⟨"list", _, slot_list_getitem.lookup, (hL.push _).typeIs, wpAny_getItem_list_slice (hL.push _) (Heap.IsSliceOf.new ..) (hpart i tt) (hpart j tt') .none (by simp) ?_ (by simpa [RL.length] using hl)⟩
  have Sa : Step P1 P3 h1 (h3.push { cls := .type "slice", data := .fields #[partValue (i.map fun x => (x, tt)), partValue (j.map fun x => (x, tt')), .none] }) :=
    (S2.trans S3).trans (Step.heap S3.ok fun b o e => Heap.get?_push_of_some _ e)
  have e : (slicePick vs.toArray i j none) = (sliceL vs i j).toArray := by
    rw [slicePick_plain]
    simp only [sliceL, clipL, List.size_toArray]
    cases i <;> cases j <;> rfl
  rw [e]
  have Sb := push_step (o := listO (sliceL vs i j) 0) Sa.ok
  exact k _ _ _ _ (S1.trans (Sa.trans Sb)) (.list (.inr ⟨rfl, rfl⟩) ((RL.slice i j).mono fun b o e => Sb.sub _ _ (Sa.sub _ _ e)))
end
end
section

section
variable {c : Cx} {A : Around} {env : Env} {σ : Sto}

noncomputable def Fn (c : Cx) (n : Nat) (f : Addr) (args : List D) (res : D) : Prop :=
  ∀ (A : Around), AOk n A → ∀ (P : Facts) (s : Shared) (vs : List Value), Tops c s.heap → (∀ a o, P a o → s.heap.get? a = some o) → RepL c P vs args →
    ∀ (R : Result → Shared → Prop), (∀ v h' tk P', Step P P' s.heap h' → Rep c P' v res → R (.ok (.ret v)) { s with heap := h', toks := tk }) → codeAny c.M A (.call (.ref f) ⟨vs, []⟩) R s

theorem evalArgs_L {pos : Pos} {es : List Expr} {ds : List D} (ha : EvL c A env σ pos es ds) (hne : starEach es env = [] ∨ ∃ x r, starEach es env = (false, x) :: r) {f : Value} {P : Facts} {s : Shared} (G : Good c env σ P s)
    {Q : Args → Shared → Prop} {E : Value → Shared → Prop} (k : ∀ vs h' tk P', Step P P' s.heap h' → Good c env σ P' { s with heap := h', toks := tk } → RepL c P' vs ds → Q ⟨vs, []⟩ { s with heap := h', toks := tk }) :
    wpAny c.M A (evalArgs f true (backTo pos (starEach es env)) []) Q E s := by
  have h := ha P s G (fun vs s' => Q ⟨vs, []⟩ s') E fun vs h' tk P' S R => k vs h' tk P' S (G.step S) R
  rcases hne with e | ⟨x, r, e⟩
  · rw [e] at h ⊢
    unfold evalArgs
    show wpAny c.M A (spliced [] >>= fun vs => pure (vs, none) >>= _) Q E s
    refine wpAny_bind (wpAny_mono h (fun vs s' h' => ?_) fun _ _ x => x)
    refine wpAny_bind (wpAny_pure ?_)
    refine wpAny_holding ?_
    exact wpAny_bind (wpAny_pure (wpAny_bind (wpAny_pure (wpAny_pure h'))))
  · rw [e] at h ⊢
    exact Calls.evalArgs_plain h

theorem load_global {n : String} {p : Pos} {v : Value} {P : Facts} {s : Shared} (G : Good c env σ P s) (hk : env.kindOf (Str.ofString n) = some .globalImplicit) (hg : c.mg (Str.ofString n) = some v)
    (hd : ((Str.ofString n) == ("__debug__" : Str)) = false) {Q : Value → Shared → Prop} {E : Value → Shared → Prop} (h : Q v s) : wpAny c.M A (eval (.Name (Str.ofString n) p) env) Q E s := by
  refine wpAny_Name (ks_loadName_global G.eok.kind hk ?_) hd
  unfold loadGlobal
  rw [G.eok.globals]
  refine wpAny_bind (wpAny_nsGet G.tops.g ?_)
  rw [hg]
  exact wpAny_pure h
theorem load_builtin {n : String} {p : Pos} {v : Value} {P : Facts} {s : Shared} (G : Good c env σ P s) (hk : env.kindOf (Str.ofString n) = some .globalImplicit) (hg : c.mg (Str.ofString n) = none)
    (hb : bootBuiltins (Str.ofString n) = some v) (hn : (Str.ofString n) ≠ "__name__") (hd : ((Str.ofString n) == ("__debug__" : Str)) = false) {Q : Value → Shared → Prop} {E : Value → Shared → Prop} (h : Q v s) : wpAny c.M A (eval (.Name (Str.ofString n) p) env) Q E s := by
  refine wpAny_Name (ks_loadName_global G.eok.kind hk ?_) hd
  unfold loadGlobal
  rw [G.eok.globals, G.eok.builtins]
  refine wpAny_bind (wpAny_nsGet G.tops.g ?_)
  rw [hg]
  refine wpAny_bind (wpAny_nsGet G.tops.b ?_)
  rw [G.tops.bb _ hn, hb]
  exact wpAny_pure h

theorem ev_call {n : String} {np pos : Pos} {es : List Expr} {ds : List D} {d : D} {k : Nat} {f : Addr} {o : Obj} {fd : FuncData}
    (hk : env.kindOf (Str.ofString n) = some .globalImplicit) (hg : c.mg (Str.ofString n) = some (.ref f)) (hK : c.K.lookup f = some o) (ho : o.data = .func fd)
    (ha : EvL c A env σ pos es ds) (hF : Fn c k f ds d) (hA : AOk k A) (hne : starEach es env = [] ∨ ∃ x r, starEach es env = (false, x) :: r)
    (hd : ((Str.ofString n) == ("__debug__" : Str)) = false) : Ev c A env σ (.Call (.Name (Str.ofString n) np) es [] pos) d := by
  intro P s G Q E q
  refine wpAny_Call_NameR (load_global G hk hg hd (Calls.callWith_function (o := o) (fd := fd) (evalArgs_L ha hne G fun vs h1 t1 P1 S1 G1 R1 => ⟨⟨G1.tops.k _ _ hK, ho⟩, ?_⟩)))
  refine wpAny_call (hF A hA P1 _ vs G1.tops G1.ok R1 _ fun v h' tk P' S R => ?_)
  exact q v h' tk P' (S1.trans S) R

theorem ev_call_builtin {n id : String} {np pos : Pos} {es : List Expr} {ds : List D} {d : D}
    (hk : env.kindOf (Str.ofString n) = some .globalImplicit) (hg : c.mg (Str.ofString n) = none) (hb : bootBuiltins (Str.ofString n) = some (.builtin id)) (hn : (Str.ofString n) ≠ "__name__")
    (ha : EvL c A env σ pos es ds) (hne : starEach es env = [] ∨ ∃ x r, starEach es env = (false, x) :: r) (hpl : (backTo pos (starEach es env)).any (·.1) = false)
    (hd : ((Str.ofString n) == ("__debug__" : Str)) = false)
    (H : ∀ (P : Facts) (s : Shared) (vs : List Value), (∀ a o, P a o → s.heap.get? a = some o) → Tops c s.heap → RepL c P vs ds → ∀ (Q : Value → Shared → Prop) (E : Value → Shared → Prop),
      (∀ r h' tk P', Step P P' s.heap h' → Rep c P' r d → Q r { s with heap := h', toks := tk }) → wpAny c.M A (call (.builtin id) vs) Q E s) :
    Ev c A env σ (.Call (.Name (Str.ofString n) np) es [] pos) d := by
  intro P s G Q E q
  refine wpAny_Call_NameR (load_builtin G hk hg hb hn hd (Calls.callWith_builtin hpl (evalArgs_L ha hne G fun vs h1 t1 P1 S1 G1 R1 => ?_)))
  exact H P1 _ vs G1.ok G1.tops R1 Q E fun r h' tk P' S R => q r h' tk P' (S1.trans S) R

noncomputable def lenD : D → Option Nat
  | .str l => some l.length
  | .list ds => some ds.length
  | .tup ds => some ds.length
  | _ => Option.none

theorem ev_len {np pos : Pos} {e : Expr} {d : D} {n : Nat} (hk : env.kindOf (Str.ofString "len") = some .globalImplicit) (hg : c.mg (Str.ofString "len") = none)
    (h : Ev c A env σ e d) (hl : lenD d = some n) (hn : n < 2 ^ 62) (he : starEach [e] env = [(false, eval e env)] := by rfl) : Ev c A env σ (.Call (.Name (Str.ofString "len") np) [e] [] pos) (.int n) := by
  refine ev_call_builtin hk hg Boot.«len» (by decide +kernel) (evl_cons h evl_nil he) (.inr ⟨_, _, he⟩) (by rw [he]; rfl) (by decide +kernel) ?_
  intro P s vs ok T RL Q E q
  have hInv := RL.cons_inv; clear RL; obtain ⟨_, _, rfl, R, RL⟩ := hInv
  obtain rfl := RL.nil_inv; clear RL
  cases d with
  | str l =>
    cases hl
    obtain ⟨_, rfl⟩ := R.str_inv
    refine PySem.P.len_str (by rw [S_length]; (first | lia | omega)) ?_
    rw [S_length]
    exact q _ s.heap _ P (Step.refl ok) (.int _ _)
  | list ds =>
    cases hl
    obtain ⟨_, _, _, rfl, hp, RL⟩ := R.list_inv
    refine len_list (isList_of ok hp) (by rw [List.size_toArray, RL.length]; (first | lia | omega)) ?_
    rw [List.size_toArray, RL.length]
    exact q _ s.heap _ P (Step.refl ok) (.int _ _)
  | tup ds =>
    cases hl
    obtain ⟨_, _, _, rfl, hp, RL⟩ := R.tup_inv
    refine len_tuple (isTup_of ok hp) (by rw [List.size_toArray, RL.length]; (first | lia | omega)) ?_
    rw [List.size_toArray, RL.length]
    exact q _ s.heap _ P (Step.refl ok) (.int _ _)
  | none | bool | int | dict => cases hl

theorem ev_smeth {o : Expr} {name id : String} {apos pos : Pos} {es : List Expr} {l : List Nat} {ds : List D} {d : D} (slot : PySem.Slot "str" (Str.ofString name) id) (ty : typeOf (.builtin id) = pure (.type "method_descriptor"))
    (ho : Ev c A env σ o (.str l)) (ha : EvL c A env σ pos es ds) (hne : starEach es env = [] ∨ ∃ x r, starEach es env = (false, x) :: r) (hpl : (backTo pos (starEach es env)).any (·.1) = false)
    (hbase : attributeBase o (Str.ofString name) env (eval o env) = eval o env)
    (hfew : ((backTo pos (starEach es env)).all (fun x => !x.1) && (backToKw pos (keywordEach [] env)).all (fun x => x.1.isSome)
      && decide (es.length + ([] : List Keyword).length + (if ([] : List Keyword).isEmpty then 0 else 1) < 30)) = true) (hline : (apos.endLine == pos.line) = true)
    (H : ∀ (P : Facts) (s : Shared) (t : Tok) (vs : List Value), (∀ a o, P a o → s.heap.get? a = some o) → Tops c s.heap → RepL c P vs ds → ∀ (Q : Value → Shared → Prop) (E : Value → Shared → Prop),
      (∀ r h' tk P', Step P P' s.heap h' → Rep c P' r d → Q r { s with heap := h', toks := tk }) → wpAny c.M A (call (.builtin id) (.str (S l) t :: vs)) Q E s) :
    Ev c A env σ (.Call (.Attribute o (Str.ofString name) apos) es [] pos) d := by
  intro P s G Q E q
  refine wpAny_Call_method hbase hfew hline F.plainAttrs_str slot ty (ho.val G fun v h1 t1 P1 S1 G1 R1 => ?_)
  obtain ⟨_, rfl⟩ := R1.str_inv
  refine ⟨typeIs_str _ _ _, fun _ e => (nomatch e), Calls.callWith_builtin hpl (evalArgs_L ha hne G1 fun vs h2 t2 P2 S2 G2 R2 => ?_)⟩
  exact H P2 _ _ vs G2.ok G2.tops R2 Q E fun r h' tk P' S R => q r h' tk P' ((S1.trans S2).trans S) R
end
end
section
open PySem PySem.W PyProof.Rows PySem.StrLaws PySem.Builtin.Str


theorem subAt_L (l sub : List Nat) (i : Nat) : subAt (S l) (S sub) i = true ↔ sub <+: l.drop i := by
  rw [subAt_eq, S_toList, S_toList, S_length, List.prefix_iff_eq_take]
  simp only [beq_iff_eq]
  exact eq_comm

theorem at_L (l sub : List Nat) (hi i : Nat) : At (S l) (S sub) hi i ↔ i + sub.length ≤ hi ∧ sub <+: l.drop i := by
  unfold At
  rw [subAt_L, S_length]

noncomputable def findL (l sub : List Nat) (lo hi : Nat) : Int :=
  match (List.range' lo (hi + 1 - lo)).find? (fun i => decide (i + sub.length ≤ hi) && sub.isPrefixOf (l.drop i)) with
  | some i => (i : Int)
  | none => -1

theorem findL_spec (l sub : List Nat) (lo hi : Nat) :
    (findL l sub lo hi = -1 ∧ ∀ i, lo ≤ i → i + sub.length ≤ hi → ¬ sub <+: l.drop i) ∨
    (∃ k : Nat, findL l sub lo hi = k ∧ lo ≤ k ∧ k + sub.length ≤ hi ∧ sub <+: l.drop k ∧ ∀ i, lo ≤ i → i < k → ¬ sub <+: l.drop i) := by
  unfold findL
  cases hf : (List.range' lo (hi + 1 - lo)).find? (fun i => decide (i + sub.length ≤ hi) && sub.isPrefixOf (l.drop i)) with
  | none =>
    refine .inl ⟨rfl, fun i h1 h2 h3 => ?_⟩
    rw [List.find?_eq_none] at hf
    refine hf i (by rw [List.mem_range'_1]; (first | lia | omega)) ?_
    simp only [Bool.and_eq_true, decide_eq_true_eq, List.isPrefixOf_iff_prefix]
    exact ⟨h2, h3⟩
  | some k =>
    refine .inr ⟨k, rfl, ?_⟩
    obtain ⟨hk, as, bs, e, hn⟩ := List.find?_eq_some_iff_append.mp hf
    simp only [Bool.and_eq_true, decide_eq_true_eq, List.isPrefixOf_iff_prefix] at hk
    have hm : k ∈ List.range' lo (hi + 1 - lo) := by rw [e]; simp
    rw [List.mem_range'_1] at hm
    refine ⟨hm.1, hk.1, hk.2, fun i h1 h2 h3 => ?_⟩
    have hlen : as.length = k - lo := by
      have h5 : (List.range' lo (hi + 1 - lo))[as.length]? = some k := by rw [e]; simp
      rw [List.getElem?_range' (by have := congrArg List.length e; simp at this; (first | lia | omega))] at h5
      have := Option.some.inj h5
      (first | lia | omega)
    have hi' : i ∈ as := by
      have h6 : as[i - lo]? = some i := by
        have h7 : (List.range' lo (hi + 1 - lo))[i - lo]? = as[i - lo]? := by rw [e, List.getElem?_append_left (by first | lia | omega)]
        rw [← h7, List.getElem?_range' (by first | lia | omega)]
        congr 1; (first | lia | omega)
      exact List.mem_of_getElem? h6
    have := hn i hi'
    simp only [Bool.not_eq_true', Bool.and_eq_false_iff, decide_eq_false_iff_not] at this
    rcases this with q | q
    · (first | lia | omega)
    · rw [List.isPrefixOf_iff_prefix.mpr h3] at q; cases q

theorem occ_findL (l sub : List Nat) (lo hi : Nat) : (match occurrences (S l) (S sub) lo hi 1 with | k :: _ => (k : Int) | [] => -1) = findL l sub lo hi := by
  rw [occ_eq]
  rcases occ_first (S l) (S sub) hi 1 (Nat.le_refl _) (List.range' lo (hi + 1 - lo)) lo (fun i hi' => by rw [List.mem_range'_1] at hi'; exact hi'.1) with ⟨h0, hn⟩ | ⟨pre, a, post, e, h0, ha, hn⟩
  · rw [h0]
    show (-1 : Int) = _
    unfold findL
    rw [List.find?_eq_none.mpr]
    intro i hi' hq
    simp only [Bool.and_eq_true, decide_eq_true_eq, List.isPrefixOf_iff_prefix] at hq
    exact hn i hi' ((at_L _ _ _ _).mpr hq)
  · have hL : ∃ t, (forIn (List.range' lo (hi + 1 - lo)) ((#[] : Array Nat), lo) (occBody (S l) (S sub) hi 1)).run.fst.toList = a :: t := by
      generalize (forIn (List.range' lo (hi + 1 - lo)) ((#[] : Array Nat), lo) (occBody (S l) (S sub) hi 1)).run.fst = arr at h0
      have h1 : arr.toList[0]? = some a := by simpa using h0
      cases hq : arr.toList with
      | nil => rw [hq] at h1; cases h1
      | cons b t => rw [hq] at h1; simp at h1; exact ⟨t, by rw [h1]⟩
    obtain ⟨t, ht⟩ := hL
    rw [ht]
    show (a : Int) = _
    unfold findL
    have : (List.range' lo (hi + 1 - lo)).find? (fun i => decide (i + sub.length ≤ hi) && sub.isPrefixOf (l.drop i)) = some a := by
      rw [List.find?_eq_some_iff_append]
      refine ⟨?_, pre, post, e, fun i hi' => ?_⟩
      · have := (at_L _ _ _ _).mp ha
        simp only [Bool.and_eq_true, decide_eq_true_eq, List.isPrefixOf_iff_prefix]; exact this
      · have := hn i hi'
        rw [at_L] at this
        simp only [Bool.not_eq_true', Bool.and_eq_false_iff, decide_eq_false_iff_not]
        by_cases h5 : i + sub.length ≤ hi
        · refine .inr ?_
          rw [Bool.eq_false_iff]; intro q; exact this ⟨h5, List.isPrefixOf_iff_prefix.mp q⟩
        · exact .inl h5
    rw [this]

theorem contains_L (l sub : List Nat) : Txt.contains (S l) (S sub) = true ↔ ∃ i, i ≤ l.length ∧ sub <+: l.drop i := by
  unfold Txt.contains
  have hl : (S l).length = l.length := S_length l
  rcases occ_head (S l) (S sub) 1 (Nat.le_refl _) with ⟨h0, hn⟩ | ⟨i, r, h0, ha, hn⟩
  · rw [h0]
    simp only [List.isEmpty_nil, Bool.not_true, Bool.false_eq_true, false_iff]
    rintro ⟨i, hi, hp⟩
    refine hn i ?_
    rw [at_L, hl]
    have := hp.length_le
    rw [List.length_drop] at this
    exact ⟨by first | lia | omega, hp⟩
  · rw [h0]
    simp only [List.isEmpty_cons, Bool.not_false, true_iff]
    rw [at_L, hl] at ha
    exact ⟨i, by first | lia | omega, ha.2⟩

inductive SplitR (sep : List Nat) : List Nat → List (List Nat) → Prop
  | last {l : List Nat} : (∀ i, ¬ sep <+: l.drop i) → SplitR sep l [l]
  | cut {a b : List Nat} {ps : List (List Nat)} : (∀ i, i < a.length → ¬ sep <+: (a ++ (sep ++ b)).drop i) → SplitR sep b ps → SplitR sep (a ++ (sep ++ b)) (a :: ps)

noncomputable def Gr (l sep : List Nat) : Nat → List Nat → Nat → Prop
  | a, [], f => f = a
  | a, c :: r, f => a ≤ c ∧ c + sep.length ≤ l.length ∧ sep <+: l.drop c ∧ (∀ i, a ≤ i → i < c → ¬ sep <+: l.drop i) ∧ Gr l sep (c + sep.length) r f

theorem Gr.snoc {l sep : List Nat} : ∀ {a : Nat} {cuts : List Nat} {f i : Nat}, Gr l sep a cuts f → f ≤ i → i + sep.length ≤ l.length → sep <+: l.drop i → (∀ k, f ≤ k → k < i → ¬ sep <+: l.drop k) → Gr l sep a (cuts ++ [i]) (i + sep.length)
  | a, [], f, i, h, hf, hl, hp, hn => by
    have e : f = a := h
    subst e
    exact ⟨hf, hl, hp, hn, rfl⟩
  | a, c :: r, f, i, ⟨h1, h2, h3, h4, h5⟩, hf, hl, hp, hn => ⟨h1, h2, h3, h4, Gr.snoc h5 hf hl hp hn⟩

theorem occ_gr (l sep : List Nat) (lim : Nat) : ∀ (m i : Nat) (st : Array Nat × Nat), i + m ≤ l.length + 1 → l.length < lim → st.1.size ≤ i → Gr l sep 0 st.1.toList st.2 → (∀ k, st.2 ≤ k → k < i → ¬ (k + sep.length ≤ l.length ∧ sep <+: l.drop k)) → 1 ≤ sep.length →
    Gr l sep 0 (forIn (List.range' i m) st (occBody (S l) (S sep) l.length lim)).run.fst.toList (forIn (List.range' i m) st (occBody (S l) (S sep) l.length lim)).run.snd ∧
    ∀ k, (forIn (List.range' i m) st (occBody (S l) (S sep) l.length lim)).run.snd ≤ k → k < i + m → ¬ (k + sep.length ≤ l.length ∧ sep <+: l.drop k)
  | 0, i, st, _, _, _, hg, hn, _ => ⟨hg, fun k h1 h2 => hn k h1 (by first | lia | omega)⟩
  | m + 1, i, st, hle, hlim, hsz, hg, hn, hs => by
    rw [List.range'_succ, List.forIn_cons]
    unfold occBody
    split
    · rename_i hc
      have ha := (at_L l sep l.length i).mp ⟨hc.1.2, hc.2⟩
      have := occ_gr l sep lim m (i + 1) (st.1.push i, i + (S sep).length) (by first | lia | omega) hlim (by simp; (first | lia | omega)) (by
        rw [S_length]
        simp only [Array.toList_push]
        exact hg.snoc hc.1.1.2 ha.1 ha.2 fun k h1 h2 h3 => hn k h1 h2 ⟨by have := h3.length_le; rw [List.length_drop] at this; (first | lia | omega), h3⟩) (by
        intro k h1 h2
        simp only [S_length] at h1
        (first | lia | omega)) hs
      rw [show i + (m + 1) = i + 1 + m from by first | lia | omega]
      exact this
    · rename_i hc
      have := occ_gr l sep lim m (i + 1) st (by first | lia | omega) hlim (by first | lia | omega) hg (by
        intro k h1 h2 h3
        by_cases hk : k < i
        · exact hn k h1 hk h3
        · have hki : k = i := by first | lia | omega
          subst hki
          have h4 := (at_L l sep l.length k).mpr h3
          exact hc ⟨⟨⟨by first | lia | omega, h1⟩, h4.1⟩, h4.2⟩) hs
      rw [show i + (m + 1) = i + 1 + m from by first | lia | omega]
      exact this

theorem strSub_L (l : List Nat) (i j : Nat) : (strSub (S l) i j).cps.toList = (l.drop i).take (j - i) := by rw [strSub_toList, S_toList]

theorem split_parts (l sep : List Nat) : ∀ (cuts : List Nat) (a f : Nat), Gr l sep a cuts f → (∀ k, f ≤ k → ¬ (k + sep.length ≤ l.length ∧ sep <+: l.drop k)) → a ≤ l.length → 1 ≤ sep.length →
    SplitR sep (l.drop a) ((partsFrom (S l) (S sep).length a cuts).map (·.cps.toList))
  | [], a, f, hg, hn, ha, hs => by
    have e : f = a := hg
    subst e
    show SplitR sep _ [(strSub (S l) f (S l).length).cps.toList]
    rw [strSub_L, S_length, List.take_of_length_le (by simp)]
    refine .last fun i hp => ?_
    rw [List.drop_drop] at hp
    refine hn (f + i) (by first | lia | omega) ⟨?_, hp⟩
    have := hp.length_le
    rw [List.length_drop] at this
    (first | lia | omega)
  | c :: r, a, f, ⟨h1, h2, h3, h4, h5⟩, hn, ha, hs => by
    have ih := split_parts l sep r (c + sep.length) f h5 hn h2 hs
    show SplitR sep _ ((strSub (S l) a c).cps.toList :: (partsFrom (S l) (S sep).length (c + (S sep).length) r).map (·.cps.toList))
    rw [strSub_L, S_length]
    rw [S_length] at ih
    have e1 : l.drop a = (l.drop a).take (c - a) ++ (sep ++ l.drop (c + sep.length)) := by
      have : sep ++ l.drop (c + sep.length) = (l.drop a).drop (c - a) := by
        rw [List.drop_drop, show a + (c - a) = c from by first | lia | omega]
        have e2 : sep = (l.drop c).take sep.length := List.prefix_iff_eq_take.mp h3
        conv => lhs; rw [e2]
        have e3 : ((l.drop c).take sep.length).length = sep.length := by rw [← e2]
        rw [e3, show l.drop (c + sep.length) = (l.drop c).drop sep.length from by rw [List.drop_drop]]
        exact List.take_append_drop _ _
      rw [this, List.take_append_drop]
    have hlen : ((l.drop a).take (c - a)).length = c - a := by rw [List.length_take, List.length_drop]; (first | lia | omega)
    conv => rw [e1]
    rw [show ((List.take (c - a) (List.drop a l) ++ (sep ++ List.drop (c + sep.length) l)).take (c - a)) = (l.drop a).take (c - a) from by rw [← e1]]
    refine .cut (fun i hi hp => ?_) ih
    rw [← e1, List.drop_drop] at hp
    rw [hlen] at hi
    exact h4 (a + i) (by first | lia | omega) (by first | lia | omega) hp

noncomputable def splitF (l sep : List Nat) : List (List Nat) := (Txt.split (S l) (S sep)).map (·.cps.toList)

theorem splitF_spec (l sep : List Nat) (hs : sep ≠ []) (hk : ∀ c ∈ sep, c < 256) : SplitR sep l (splitF l sep) := by
  have hs1 : 1 ≤ sep.length := by cases sep with | nil => exact absurd rfl hs | cons => simp
  have hg := occ_gr l sep (l.length + 1) (l.length + 1) 0 (#[], 0) (by first | lia | omega) (by first | lia | omega) (by simp) rfl (by intro k _ h; (first | lia | omega)) hs1
  have eo : occurrences (S l) (S sep) 0 (S l).length ((S l).length + 1) = (forIn (List.range' 0 (l.length + 1)) ((#[] : Array Nat), 0) (occBody (S l) (S sep) l.length (l.length + 1))).run.fst.toList := by
    rw [occ_eq, S_length]; rfl
  have hn : ∀ k, (forIn (List.range' 0 (l.length + 1)) ((#[] : Array Nat), 0) (occBody (S l) (S sep) l.length (l.length + 1))).run.snd ≤ k → ¬ (k + sep.length ≤ l.length ∧ sep <+: l.drop k) := by
    intro k h1 h2
    exact hg.2 k h1 (by first | lia | omega) h2
  have main := split_parts l sep _ 0 _ hg.1 hn (Nat.zero_le _) hs1
  rw [List.drop_zero] at main
  unfold splitF Txt.split
  split
  · rename_i h1
    simp only [Bool.or_eq_true, decide_eq_true_eq] at h1
    show SplitR sep l [(S l).cps.toList]
    rw [S_toList]
    refine .last fun i hp => ?_
    rcases h1 with h1 | h1
    · rw [S_length, S_length] at h1
      have := hp.length_le
      rw [List.length_drop] at this
      (first | lia | omega)
    · have : Builtin.Str.strKind (S sep) = 1 := by
        unfold Builtin.Str.strKind
        rw [if_pos]
        simpa [S] using hk
      rw [this] at h1
      unfold Builtin.Str.strKind at h1
      split at h1 <;> (try split at h1) <;> (first | lia | omega)
  · split
    · rename_i h1 h2
      rw [eo] at h2
      rw [List.isEmpty_iff.mp h2] at main
      show SplitR sep l [(S l).cps.toList]
      rw [S_toList]
      have : SplitR sep l [(strSub (S l) 0 (S l).length).cps.toList] := main
      rwa [strSub_L, S_length, List.drop_zero, List.take_of_length_le (by simp)] at this
    · rw [partsBetween_eq, eo]
      exact main

theorem SplitR.unique {sep : List Nat} (hs : sep ≠ []) : ∀ {l : List Nat} {ps qs : List (List Nat)}, SplitR sep l ps → SplitR sep l qs → ps = qs := by
  intro l ps qs h
  induction h generalizing qs with
  | @last l hn =>
    intro k
    cases k with
    | last _ => rfl
    | @cut a b ps h1 h2 =>
      exfalso
      refine hn a.length ?_
      rw [List.drop_append_of_le_length (Nat.le_refl _)]
      simp
  | @cut a b ps h1 h2 ih =>
    intro k
    generalize he : a ++ (sep ++ b) = l at k
    cases k with
    | last hn =>
      exfalso
      subst he
      refine hn a.length ?_
      rw [List.drop_append_of_le_length (Nat.le_refl _)]
      simp
    | @cut a' b' ps' h1' h2' =>
      have hp : ∀ (a b : List Nat), sep <+: (a ++ (sep ++ b)).drop a.length := by
        intro a b; rw [List.drop_append_of_le_length (Nat.le_refl _)]; simp
      have hlen : a.length = a'.length := by
        rcases Nat.lt_trichotomy a.length a'.length with q | q | q
        · exact absurd (he ▸ hp a b) (h1' a.length q)
        · exact q
        · exact absurd (he ▸ hp a' b') (h1 a'.length q)
      have := List.append_inj he hlen
      obtain ⟨rfl, e2⟩ := this
      have := List.append_cancel_left e2
      subst this
      rw [ih h2']
end
section

theorem map_S (g : Nat → Nat) (l : List Nat) : (⟨(S l).cps.map g⟩ : Str) = S (l.map g) := by simp [S]
theorem sizeLine_val : sizeLine = 16777216 := by decide
theorem tooLong_of {n : Nat} (h : n ≤ sizeLine) : Builtin.Str.tooLong n = false := by
  unfold Builtin.Str.tooLong; simp only [gt_iff_lt, decide_eq_false_iff_not]; (first | lia | omega)

theorem startswith_L (x y : List Nat) : Txt.startswith (S x) (S y) = y.isPrefixOf x := by
  rw [Bool.eq_iff_iff, List.isPrefixOf_iff_prefix]
  unfold Txt.startswith
  rw [Bool.and_eq_true, subAt_L, List.drop_zero, decide_eq_true_eq, S_length, S_length]
  exact ⟨fun h => h.2, fun h => ⟨by have := h.length_le; (first | lia | omega), h⟩⟩
theorem endswith_L (x y : List Nat) : Txt.endswith (S x) (S y) = y.isSuffixOf x := by
  rw [Bool.eq_iff_iff, List.isSuffixOf_iff_suffix]
  unfold Txt.endswith
  rw [Bool.and_eq_true, subAt_L, decide_eq_true_eq, S_length, S_length]
  constructor
  · rintro ⟨h1, h2⟩
    rw [List.suffix_iff_eq_drop]
    have e := List.prefix_iff_eq_take.mp h2
    rw [List.take_of_length_le (by rw [List.length_drop]; (first | lia | omega))] at e
    exact e
  · intro h
    have := h.length_le
    refine ⟨by first | lia | omega, ?_⟩
    rw [← List.suffix_iff_eq_drop.mp h]
    exact List.prefix_refl _

noncomputable def capL : List Nat → List Nat
  | [] => []
  | c :: r => up1 c :: r.map lo1

theorem titleOf_ascii : ∀ c, c < 128 → Unicode.titleOf c = [up1 c] := by decide +kernel

theorem placed_L (l : List Nat) (f : Nat → Nat → List Nat) (g : Nat → Nat → Nat) (h : ∀ i c, l[i]? = some c → f i c = [g i c]) : PySem.placed (S l) f = (l.mapIdx g).toArray := by
  apply Array.toList_inj.mp
  simp only [PySem.placed, Array.toList_flatten, Array.toList_map, Array.toList_mapIdx]
  rw [map_toList_mapIdx]
  show (l.mapIdx f).flatten = _
  have : ∀ (l : List Nat) (f : Nat → Nat → List Nat) (g : Nat → Nat → Nat), (∀ i c, l[i]? = some c → f i c = [g i c]) → (l.mapIdx f).flatten = l.mapIdx g := by
    intro l
    induction l with
    | nil => intro f g _; rfl
    | cons a r ih =>
      intro f g h
      rw [List.mapIdx_cons, List.mapIdx_cons, List.flatten_cons, h 0 a rfl, ih (fun i c => f (i + 1) c) (fun i c => g (i + 1) c) fun i c hc => h (i + 1) c (by simpa using hc)]
      rfl
  exact this l f g h

theorem capitalized_L (l : List Nat) (hA : ∀ c ∈ l, c < 128) : Txt.capitalized (S l) = S (capL l) := by
  unfold Txt.capitalized
  rw [placed_L l _ (fun i c => if i = 0 then up1 c else lo1 c)]
  · cases l with
    | nil => rfl
    | cons a r =>
      show Str.mk _ = Str.mk _
      congr 2
      rw [List.mapIdx_cons]
      simp only [capL, if_true]
      congr 1
      apply List.ext_getElem?
      intro i
      simp
  · intro i c hc
    have hlt := hA c (List.mem_of_getElem? hc)
    by_cases h0 : i = 0
    · subst h0; simp only [beq_self_eq_true, if_true]; exact titleOf_ascii c hlt
    · rw [if_neg h0, if_neg (by simpa using h0)]
      unfold Unicode.lowerAt
      have hc' : (S l).cps[i]? = some c := by simpa [S] using hc
      rw [hc']
      have hne : (c == 0x3A3) = false := by rw [beq_eq_false_iff_ne]; (first | lia | omega)
      simp only [hne, Bool.false_and, Bool.false_eq_true, if_false]
      exact lowerOf_ascii c hlt
theorem capitalize_L (l : List Nat) (hA : ∀ c ∈ l, c < 128) : Txt.capitalize (S l) = S (capL l) := by
  unfold Txt.capitalize
  split
  · rename_i h
    rw [S_length] at h
    have : l = [] := List.eq_nil_of_length_eq_zero (by simpa using h)
    subst this; rfl
  · exact capitalized_L l hA
theorem capL_length (l : List Nat) : (capL l).length = l.length := by cases l <;> simp [capL]

section
variable {c : Cx} {A : Around} {env : Env} {σ : Sto}

theorem ev_upper {o : Expr} {apos pos : Pos} {l : List Nat} (ho : Ev c A env σ o (.str l)) (hA : ∀ c ∈ l, c < 128) (hl : l.length ≤ sizeLine)
    (hbase : attributeBase o (Str.ofString "upper") env (eval o env) = eval o env := by rfl) (hline : (apos.endLine == pos.line) = true := by rfl) : Ev c A env σ (.Call (.Attribute o (Str.ofString "upper") apos) [] [] pos) (.str (l.map up1)) := by
  refine ev_smeth F.slot_str_upper F.type_str_upper ho evl_nil (.inl rfl) rfl hbase rfl hline ?_
  intro P s t vs ok T RL Q E q
  obtain rfl := RL.nil_inv; clear RL
  have e : Txt.upper (S l) = S (l.map up1) := by rw [upper_ascii (by rw [S_toList]; exact hA), map_S]
  refine SC.upper ?_ ?_
  · rw [e, S_length, List.length_map]; exact tooLong_of hl
  · rw [e]; exact q _ s.heap _ P (Step.refl ok) (.str _ _)
theorem ev_lower {o : Expr} {apos pos : Pos} {l : List Nat} (ho : Ev c A env σ o (.str l)) (hA : ∀ c ∈ l, c < 128) (hl : l.length ≤ sizeLine)
    (hbase : attributeBase o (Str.ofString "lower") env (eval o env) = eval o env := by rfl) (hline : (apos.endLine == pos.line) = true := by rfl) : Ev c A env σ (.Call (.Attribute o (Str.ofString "lower") apos) [] [] pos) (.str (l.map lo1)) := by
  refine ev_smeth F.slot_str_lower F.type_str_lower ho evl_nil (.inl rfl) rfl hbase rfl hline ?_
  intro P s t vs ok T RL Q E q
  obtain rfl := RL.nil_inv; clear RL
  have e : Txt.lower (S l) = S (l.map lo1) := by rw [lower_ascii (by rw [S_toList]; exact hA), map_S]
  refine SC.lower ?_ ?_
  · rw [e, S_length, List.length_map]; exact tooLong_of hl
  · rw [e]; exact q _ s.heap _ P (Step.refl ok) (.str _ _)
theorem ev_startswith {o x : Expr} {apos pos : Pos} {l y : List Nat} (ho : Ev c A env σ o (.str l)) (hx : Ev c A env σ x (.str y))
    (hbase : attributeBase o (Str.ofString "startswith") env (eval o env) = eval o env := by rfl) (hline : (apos.endLine == pos.line) = true := by rfl) (he : starEach [x] env = [(false, eval x env)] := by rfl) :
    Ev c A env σ (.Call (.Attribute o (Str.ofString "startswith") apos) [x] [] pos) (.bool (y.isPrefixOf l)) := by
  refine ev_smeth F.slot_str_startswith F.type_str_startswith ho (evl_cons hx evl_nil he) (.inr ⟨_, _, he⟩) (by rw [he]; rfl) hbase (by rw [he]; rfl) hline ?_
  intro P s t vs ok T RL Q E q
  have hInv := RL.cons_inv; clear RL; obtain ⟨_, _, rfl, R, RL⟩ := hInv
  obtain rfl := RL.nil_inv; clear RL; obtain ⟨_, rfl⟩ := R.str_inv
  refine SC.startswith ?_
  rw [startswith_L]
  exact q _ s.heap _ P (Step.refl ok) (.bool _)
theorem ev_endswith {o x : Expr} {apos pos : Pos} {l y : List Nat} (ho : Ev c A env σ o (.str l)) (hx : Ev c A env σ x (.str y))
    (hbase : attributeBase o (Str.ofString "endswith") env (eval o env) = eval o env := by rfl) (hline : (apos.endLine == pos.line) = true := by rfl) (he : starEach [x] env = [(false, eval x env)] := by rfl) :
    Ev c A env σ (.Call (.Attribute o (Str.ofString "endswith") apos) [x] [] pos) (.bool (y.isSuffixOf l)) := by
  refine ev_smeth F.slot_str_endswith F.type_str_endswith ho (evl_cons hx evl_nil he) (.inr ⟨_, _, he⟩) (by rw [he]; rfl) hbase (by rw [he]; rfl) hline ?_
  intro P s t vs ok T RL Q E q
  have hInv := RL.cons_inv; clear RL; obtain ⟨_, _, rfl, R, RL⟩ := hInv
  obtain rfl := RL.nil_inv; clear RL; obtain ⟨_, rfl⟩ := R.str_inv
  refine SC.endswith ?_
  rw [endswith_L]
  exact q _ s.heap _ P (Step.refl ok) (.bool _)

theorem gives_find4 (l sub : List Nat) (i j : Int) (t u v w : Tok) : Gives (Builtin.«str.find» ⟨[.str (S l) t, .str (S sub) u, .int i v, .int j w], []⟩)
    (.int (findL l sub (fromIndex (S l).length i) (min (fromIndex (S l).length j) (S l).length))) := by
  show Gives (match Builtin.Str.occurrences (S l) (S sub) (fromIndex (S l).length i) (min (fromIndex (S l).length j) (S l).length) 1 with | k :: _ => retInt k | [] => (do rule "str.find.not-found"; retInt (-1))) _
  have h := occ_findL l sub (fromIndex (S l).length i) (min (fromIndex (S l).length j) (S l).length)
  cases ho : Builtin.Str.occurrences (S l) (S sub) (fromIndex (S l).length i) (min (fromIndex (S l).length j) (S l).length) 1 with
  | nil =>
    rw [ho] at h
    rw [← h]
    exact .rule (.of_eq rfl)
  | cons k _ =>
    rw [ho] at h
    rw [← h]
    exact .of_eq rfl

theorem ev_find4 {o x a b : Expr} {apos pos : Pos} {l y : List Nat} {i j : Nat} (ho : Ev c A env σ o (.str l)) (hx : Ev c A env σ x (.str y)) (ha : Ev c A env σ a (.int (i : Int))) (hb : Ev c A env σ b (.int (j : Int))) (hj : j ≤ l.length)
    (hbase : attributeBase o (Str.ofString "find") env (eval o env) = eval o env := by rfl) (hline : (apos.endLine == pos.line) = true := by rfl) (he : starEach [x, a, b] env = [(false, eval x env), (false, eval a env), (false, eval b env)] := by rfl)
    (he2 : starEach [a, b] env = [(false, eval a env), (false, eval b env)] := by rfl) (he3 : starEach [b] env = [(false, eval b env)] := by rfl) :
    Ev c A env σ (.Call (.Attribute o (Str.ofString "find") apos) [x, a, b] [] pos) (.int (findL l y i j)) := by
  refine ev_smeth F.slot_str_find F.type_str_find ho (evl_cons hx (evl_cons ha (evl_cons hb evl_nil he3) (by rw [he2, he3])) (by rw [he, he2])) (.inr ⟨_, _, he⟩) (by rw [he]; rfl) hbase (by rw [he]; rfl) hline ?_
  intro P s t vs ok T RL Q E q
  have hInv := RL.cons_inv; clear RL; obtain ⟨_, _, rfl, R, RL⟩ := hInv
  have hInv := RL.cons_inv; clear RL; obtain ⟨_, _, rfl, R2, RL⟩ := hInv
  have hInv := RL.cons_inv; clear RL; obtain ⟨_, _, rfl, R3, RL⟩ := hInv
  obtain rfl := RL.nil_inv; clear RL; obtain ⟨_, rfl⟩ := R.str_inv; obtain ⟨_, rfl⟩ := R2.int_inv; obtain ⟨_, rfl⟩ := R3.int_inv
  refine call_gives F.slot_str_find (typeIs_str _ _ _) F.entry_str_find (F.args_str_find_4 _ _ _ _) (gives_find4 _ _ _ _ _ _ _ _) ?_
  have e1 : fromIndex (S l).length (i : Int) = i := by unfold fromIndex; rw [if_neg (by first | lia | omega)]; (first | lia | omega)
  have e2 : fromIndex (S l).length (j : Int) = j := by unfold fromIndex; rw [if_neg (by first | lia | omega)]; (first | lia | omega)
  rw [e1, e2, S_length, Nat.min_eq_left hj]
  exact q _ s.heap _ P (Step.refl ok) (.int _ _)

noncomputable def D.strs (ls : List (List Nat)) : D := .list (ls.map D.str)

theorem repL_strs {P : Facts} : ∀ (l : List (Str × Tok)), RepL c P (strValues l) ((l.map fun p => p.1.cps.toList).map D.str)
  | [] => .nil
  | (x, t) :: r => .cons (by have := Rep.str (c := c) (P := P) x.cps.toList t; rwa [S_eta] at this) (repL_strs r)

noncomputable def OneList (s : Shared) (s' : Shared) : Prop := s' = s ∨ ∃ o tk, s' = { s with heap := s.heap.push o, toks := tk }

theorem SplitR.length_le {sep : List Nat} (hs : sep ≠ []) : ∀ {l : List Nat} {ps : List (List Nat)}, SplitR sep l ps → ps.length ≤ l.length + 1 := by
  intro l ps h
  induction h with
  | last => simp
  | cut _ _ ih =>
    have : 1 ≤ sep.length := by cases sep with | nil => exact absurd rfl hs | cons => simp
    simp only [List.length_cons, List.length_append]
    (first | lia | omega)
end
end
section

noncomputable def del : Sto → String → Sto
  | [], _ => []
  | (y, u) :: r, x => if y = x then del r x else (y, u) :: del r x
noncomputable def set : Sto → String → Slot → Sto
  | [], x, v => [(x, v)]
  | (y, u) :: r, x, v => if y = x then (x, v) :: del r x else (y, u) :: set r x v

theorem mem_del {σ : Sto} {x y : String} {u : Slot} : (y, u) ∈ del σ x → y ≠ x ∧ (y, u) ∈ σ := by
  induction σ with
  | nil => intro h; cases h
  | cons p r ih =>
    obtain ⟨z, w⟩ := p
    intro h
    unfold del at h
    split at h
    · exact ⟨(ih h).1, .tail _ (ih h).2⟩
    · rcases List.mem_cons.mp h with e | h
      · cases e; rename_i hz; exact ⟨hz, .head _⟩
      · exact ⟨(ih h).1, .tail _ (ih h).2⟩
theorem mem_set {σ : Sto} {x y : String} {u v : Slot} : (y, u) ∈ set σ x v → (y = x ∧ u = v) ∨ (y ≠ x ∧ (y, u) ∈ σ) := by
  induction σ with
  | nil => intro h; rcases List.mem_cons.mp h with e | h; · cases e; exact .inl ⟨rfl, rfl⟩
           · cases h
  | cons p r ih =>
    obtain ⟨z, w⟩ := p
    intro h
    unfold set at h
    split at h
    · rcases List.mem_cons.mp h with e | h
      · cases e; exact .inl ⟨rfl, rfl⟩
      · exact .inr ⟨(mem_del h).1, .tail _ (mem_del h).2⟩
    · rename_i hz
      rcases List.mem_cons.mp h with e | h
      · cases e; exact .inr ⟨hz, .head _⟩
      · rcases ih h with q | q
        · exact .inl q
        · exact .inr ⟨q.1, .tail _ q.2⟩

theorem ns_det {h : Heap} {a : Addr} {m m' : Str → Option Value} (x : h.Ns a m) (y : h.Ns a m') (n : Str) : m n = m' n := by
  obtain ⟨o, es, ep, h1, h2, _, h3⟩ := x
  obtain ⟨o', es', ep', h1', h2', _, h3'⟩ := y
  rw [h1] at h1'; cases h1'
  rw [h2] at h2'; cases h2'
  rw [← h3, ← h3']
theorem cell_det {h : Heap} {a : Addr} {m m' : Option Value} (x : h.IsCell a m) (y : h.IsCell a m') : m = m' := by
  obtain ⟨o, h1, h2⟩ := x
  obtain ⟨o', h1', h2'⟩ := y
  rw [h1] at h1'; cases h1'
  rw [h2] at h2'; cases h2'; rfl
theorem VarIs.det {env : Env} {h : Heap} {x : Str} {v v' : Value} (a : VarIs env h x v) (b : VarIs env h x v') : v = v' := by
  rcases a with ⟨h1, m, h2, h3⟩ | ⟨h1, a, h2, h3⟩ <;> rcases b with ⟨k1, m', k2, k3⟩ | ⟨k1, a', k2, k3⟩
  · rw [ns_det h2 k2, k3] at h3; exact (Option.some.inj h3).symm
  · rw [h1] at k1; cases k1
  · rw [h1] at k1; cases k1
  · rw [h2] at k2; cases k2
    exact Option.some.inj (cell_det h3 k3)

structure Frm (c : Cx) (env : Env) (s₀ : Shared) (P₀ : Facts) (σ : Sto) (P : Facts) (s : Shared) : Prop where
  good : Good c env σ P s
  top0 : Tops c s₀.heap
  same : ∃ h tk, s = { s₀ with heap := h, toks := tk }
  ok0 : ∀ a o, P₀ a o → s₀.heap.get? a = some o
  keep : ∀ b o, s₀.heap.get? b = some o → s.heap.get? b = some o
  sub0 : ∀ a o, P₀ a o → P a o
  new0 : ∀ a o, P a o → P₀ a o ∨ s₀.heap.get? a = none
  ns : ∃ m, s.heap.Ns env.locals m
  loc0 : s₀.heap.get? env.locals = none
  locP : ∀ o, ¬ P env.locals o
  cell : ∀ x a, env.cells.lookup x = some a → (∃ v, s.heap.IsCell a v) ∧ s₀.heap.get? a = none ∧ (∀ o, ¬ P a o) ∧ a ≠ env.locals
  apart : ∀ x y a, env.cells.lookup x = some a → env.cells.lookup y = some a → x = y
  ownF : ∀ x d a, (x, Slot.own d) ∈ σ → VarIs env s.heap (Str.ofString x) (.ref a) → s₀.heap.get? a = none ∧ a ≠ env.locals
  ownA : ∀ x y d d' a, (x, Slot.own d) ∈ σ → (y, Slot.own d') ∈ σ → VarIs env s.heap (Str.ofString x) (.ref a) → VarIs env s.heap (Str.ofString y) (.ref a) → x = y

section
variable {c : Cx} {A : Around} {env : Env} {s₀ : Shared} {P₀ : Facts} {σ : Sto} {P : Facts} {s : Shared}

theorem Frm.poke (F : Frm c env s₀ P₀ σ P s) {I : Addr} {P' : Facts} {h' : Heap} {tk : Nat} (hI0 : s₀.heap.get? I = none) (hIL : I ≠ env.locals) (hIc : ∀ x a, env.cells.lookup x = some a → a ≠ I)
    (hIo : ∀ x d a, (x, Slot.own d) ∈ σ → VarIs env s.heap (Str.ofString x) (.ref a) → a ≠ I)
    (hsub : ∀ a o, IsData o → P a o → P' a o) (hsub0 : ∀ a o, P₀ a o → P' a o) (hok : ∀ a o, P' a o → h'.get? a = some o) (hnew : ∀ a o, P' a o → P a o ∨ (a = I ∧ h'.get? I = some o))
    (hk : ∀ b o, b ≠ I → s.heap.get? b = some o → h'.get? b = some o) : Frm c env s₀ P₀ σ P' { s with heap := h', toks := tk } := by
  have nsk : ∀ m, s.heap.Ns env.locals m → h'.Ns env.locals m := fun m hm => hm.at' fun o e => hk _ o (fun e => hIL e.symm) e
  have ck : ∀ x a v, env.cells.lookup x = some a → s.heap.IsCell a v → h'.IsCell a v := fun x a v hx hc => let ⟨o, ho, hd⟩ := hc; ⟨o, hk _ o (hIc x a hx) ho, hd⟩
  have vk : ∀ {x v}, VarIs env s.heap x v → VarIs env h' x v := by
    intro x v V
    rcases V with ⟨h1, m, h2, h3⟩ | ⟨h1, a, h2, h3⟩
    · exact .inl ⟨h1, m, nsk m h2, h3⟩
    · exact .inr ⟨h1, a, h2, ck x a _ h2 h3⟩
  have htop : Tops c h' := F.top0.keeps fun b o e => hk b o (fun e' => by rw [e', hI0] at e; cases e) (F.keep b o e)
  refine ⟨⟨F.good.eok, htop, hok, fun x d hx => ?_, fun x d hx => ?_⟩, F.top0, ?_, F.ok0, fun b o e => ?_, hsub0, fun a o e => ?_, ?_, F.loc0, fun o e => ?_, fun x a hx => ?_, F.apart, fun x d a hx V => ?_, fun x y d d' a hx hy Vx Vy => ?_⟩
  · obtain ⟨v, V, R⟩ := F.good.vars x d hx
    exact ⟨v, vk V, R.only hsub⟩
  · obtain ⟨a, V, hn, O⟩ := F.good.owns x d hx
    have hne := hIo x d a hx V
    refine ⟨a, vk V, fun o e => ?_, (O.only hsub).keeps (fun _ _ e => e) fun o e => hk _ o hne e⟩
    rcases hnew a o e with q | q
    · exact hn o q
    · exact hne q.1
  · obtain ⟨h, t, e⟩ := F.same
    exact ⟨h', tk, by rw [e]⟩
  · refine hk b o (fun e' => ?_) (F.keep b o e)
    rw [e', hI0] at e; cases e
  · rcases hnew a o e with q | ⟨rfl, _⟩
    · exact F.new0 a o q
    · exact .inr hI0
  · obtain ⟨m, hm⟩ := F.ns
    exact ⟨m, nsk m hm⟩
  · rcases hnew _ o e with q | q
    · exact F.locP o q
    · exact hIL q.1.symm
  · obtain ⟨⟨v, hc⟩, h1, h2, h3⟩ := F.cell x a hx
    refine ⟨⟨v, ck x a v hx hc⟩, h1, fun o e => ?_, h3⟩
    rcases hnew _ o e with q | q
    · exact h2 o q
    · exact hIc x a hx q.1
  · obtain ⟨a', V', hn, O⟩ := F.good.owns x d hx
    have := V.det (vk V')
    cases this
    exact F.ownF x d a hx V'
  · obtain ⟨a', V', _, _⟩ := F.good.owns x d hx
    obtain ⟨b', W', _, _⟩ := F.good.owns y d' hy
    obtain rfl := Value.ref.inj (Vx.det (vk V'))
    obtain rfl := Value.ref.inj (Vy.det (vk W'))
    exact F.ownA x y d d' a hx hy V' W'

theorem Frm.step (F : Frm c env s₀ P₀ σ P s) {P' : Facts} {h' : Heap} {tk : Nat} (S : Step P P' s.heap h') : Frm c env s₀ P₀ σ P' { s with heap := h', toks := tk } := by
  have dead : ∀ a o, P' a o → ∀ o', s.heap.get? a = some o' → P a o := fun a o e o' e' => by
    rcases S.new a o e with q | q
    · exact q
    · rw [e'] at q; cases q
  refine ⟨F.good.step S, F.top0, ?_, F.ok0, fun b o e => S.ext b o (F.keep b o e), fun a o e => S.sub a o (F.sub0 a o e), fun a o e => ?_, ?_, F.loc0, fun o e => ?_, fun x a hx => ?_, F.apart, fun x d a hx V => ?_, fun x y d d' a hx hy Vx Vy => ?_⟩
  · obtain ⟨h, t, e⟩ := F.same
    exact ⟨h', tk, by rw [e]⟩
  · rcases S.new a o e with q | q
    · exact F.new0 a o q
    · refine .inr ?_
      cases z : s₀.heap.get? a with
      | none => rfl
      | some o' => rw [F.keep a o' z] at q; cases q
  · obtain ⟨m, hm⟩ := F.ns
    exact ⟨m, hm.keeps S.ext⟩
  · obtain ⟨m, oo, es, ep, ho, _⟩ := F.ns
    exact F.locP o (dead _ o e _ ho)
  · obtain ⟨⟨v, hc⟩, h1, h2, h3⟩ := F.cell x a hx
    refine ⟨⟨v, hc.keeps S.ext⟩, h1, fun o e => ?_, h3⟩
    obtain ⟨oo, ho, _⟩ := hc
    exact h2 o (dead _ o e _ ho)
  · obtain ⟨a', V', hn, O⟩ := F.good.owns x d hx
    have := V.det (V'.keeps S.ext)
    cases this
    exact F.ownF x d a hx V'
  · obtain ⟨a', V', _, _⟩ := F.good.owns x d hx
    obtain ⟨b', W', _, _⟩ := F.good.owns y d' hy
    obtain rfl := Value.ref.inj (Vx.det (V'.keeps S.ext))
    obtain rfl := Value.ref.inj (Vy.det (W'.keeps S.ext))
    exact F.ownA x y d d' a hx hy V' W'

theorem Frm.weaken (F : Frm c env s₀ P₀ σ P s) {σ' : Sto} (hs : ∀ p ∈ σ', p ∈ σ) : Frm c env s₀ P₀ σ' P s :=
  { F with
    good := { F.good with vars := fun x d hx => F.good.vars x d (hs _ hx), owns := fun x d hx => F.good.owns x d (hs _ hx) }
    ownF := fun x d a hx V => F.ownF x d a (hs _ hx) V
    ownA := fun x y d d' a hx hy V W => F.ownA x y d d' a (hs _ hx) (hs _ hy) V W }

theorem ofString_inj {x y : String} (h : Str.ofString x = Str.ofString y) : x = y := by
  rw [Str.ofString_eq_toList, Str.ofString_eq_toList] at h
  have h1 := congrArg Str.cps h
  have h2 : x.toList.map Char.toNat = y.toList.map Char.toNat := by simpa using h1
  have h3 : x.toList = y.toList := by
    refine List.map_inj_right ?_ |>.mp h2
    intro a b hab
    exact Char.ext (UInt32.toNat_inj.mp hab)
  exact String.ext h3

noncomputable def StoreOk (env : Env) (x : String) : Prop := env.kindOf (Str.ofString x) = some .local ∨ (env.kindOf (Str.ofString x) = some .cell ∧ (env.cells.lookup (Str.ofString x)).isSome = true)

noncomputable def SlotIs (c : Cx) (env : Env) (s₀ : Shared) (P : Facts) (s : Shared) (σ : Sto) (x : String) (v : Value) : Slot → Prop
  | .val d => Rep c P v d
  | .own d => ∃ a, v = .ref a ∧ (∀ o, ¬ P a o) ∧ OwnObj c P s.heap a d ∧ s₀.heap.get? a = none ∧ a ≠ env.locals ∧ ∀ y d', y ≠ x → (y, Slot.own d') ∈ σ → ∀ b, VarIs env s.heap (Str.ofString y) (.ref b) → b ≠ a

theorem Frm.storeV (F : Frm c env s₀ P₀ σ P s) {x : String} {v : Value} {u : Slot} (hx : StoreOk env x) (hu : SlotIs c env s₀ P s σ x v u) {Q : Unit → Shared → Prop} {E : Value → Shared → Prop}
    (k : ∀ h' tk, (∀ b o, b ≠ env.locals → (∀ z a, env.cells.lookup z = some a → b ≠ a) → s.heap.get? b = some o → h'.get? b = some o) → (∀ y w, y ≠ x → VarIs env s.heap (Str.ofString y) w → VarIs env h' (Str.ofString y) w) → VarIs env h' (Str.ofString x) v → Frm c env s₀ P₀ (set σ x u) P { s with heap := h', toks := tk } → Q () { s with heap := h', toks := tk }) : wpAny c.M A (storeName env (Str.ofString x) v) Q E s := by
  have fin : ∀ (C : Addr) (h' : Heap) (tk : Nat), Heap.SameBut C s.heap h' → s₀.heap.get? C = none → (∀ o, ¬ P C o) → (∀ a d, OwnObj c P s.heap a d → a ≠ env.locals → a ≠ C) →
      (∃ m, h'.Ns env.locals m) → (∀ y a, env.cells.lookup y = some a → ∃ w, h'.IsCell a w) → VarIs env h' (Str.ofString x) v →
      (∀ y w, y ≠ x → VarIs env s.heap (Str.ofString y) w → VarIs env h' (Str.ofString y) w) → Frm c env s₀ P₀ (set σ x u) P { s with heap := h', toks := tk } := by
    intro C h' tk sb hC0 hCP hCo hns hcell hvx hvy
    have kp : ∀ b o, b ≠ C → s.heap.get? b = some o → h'.get? b = some o := fun b o hb e => sb.extBut b o hb e
    have okP : ∀ a o, P a o → h'.get? a = some o := fun a o e => kp a o (fun e' => hCP o (e' ▸ e)) (F.good.ok a o e)
    have ownk : ∀ a d, a ≠ env.locals → OwnObj c P s.heap a d → OwnObj c P h' a d := fun a d hl O => O.keeps (fun _ _ e => e) fun o e => kp _ o (hCo a d O hl) e
    have htop : Tops c h' := F.top0.keeps fun b o e => kp b o (fun e' => by rw [e', hC0] at e; cases e) (F.keep b o e)
    refine ⟨⟨F.good.eok, htop, okP, fun y d hy => ?_, fun y d hy => ?_⟩, F.top0, ?_, F.ok0, fun b o e => ?_, F.sub0, F.new0, hns, F.loc0, F.locP, fun y a hy => ?_, F.apart, fun y d a hy V => ?_, fun y z d d' a hy hz Vy Vz => ?_⟩
    · rcases mem_set hy with ⟨rfl, e⟩ | ⟨hne, hm⟩
      · subst e; exact ⟨v, hvx, hu⟩
      · obtain ⟨w, V, R⟩ := F.good.vars y d hm
        exact ⟨w, hvy y w hne V, R⟩
    · rcases mem_set hy with ⟨rfl, e⟩ | ⟨hne, hm⟩
      · subst e
        obtain ⟨a, rfl, h1, h2, h3, h4, h5⟩ := hu
        exact ⟨a, hvx, h1, ownk a d h4 h2⟩
      · obtain ⟨a, V, h1, O⟩ := F.good.owns y d hm
        exact ⟨a, hvy y _ hne V, h1, ownk a d (F.ownF y d a hm V).2 O⟩
    · obtain ⟨h, t, e⟩ := F.same
      exact ⟨h', tk, by rw [e]⟩
    · refine kp b o (fun e' => ?_) (F.keep b o e)
      rw [e', hC0] at e; cases e
    · obtain ⟨_, h1, h2, h3⟩ := F.cell y a hy
      exact ⟨hcell y a hy, h1, h2, h3⟩
    · rcases mem_set hy with ⟨rfl, e⟩ | ⟨hne, hm⟩
      · subst e
        obtain ⟨a', rfl, h1, h2, h3, h4, h5⟩ := hu
        obtain rfl := Value.ref.inj (V.det hvx)
        exact ⟨h3, h4⟩
      · obtain ⟨a', V', _, _⟩ := F.good.owns y d hm
        obtain rfl := Value.ref.inj (V.det (hvy y _ hne V'))
        exact F.ownF y d a hm V'
    · rcases mem_set hy with ⟨rfl, e⟩ | ⟨hne, hm⟩ <;> rcases mem_set hz with ⟨rfl, e'⟩ | ⟨hne', hm'⟩
      · rfl
      · subst e
        obtain ⟨a', rfl, h1, h2, h3, h4, h5⟩ := hu
        obtain rfl := Value.ref.inj (Vy.det hvx)
        obtain ⟨b', W', _, _⟩ := F.good.owns z d' hm'
        obtain rfl := Value.ref.inj (Vz.det (hvy z _ hne' W'))
        exact absurd rfl (h5 z d' hne' hm' _ W')
      · subst e'
        obtain ⟨a', rfl, h1, h2, h3, h4, h5⟩ := hu
        obtain rfl := Value.ref.inj (Vz.det hvx)
        obtain ⟨b', W', _, _⟩ := F.good.owns y d hm
        obtain rfl := Value.ref.inj (Vy.det (hvy y _ hne W'))
        exact absurd rfl (h5 y d hne hm _ W')
      · obtain ⟨a', V', _, _⟩ := F.good.owns y d hm
        obtain ⟨b', W', _, _⟩ := F.good.owns z d' hm'
        obtain rfl := Value.ref.inj (Vy.det (hvy y _ hne V'))
        obtain rfl := Value.ref.inj (Vz.det (hvy z _ hne' W'))
        exact F.ownA y z d d' a hm hm' V' W'
  have hkind := F.good.eok.kind
  rcases hx with hl | ⟨hl, hc⟩
  · obtain ⟨m, hm⟩ := F.ns
    refine wpAny_storeName_local hl hm (fun h' hn' hs' => ?_) (by rw [hkind]; rfl)
    have hvy : ∀ y w, y ≠ x → VarIs env s.heap (Str.ofString y) w → VarIs env h' (Str.ofString y) w := by
      intro y w hy V
      rcases V with ⟨h1, m', h2, h3⟩ | ⟨h1, a, h2, h3⟩
      · refine .inl ⟨h1, _, hn', ?_⟩
        have : Str.ofString y ≠ Str.ofString x := fun e => hy (ofString_inj e)
        simp only [if_neg this]
        rw [ns_det hm h2]; exact h3
      · exact .inr ⟨h1, a, h2, h3.sameBut hs' (F.cell _ a h2).2.2.2⟩
    refine k h' _ (fun b o hb _ e => hs'.extBut b o hb e) hvy (.inl ⟨hl, _, hn', by simp⟩) (fin env.locals h' _ hs' F.loc0 F.locP (fun a d _ hne => hne) ⟨_, hn'⟩ (fun y a hy => ?_) (.inl ⟨hl, _, hn', by simp⟩) hvy)
    obtain ⟨⟨w, hw⟩, _, _, h3⟩ := F.cell y a hy
    exact ⟨w, hw.sameBut hs' h3⟩
  · obtain ⟨C, hC⟩ := Option.isSome_iff_exists.mp hc
    obtain ⟨⟨w0, hw0⟩, hC0, hCP, hCL⟩ := F.cell _ C hC
    refine wpAny_storeName_cell hkind hl hC hw0 fun h' hc' hs' => ?_
    have hvy : ∀ y w, y ≠ x → VarIs env s.heap (Str.ofString y) w → VarIs env h' (Str.ofString y) w := by
      intro y w hy V
      rcases V with ⟨h1, m', h2, h3⟩ | ⟨h1, a, h2, h3⟩
      · exact .inl ⟨h1, m', h2.sameBut hs' (Ne.symm hCL), h3⟩
      · refine .inr ⟨h1, a, h2, h3.sameBut hs' fun e => hy ?_⟩
        subst e
        exact ofString_inj (F.apart _ _ _ h2 hC)
    refine k h' s.toks (fun b o _ hb e => hs'.extBut b o (hb _ _ hC) e) hvy (.inr ⟨hl, C, hC, hc'⟩) ?_
    refine fin C h' _ hs' hC0 hCP (fun a d O _ e => ?_) ?_ (fun y a hy => ?_) (.inr ⟨hl, C, hC, hc'⟩) hvy
    · obtain ⟨o, ho, hd⟩ := O.some
      obtain ⟨o', ho', hd'⟩ := hw0
      rw [e, ho'] at ho; cases ho
      rcases hd with ⟨vs, n, rfl⟩ | ⟨vs, n, rfl⟩ | ⟨vs, n, rfl⟩ <;> cases hd'
    · obtain ⟨m, hm⟩ := F.ns
      exact ⟨m, hm.sameBut hs' (Ne.symm hCL)⟩
    · by_cases e : a = C
      · subst e; exact ⟨_, hc'⟩
      · obtain ⟨⟨w, hw⟩, _, _, _⟩ := F.cell y a hy
        exact ⟨w, hw.sameBut hs' e⟩

theorem Frm.store' (F : Frm c env s₀ P₀ σ P s) {x : String} {v : Value} {u : Slot} (hx : StoreOk env x) (hu : SlotIs c env s₀ P s σ x v u) {Q : Unit → Shared → Prop} {E : Value → Shared → Prop}
    (k : ∀ h' tk, (∀ b o, b ≠ env.locals → (∀ z a, env.cells.lookup z = some a → b ≠ a) → s.heap.get? b = some o → h'.get? b = some o) → (∀ y w, y ≠ x → VarIs env s.heap (Str.ofString y) w → VarIs env h' (Str.ofString y) w) → Frm c env s₀ P₀ (set σ x u) P { s with heap := h', toks := tk } → Q () { s with heap := h', toks := tk }) : wpAny c.M A (storeName env (Str.ofString x) v) Q E s :=
  F.storeV hx hu fun h' tk kp vk _ F' => k h' tk kp vk F'
theorem Frm.store (F : Frm c env s₀ P₀ σ P s) {x : String} {v : Value} {u : Slot} (hx : StoreOk env x) (hu : SlotIs c env s₀ P s σ x v u) {Q : Unit → Shared → Prop} {E : Value → Shared → Prop}
    (k : ∀ h' tk, Frm c env s₀ P₀ (set σ x u) P { s with heap := h', toks := tk } → Q () { s with heap := h', toks := tk }) : wpAny c.M A (storeName env (Str.ofString x) v) Q E s :=
  F.store' hx hu fun h' tk _ _ F' => k h' tk F'
end
end
section

noncomputable def Ex (c : Cx) (A : Around) (env : Env) (σ : Sto) (ss : List Stmt) (N : Sto → Prop) (R : D → Prop) : Prop :=
  ∀ (s₀ : Shared) (P₀ P : Facts) (s : Shared), Frm c env s₀ P₀ σ P s → ∀ (Q : Flow → Shared → Prop) (E : Value → Shared → Prop),
    (∀ σ' P' h' tk, N σ' → (∀ a o, P a o → P' a o) → Frm c env s₀ P₀ σ' P' { s with heap := h', toks := tk } → Q .next { s with heap := h', toks := tk }) →
    (∀ d v P' h' tk, R d → (∀ a o, P a o → P' a o) → Frm c env s₀ P₀ [] P' { s with heap := h', toks := tk } → Rep c P' v d → Q (.ret v) { s with heap := h', toks := tk }) →
    wpAny c.M A (execs ss env) Q E s

section
variable {c : Cx} {A : Around} {env : Env} {σ : Sto} {N : Sto → Prop} {R : D → Prop} {rest : List Stmt}

theorem ex_nil (h : N σ) : Ex c A env σ [] N R := by
  intro s₀ P₀ P s F Q E kn kr
  exact wpAny_execs_nil (kn σ P s.heap s.toks h (fun _ _ e => e) F)

theorem ex_weaken {σ' : Sto} {ss : List Stmt} (hs : ∀ p ∈ σ', p ∈ σ) (h : Ex c A env σ' ss N R) : Ex c A env σ ss N R := by
  intro s₀ P₀ P s F Q E kn kr
  exact h s₀ P₀ P s (F.weaken hs) Q E kn kr

theorem ex_mono {ss : List Stmt} {N' : Sto → Prop} {R' : D → Prop} (h : Ex c A env σ ss N R) (hN : ∀ σ, N σ → N' σ) (hR : ∀ d, R d → R' d) : Ex c A env σ ss N' R' := by
  intro s₀ P₀ P s F Q E kn kr
  exact h s₀ P₀ P s F Q E (fun σ' P' h' tk n => kn σ' P' h' tk (hN _ n)) fun d v P' h' tk r => kr d v P' h' tk (hR _ r)

theorem ex_seq {st : Stmt} {N1 : Sto → Prop} (h1 : ∀ (s₀ : Shared) (P₀ P : Facts) (s : Shared), Frm c env s₀ P₀ σ P s → ∀ (Q : Flow → Shared → Prop) (E : Value → Shared → Prop),
    (∀ σ' P' h' tk, N1 σ' → (∀ a o, P a o → P' a o) → Frm c env s₀ P₀ σ' P' { s with heap := h', toks := tk } → Q .next { s with heap := h', toks := tk }) →
    (∀ d v P' h' tk, R d → (∀ a o, P a o → P' a o) → Frm c env s₀ P₀ [] P' { s with heap := h', toks := tk } → Rep c P' v d → Q (.ret v) { s with heap := h', toks := tk }) →
    wpAny c.M A (exec st env) Q E s) (h2 : ∀ σ', N1 σ' → Ex c A env σ' rest N R) : Ex c A env σ (st :: rest) N R := by
  intro s₀ P₀ P s F Q E kn kr
  refine wpAny_execs_cons (h1 s₀ P₀ P s F _ E (fun σ' P' h' tk n sub F' => ?_) fun d v P' h' tk r sub F' Rv => kr d v P' h' tk r sub F' Rv)
  exact h2 σ' n s₀ P₀ P' _ F' Q E (fun σ2 P2 h2 tk2 n2 sub2 F2 => kn σ2 P2 h2 tk2 n2 (fun a o e => sub2 a o (sub a o e)) F2)
    fun d v P2 h2 tk2 r sub2 F2 Rv => kr d v P2 h2 tk2 r (fun a o e => sub2 a o (sub a o e)) F2 Rv

theorem ex_assign {x : String} {e : Expr} {p pos : Pos} {d : D} {σ' : Sto} (he : Ev c A env σ e d) (hx : StoreOk env x) (hσ : set σ x (.val d) = σ') (h : Ex c A env σ' rest N R)
    (hs : swapsWith e (some (.Name (Str.ofString x) p)) pos.line env = pure false := by rfl) : Ex c A env σ (.Assign [.Name (Str.ofString x) p] e pos :: rest) N R := by
  subst hσ
  refine ex_seq (N1 := fun σ' => σ' = set σ x (.val d)) (fun s₀ P₀ P s F Q E kn kr => ?_) (fun σ' e => e ▸ h)
  refine wpAny_Assign_Name (he.val F.good fun v h1 t1 P1 S1 G1 R1 => ?_) hs
  exact (F.step S1).store (u := .val d) hx R1 fun h' tk F' => kn _ P1 h' tk rfl S1.sub F'

noncomputable def EvF (c : Cx) (A : Around) (env : Env) (σ : Sto) (e : Expr) (d : D) : Prop :=
  ∀ (P : Facts) (s : Shared), Good c env σ P s → ∀ (Q : Value → Shared → Prop) (E : Value → Shared → Prop),
    (∀ a h' tk P', Step P P' s.heap h' → s.heap.get? a = none → (∀ o, ¬ P' a o) → OwnObj c P' h' a d → Q (.ref a) { s with heap := h', toks := tk }) → wpAny c.M A (eval e env) Q E s

theorem Frm.ownSlot {s₀ : Shared} {P₀ P P' : Facts} {s : Shared} {h' : Heap} {tk : Nat} (F : Frm c env s₀ P₀ σ P s) (S : Step P P' s.heap h') {a : Addr} {d : D} {x : String} (ha : s.heap.get? a = none) (hP : ∀ o, ¬ P' a o) (O : OwnObj c P' h' a d) :
    SlotIs c env s₀ P' { s with heap := h', toks := tk } σ x (.ref a) (.own d) := by
  refine ⟨a, rfl, hP, O, ?_, ?_, fun y d' hy hm b V e => ?_⟩
  · cases z : s₀.heap.get? a with
    | none => rfl
    | some o => rw [F.keep a o z] at ha; cases ha
  · rintro rfl
    obtain ⟨m, oo, es, ep, ho, _⟩ := F.ns
    rw [ho] at ha; cases ha
  · obtain ⟨b', V', _, O'⟩ := F.good.owns y d' hm
    obtain rfl := Value.ref.inj (V.det (V'.keeps S.ext))
    subst e
    obtain ⟨o, ho, _⟩ := O'.some
    rw [ho] at ha; cases ha

theorem ex_assign_own {x : String} {e : Expr} {p pos : Pos} {d : D} {σ' : Sto} (he : EvF c A env σ e d) (hx : StoreOk env x) (hσ : set σ x (.own d) = σ') (h : Ex c A env σ' rest N R)
    (hs : swapsWith e (some (.Name (Str.ofString x) p)) pos.line env = pure false := by rfl) : Ex c A env σ (.Assign [.Name (Str.ofString x) p] e pos :: rest) N R := by
  subst hσ
  refine ex_seq (N1 := fun σ' => σ' = set σ x (.own d)) (fun s₀ P₀ P s F Q E kn kr => ?_) (fun σ' e => e ▸ h)
  refine wpAny_Assign_Name (he P s F.good _ E fun a h1 t1 P1 S1 ha hP O => ?_) hs
  exact (F.step S1).store hx (F.ownSlot S1 ha hP O) fun h' tk F' => kn _ P1 h' tk rfl S1.sub F'

theorem ex_aug {x : String} {e : Expr} {op : Operator} {p pos : Pos} {a b d : D} {σ' : Sto} (hv : (x, Slot.val a) ∈ σ) (he : Ev c A env σ e b) (H : Op2 c A (inplaceOp op) a b d) (hx : StoreOk env x) (hσ : set σ x (.val d) = σ')
    (h : Ex c A env σ' rest N R) : Ex c A env σ (.AugAssign (.Name (Str.ofString x) p) op e pos :: rest) N R := by
  subst hσ
  refine ex_seq (N1 := fun σ' => σ' = set σ x (.val d)) (fun s₀ P₀ P s F Q E kn kr => ?_) (fun σ' e => e ▸ h)
  obtain ⟨v, V, Rv⟩ := F.good.vars _ _ hv
  have go : ∀ Q' : Value → Shared → Prop, Q' v s → wpAny c.M A (loadName env (Str.ofString x)) Q' E s := by
    intro Q' q
    rcases V with ⟨h1, m, h2, h3⟩ | ⟨h1, a, h2, h3⟩
    · exact wpAny_loadName_local F.good.eok.kind h1 h2 h3 q
    · exact wpAny_loadName_cell F.good.eok.kind h1 h2 h3 q
  refine wpAny_AugAssign_Name (go _ (he.val F.good fun u h1 t1 P1 S1 G1 R1 => H P1 _ v u S1.ok (Rv.mono S1.sub) R1 _ E fun r h2 t2 P2 S2 R2 => ?_))
  exact (F.step (S1.trans S2)).store (u := .val d) hx R2 fun h' tk F' => kn _ P2 h' tk rfl (fun a o e => S2.sub _ _ (S1.sub _ _ e)) F'

theorem ex_return {e : Expr} {pos : Pos} {d : D} (he : Ev c A env σ e d) (hr : R d) : Ex c A env σ (.Return (some e) pos :: rest) N R := by
  refine ex_seq (N1 := fun _ => False) (fun s₀ P₀ P s F Q E kn kr => ?_) (fun σ' e => e.elim)
  refine wpAny_Return_some (he.val F.good fun v h1 t1 P1 S1 G1 R1 => ?_)
  exact kr d v P1 h1 t1 hr S1.sub ((F.step S1).weaken fun _ h => (nomatch h)) R1

theorem ex_if {t : Expr} {body orelse : List Stmt} {pos : Pos} {b : Bool} {N1 : Sto → Prop} (ht : EvT c A env σ t b) (h1 : b = true → Ex c A env σ body N1 R) (h2 : b = false → Ex c A env σ orelse N1 R)
    (h : ∀ σ', N1 σ' → Ex c A env σ' rest N R) : Ex c A env σ (.If t body orelse pos :: rest) N R := by
  refine ex_seq (N1 := N1) (fun s₀ P₀ P s F Q E kn kr => ?_) h
  refine wpAny_If (ht P s F.good _ E fun h' tk P' S => ?_)
  have go : ∀ ss, Ex c A env σ ss N1 R → wpAny c.M A (execs ss env) Q E { s with heap := h', toks := tk } := fun ss hs =>
    hs s₀ P₀ P' _ (F.step S) Q E (fun σ' P2 h2 tk2 n sub F2 => kn σ' P2 h2 tk2 n (fun a o e => sub a o (S.sub a o e)) F2) fun d v P2 h2 tk2 r sub F2 Rv => kr d v P2 h2 tk2 r (fun a o e => sub a o (S.sub a o e)) F2 Rv
  cases b with
  | true => exact go _ (h1 rfl)
  | false => exact go _ (h2 rfl)
theorem ex_if_ret {t : Expr} {body : List Stmt} {pos : Pos} {b : Bool} (ht : EvT c A env σ t b) (h1 : b = true → Ex c A env σ body (fun _ => False) R) (h : b = false → Ex c A env σ rest N R) : Ex c A env σ (.If t body [] pos :: rest) N R :=
  ex_if (N1 := fun σ' => b = false ∧ σ' = σ) ht (fun e => ex_mono (h1 e) (fun _ f => f.elim) fun _ r => r) (fun e => ex_nil ⟨e, rfl⟩) fun σ' ⟨e, es⟩ => es ▸ h e

theorem ex_assert {t : Expr} {pos : Pos} (ht : EvT c A env σ t true) (h : Ex c A env σ rest N R) : Ex c A env σ (.Assert t none pos :: rest) N R := by
  refine ex_seq (N1 := fun σ' => σ' = σ) (fun s₀ P₀ P s F Q E kn kr => ?_) (fun σ' e => e ▸ h)
  exact wpAny_Assert_holds (ht P s F.good _ E fun h' tk P' S => ⟨rfl, kn _ P' h' tk rfl S.sub (F.step S)⟩)

theorem aio_cons {t : Value → Sem Unit} {ts : List (Value → Sem Unit)} {v : Value} {vs : List Value} {s : Shared} {Q : Unit → Shared → Prop} {E : Value → Shared → Prop} {M : Model}
    (h : wpAny M A (t v) (fun _ s' => wpAny M A (assignInOrder ts vs) Q E s') E s) : wpAny M A (assignInOrder (t :: ts) (v :: vs)) Q E s := by
  show wpAny M A (do holding vs (t v); assignInOrder ts vs) Q E s
  exact wpAny_bind (wpAny_holding h)
theorem aio_nil {s : Shared} {Q : Unit → Shared → Prop} {E : Value → Shared → Prop} {M : Model} (h : Q () s) : wpAny M A (assignInOrder [] []) Q E s := wpAny_pure h

noncomputable def setAll : Sto → List String → List D → Sto
  | σ, x :: xs, d :: ds => setAll (set σ x (.val d)) xs ds
  | σ, _, _ => σ

noncomputable def Stores (c : Cx) (A : Around) (env : Env) (t : Value → Sem Unit) (x : String) : Prop :=
  ∀ (v : Value) (s : Shared) (Q : Unit → Shared → Prop) (E : Value → Shared → Prop), wpAny c.M A (storeName env (Str.ofString x) v) Q E s → wpAny c.M A (t v) Q E s

inductive StoresAll (c : Cx) (A : Around) (env : Env) : List (Value → Sem Unit) → List String → Prop
  | nil : StoresAll c A env [] []
  | cons {t : Value → Sem Unit} {ts : List (Value → Sem Unit)} {x : String} {xs : List String} : Stores c A env t x → StoreOk env x → StoresAll c A env ts xs → StoresAll c A env (t :: ts) (x :: xs)

theorem storeAll {s₀ : Shared} {P₀ P : Facts} : ∀ {ts : List (Value → Sem Unit)} {xs : List String} {vs : List Value} {ds : List D} {σ : Sto} {s : Shared}, StoresAll c A env ts xs → RepL c P vs ds → xs.length = ds.length → Frm c env s₀ P₀ σ P s →
    ∀ {Q : Unit → Shared → Prop} {E : Value → Shared → Prop}, (∀ h' tk, Frm c env s₀ P₀ (setAll σ xs ds) P { s with heap := h', toks := tk } → Q () { s with heap := h', toks := tk }) → wpAny c.M A (assignInOrder ts vs) Q E s := by
  intro ts xs vs ds σ s h
  induction h generalizing vs ds σ s with
  | nil =>
    intro RL hl F Q E k
    cases ds with
    | nil => obtain rfl := RL.nil_inv; exact aio_nil (k s.heap s.toks F)
    | cons => cases hl
  | cons ht hx r ih =>
    intro RL hl F Q E k
    cases ds with
    | nil => cases hl
    | cons d ds =>
      have hInv := RL.cons_inv; clear RL; obtain ⟨_, _, rfl, Rv, RL⟩ := hInv
      refine aio_cons (ht _ _ _ _ (F.store (u := .val _) hx Rv fun h' tk F' => ?_))
      exact ih RL (Nat.succ.inj hl) F' fun h2 tk2 F2 => k h2 tk2 F2

theorem stores_bind {x : String} : Stores c A env (bindName env (Str.ofString x)) x := fun _ _ _ _ h => wpAny_bindName h
theorem stores_name {x : String} {p : Pos} : Stores c A env (assign (.Name (Str.ofString x) p) env) x := fun _ _ _ _ h => wpAny_assign_Name h

theorem unpack_tup {P : Facts} {s : Shared} {v : Value} {ds : List D} (ok : ∀ a o, P a o → s.heap.get? a = some o) (R : Rep c P v (.tup ds)) (hh : A.handled = none) {n : Nat} (hn : n = ds.length) {Q : List Value → Shared → Prop} {E : Value → Shared → Prop}
    (k : ∀ vs h', Step P P s.heap h' → RepL c P vs ds → Q vs { s with heap := h' }) : wpAny c.M A (unpackItems v n none) Q E s := by
  obtain ⟨a, vs, m, rfl, hp, RL⟩ := R.tup_inv
  have hl := ok _ _ hp
  have e : n = vs.toArray.size := by rw [hn, List.size_toArray, RL.length]
  rw [e]
  refine wpAny_unpackItems_tuple hh ⟨_, hl, rfl, m, rfl⟩ fun h' he => ?_
  refine k vs h' (Step.heap ok fun b o eb => he b o (fun q => ?_) eb) RL
  exact absurd (Heap.lt_size eb) (by rw [q]; exact Nat.lt_irrefl _)

theorem ex_assign_tup {xs : List String} {elts : List Expr} {k : Nat} {tp pos : Pos} {e : Expr} {ds : List D} {σ' : Sto} (he : Ev c A env σ e (.tup ds)) (hh : A.handled = none) (hst : StoresAll c A env ((assignEach elts env).map (·.2)) xs) (hn : xs.length = ds.length)
    (hσ : setAll σ xs ds = σ') (h : Ex c A env σ' rest N R)
    (hlen : (assignEach elts env).length = xs.length := by rfl) (hstar : (assignEach elts env).findIdx? (·.1) = none := by rfl)
    (hs : swapsWithSole [.Tuple elts k tp] e pos.line env = pure false := by rfl) (hw : swappedStores [.Tuple elts k tp] e env = pure none := by rfl) :
    Ex c A env σ (.Assign [.Tuple elts k tp] e pos :: rest) N R := by
  subst hσ
  refine ex_seq (N1 := fun σ' => σ' = setAll σ xs ds) (fun s₀ P₀ P s F Q E kn kr => ?_) (fun σ' e => e ▸ h)
  refine Assign_Tuple (he.val F.good fun v h1 t1 P1 S1 G1 R1 => ?_) hs hw
  show wpAny c.M A (do standAt tp; unpack v (assignEach elts env)) _ E _
  refine wpAny_bind (wpAny_standAt ?_)
  unfold unpack
  rw [hstar, hlen]
  refine wpAny_bind (wpAny_holding (unpack_tup S1.ok R1 hh hn fun vs h2 S2 RL => ?_))
  exact storeAll hst RL hn (F.step (S1.trans S2)) fun h' tk F' => kn _ P1 h' tk rfl S1.sub F'

theorem RepL.reverse {P : Facts} {vs : List Value} {ds : List D} (h : RepL c P vs ds) : RepL c P vs.reverse ds.reverse := by
  induction vs generalizing ds with
  | nil => cases h; exact .nil
  | cons v vs ih =>
    cases h with
    | cons h r => rw [List.reverse_cons, List.reverse_cons]; exact (ih r).append (.one h)

theorem ex_assign_swap {names : List Str} {xs : List String} {elts : List Expr} {k : Nat} {tp pos : Pos} {e : Expr} {ds : List D} {σ' : Sto} (he : Ev c A env σ e (.tup ds)) (hh : A.handled = none) (hw : swappedStores [.Tuple elts k tp] e env = pure (some names))
    (hst : StoresAll c A env (names.reverse.map fun n => bindName env n) xs) (hn : names.length = ds.length) (hx : xs.length = ds.length)
    (hσ : setAll σ xs ds.reverse = σ') (h : Ex c A env σ' rest N R)
    (hs : swapsWithSole [.Tuple elts k tp] e pos.line env = pure false := by rfl)  :
    Ex c A env σ (.Assign [.Tuple elts k tp] e pos :: rest) N R := by
  subst hσ
  refine ex_seq (N1 := fun σ' => σ' = setAll σ xs ds.reverse) (fun s₀ P₀ P s F Q E kn kr => ?_) (fun σ' e => e ▸ h)
  refine Assign_Tuple_swapped (he.val F.good fun v h1 t1 P1 S1 G1 R1 => ?_) hs hw
  refine unpack_tup S1.ok R1 hh hn fun vs h2 S2 RL => ?_
  exact storeAll hst RL.reverse (by rw [List.length_reverse]; exact hx) (F.step (S1.trans S2)) fun h' tk F' => kn _ P1 h' tk rfl S1.sub F'
end
end
section

theorem mem_del_of {σ : Sto} {x y : String} {u : Slot} (hy : y ≠ x) : (y, u) ∈ σ → (y, u) ∈ del σ x := by
  induction σ with
  | nil => intro h; cases h
  | cons p r ih =>
    obtain ⟨z, w⟩ := p
    intro h
    unfold del
    split
    · rename_i hz
      rcases List.mem_cons.mp h with e | h
      · cases e; exact absurd hz hy
      · exact ih h
    · rcases List.mem_cons.mp h with e | h
      · cases e; exact .head _
      · exact .tail _ (ih h)

section
variable {c : Cx} {A : Around} {env : Env} {s₀ : Shared} {P₀ : Facts} {σ : Sto} {P : Facts} {s : Shared} {N : Sto → Prop} {R : D → Prop} {rest : List Stmt}

theorem Frm.put (F : Frm c env s₀ P₀ (del σ x) P s) {v : Value} {u : Slot} (hvx : VarIs env s.heap (Str.ofString x) v) (hu : SlotIs c env s₀ P s (del σ x) x v u) : Frm c env s₀ P₀ (set σ x u) P s := by
  have mem : ∀ {y w}, (y, w) ∈ set σ x u → (y = x ∧ w = u) ∨ (y ≠ x ∧ (y, w) ∈ del σ x) := fun h => (mem_set h).imp id fun ⟨h1, h2⟩ => ⟨h1, mem_del_of h1 h2⟩
  refine ⟨⟨F.good.eok, F.good.tops, F.good.ok, fun y d hy => ?_, fun y d hy => ?_⟩, F.top0, F.same, F.ok0, F.keep, F.sub0, F.new0, F.ns, F.loc0, F.locP, F.cell, F.apart, fun y d a hy V => ?_, fun y z d d' a hy hz Vy Vz => ?_⟩
  · rcases mem hy with ⟨rfl, e⟩ | ⟨hne, hm⟩
    · subst e; exact ⟨v, hvx, hu⟩
    · exact F.good.vars y d hm
  · rcases mem hy with ⟨rfl, e⟩ | ⟨hne, hm⟩
    · subst e
      obtain ⟨a, rfl, h1, h2, h3, h4, h5⟩ := hu
      exact ⟨a, hvx, h1, h2⟩
    · exact F.good.owns y d hm
  · rcases mem hy with ⟨rfl, e⟩ | ⟨hne, hm⟩
    · subst e
      obtain ⟨a', rfl, h1, h2, h3, h4, h5⟩ := hu
      obtain rfl := Value.ref.inj (V.det hvx)
      exact ⟨h3, h4⟩
    · exact F.ownF y d a hm V
  · rcases mem hy with ⟨rfl, e⟩ | ⟨hne, hm⟩ <;> rcases mem hz with ⟨rfl, e'⟩ | ⟨hne', hm'⟩
    · rfl
    · subst e
      obtain ⟨a', rfl, h1, h2, h3, h4, h5⟩ := hu
      obtain rfl := Value.ref.inj (Vy.det hvx)
      exact absurd rfl (h5 z d' hne' hm' _ Vz)
    · subst e'
      obtain ⟨a', rfl, h1, h2, h3, h4, h5⟩ := hu
      obtain rfl := Value.ref.inj (Vz.det hvx)
      exact absurd rfl (h5 y d hne hm _ Vy)
    · exact F.ownA y z d d' a hm hm' Vy Vz

theorem del_sub {x : String} : ∀ p ∈ del σ x, p ∈ σ := fun ⟨_, _⟩ h => (mem_del h).2

theorem cell_ne_data {h : Heap} {a b : Addr} {v : Option Value} {d : D} (hc : h.IsCell a v) (O : OwnObj c P h b d) : a ≠ b := by
  rintro rfl
  obtain ⟨o, ho, hd⟩ := O.some
  obtain ⟨o', ho', hd'⟩ := hc
  rw [ho'] at ho; cases ho
  rcases hd with ⟨vs, n, rfl⟩ | ⟨vs, n, rfl⟩ | ⟨vs, n, rfl⟩ <;> cases hd'

theorem Frm.mutate (F : Frm c env s₀ P₀ σ P s) {x : String} {d d' : D} {a : Addr} (hx : (x, Slot.own d) ∈ σ) (V : VarIs env s.heap (Str.ofString x) (.ref a)) {h' : Heap} {tk : Nat} (sb : ∀ b o, b ≠ a → s.heap.get? b = some o → h'.get? b = some o) (O : OwnObj c P h' a d') :
    Frm c env s₀ P₀ (set σ x (.own d')) P { s with heap := h', toks := tk } := by
  obtain ⟨a', V', hnP, O'⟩ := F.good.owns x d hx
  obtain rfl := Value.ref.inj (V.det V')
  obtain ⟨ha0, haL⟩ := F.ownF x d a hx V
  have hcell : ∀ y b, env.cells.lookup y = some b → b ≠ a := fun y b hy => by
    obtain ⟨⟨w, hw⟩, _⟩ := F.cell y b hy
    exact cell_ne_data hw O'
  have F1 := (F.weaken (del_sub (x := x))).poke (I := a) (P' := P) (h' := h') (tk := tk) ha0 haL hcell
    (fun y d2 b hy W e => (mem_del hy).1 (by subst e; exact F.ownA y x d2 d b (mem_del hy).2 hx W V))
    (fun _ _ _ e => e) F.sub0 (fun b o e => sb b o (fun q => hnP o (q ▸ e)) (F.good.ok b o e)) (fun _ _ e => .inl e) sb
  refine F1.put (v := .ref a) ?_ ⟨a, rfl, hnP, O, ha0, haL, fun y d2 hy hm b W e => ?_⟩
  · rcases V with ⟨h1, m, h2, h3⟩ | ⟨h1, b, h2, h3⟩
    · exact .inl ⟨h1, m, h2.at' fun o e => sb _ o (fun q => haL q.symm) e, h3⟩
    · obtain ⟨o, ho, hd⟩ := h3
      exact .inr ⟨h1, b, h2, o, sb _ o (hcell _ _ h2) ho, hd⟩
  · subst e
    obtain ⟨b', W', _, _⟩ := F.good.owns y d2 (mem_del hm).2
    have W2 : VarIs env h' (Str.ofString y) (.ref b') := by
      rcases W' with ⟨h1, m, h2, h3⟩ | ⟨h1, b, h2, h3⟩
      · exact .inl ⟨h1, m, h2.at' fun o e => sb _ o (fun q => haL q.symm) e, h3⟩
      · obtain ⟨o, ho, hd⟩ := h3
        exact .inr ⟨h1, b, h2, o, sb _ o (hcell _ _ h2) ho, hd⟩
    obtain rfl := Value.ref.inj (W.det W2)
    exact hy (F.ownA y x d2 d _ (mem_del hm).2 hx W' V)

theorem Frm.freeze (F : Frm c env s₀ P₀ σ P s) {x : String} {d : D} (hx : (x, Slot.own d) ∈ σ) : ∃ P', (∀ a o, P a o → P' a o) ∧ Frm c env s₀ P₀ (set σ x (.val d)) P' s := by
  obtain ⟨a, V, hnP, O⟩ := F.good.owns x d hx
  obtain ⟨ha0, haL⟩ := F.ownF x d a hx V
  obtain ⟨o, ho, hd⟩ := O.some
  have hcell : ∀ y b, env.cells.lookup y = some b → b ≠ a := fun y b hy => by
    obtain ⟨⟨w, hw⟩, _⟩ := F.cell y b hy
    exact cell_ne_data hw O
  have F1 := (F.weaken (del_sub (x := x))).poke (I := a) (P' := fun b q => P b q ∨ (b = a ∧ q = o)) (h' := s.heap) (tk := s.toks) ha0 haL hcell
    (fun y d2 b hy W e => (mem_del hy).1 (by subst e; exact F.ownA y x d2 d b (mem_del hy).2 hx W V))
    (fun _ _ _ e => .inl e) (fun _ _ e => .inl (F.sub0 _ _ e)) (fun b q e => by
      rcases e with e | ⟨rfl, rfl⟩
      · exact F.good.ok b q e
      · exact ho) (fun b q e => by
      rcases e with e | ⟨rfl, rfl⟩
      · exact .inl e
      · exact .inr ⟨rfl, ho⟩) (fun _ _ _ e => e)
  refine ⟨_, fun _ _ e => .inl e, F1.put (v := .ref a) V ?_⟩
  cases d with
  | list ds =>
    obtain ⟨vs, n, e, RL⟩ := O
    rw [ho] at e; cases e
    exact .list (.inr ⟨rfl, rfl⟩) (RL.mono fun _ _ e => .inl e)
  | dict kvs =>
    obtain ⟨vs, n, e, RL⟩ := O
    rw [ho] at e; cases e
    exact .dict (.inr ⟨rfl, rfl⟩) (RL.mono fun _ _ e => .inl e)
  | _ => exact O.elim

theorem ex_freeze {x : String} {d : D} {ss : List Stmt} {σ' : Sto} (hx : (x, Slot.own d) ∈ σ) (hσ : set σ x (.val d) = σ') (h : Ex c A env σ' ss N R) : Ex c A env σ ss N R := by
  subst hσ
  intro s₀ P₀ P s F Q E kn kr
  obtain ⟨P', hsub, F'⟩ := F.freeze hx
  exact h s₀ P₀ P' s F' Q E (fun σ' P2 h2 tk2 n sub F2 => kn σ' P2 h2 tk2 n (fun a o e => sub a o (hsub a o e)) F2) fun d v P2 h2 tk2 r sub F2 Rv => kr d v P2 h2 tk2 r (fun a o e => sub a o (hsub a o e)) F2 Rv

theorem load_own {x : String} {p : Pos} {v : Value} (G : Good c env σ P s) (V : VarIs env s.heap (Str.ofString x) v) (hd : ((Str.ofString x) == ("__debug__" : Str)) = false) {Q : Value → Shared → Prop} {E : Value → Shared → Prop} (q : Q v s) :
    wpAny c.M A (eval (.Name (Str.ofString x) p) env) Q E s := by
  refine wpAny_Name ?_ hd
  rcases V with ⟨h1, m, h2, h3⟩ | ⟨h1, a, h2, h3⟩
  · exact wpAny_loadName_local G.eok.kind h1 h2 h3 q
  · exact wpAny_loadName_cell G.eok.kind h1 h2 h3 q

theorem ex_append {x : String} {e : Expr} {p1 apos cpos pos : Pos} {ds : List D} {d : D} {σ' : Sto} (hx : (x, Slot.own (.list ds)) ∈ σ) (he : Ev c A env σ e d) (hlen : ds.length < sizeLine)
    (hσ : set σ x (.own (.list (ds ++ [d]))) = σ') (h : Ex c A env σ' rest N R)
    (hd : ((Str.ofString x) == ("__debug__" : Str)) = false := by decide +kernel)
    (hst : starEach [e] env = [(false, eval e env)] := by rfl) (hline : (apos.endLine == cpos.line) = true := by rfl) (hi : interactive env = false := by rfl)
    (hsw : swapsWith (.Call (.Attribute (.Name (Str.ofString x) p1) (Str.ofString "append") apos) [e] [] cpos) none pos.line env = pure false := by rfl) :
    Ex c A env σ (.Expr (.Call (.Attribute (.Name (Str.ofString x) p1) (Str.ofString "append") apos) [e] [] cpos) pos :: rest) N R := by
  subst hσ
  refine ex_seq (N1 := fun σ' => σ' = set σ x (.own (.list (ds ++ [d])))) (fun s₀ P₀ P s F Q E kn kr => ?_) (fun σ' e => e ▸ h)
  obtain ⟨a, V, hnP, O⟩ := F.good.owns _ _ hx
  rw [exec_Expr env _ pos hi hsw]
  refine wpAny_bind (wpAny_standAt (wpAny_bind ?_))
  refine wpAny_Call_method (T := "list") (id := "list.append") rfl (by rw [hst]; rfl) hline PySem.F.plainAttrs_list slot_list_append type_list_append (load_own F.good V hd ?_)
  obtain ⟨vs, n, ho, RL⟩ := O
  have hl : s.heap.PlainList a vs.toArray := ⟨n, ho⟩
  refine ⟨hl.isList.typeIs, fun b e => by cases e; exact ⟨_, ho, rfl⟩, Calls.callWith_builtin (by rw [hst]; rfl) ?_⟩
  refine evalArgs_L (evl_cons he evl_nil hst) (.inr ⟨_, _, hst⟩) F.good fun us h1 t1 P1 S1 G1 R1 => ?_
  have hInv := R1.cons_inv; clear R1; obtain ⟨_, _, rfl, Ru, R1⟩ := hInv
  obtain rfl := R1.nil_inv; clear R1
  have ho1 : h1.get? a = some (listO vs n) := S1.ext _ _ ho
  refine wpAny_list_append_plain (hsz := by rw [List.size_toArray, RL.length]; (first | lia | omega)) (⟨n, ho1⟩ : Heap.PlainList h1 a vs.toArray) fun h2 hl2 hs2 => ?_
  refine wpAny_dropValue ?_
  obtain ⟨n2, ho2⟩ := hl2
  have F1 := F.step (tk := t1) S1
  refine kn _ P1 h2 t1 rfl S1.sub (F1.mutate (a := a) hx (V.keeps S1.ext) (fun b o hb e => hs2.extBut b o hb e) ⟨vs ++ [_], n2, ?_, (RL.mono S1.sub).append (.one Ru)⟩)
  rw [ho2]; simp
end
end
section

noncomputable def ownedIters : List String := ["enumerate", "zip", "dict_itemiterator", "dict_reverseitemiterator", "odict_iterator", "itertools.zip_longest", "itertools.pairwise"]

structure It (c : Cx) (A : Around) (P : Facts) (ds : List D) (I : Addr) (fp : List Addr) (Pv : Nat → Value → Prop) (St : Nat → Heap → Prop) : Prop where
  walks : Walks c.prog c.w A I fp [I] ds.length Pv St
  rep : ∀ i v, i < ds.length → Pv i v → ∃ d, ds[i]? = some d ∧ Rep c P v d
  fps : ∀ b ∈ fp, b = I ∨ ∃ o, P b o
  self : I ∈ fp
  live : ∀ i h, St i h → ∃ o n, h.get? I = some o ∧ ¬ IsData o ∧ o.cls = .type n ∧ n ∉ ownedIters

noncomputable def PyI (c : Cx) (A : Around) (P : Facts) (x : Value) (ds : List D) : Prop :=
  ∀ (s : Shared), (∀ a o, P a o → s.heap.get? a = some o) → ∀ (Q : Value → Shared → Prop) (E : Value → Shared → Prop),
    (∀ I fp Pv St h' tk, It c A P ds I fp Pv St → s.heap.get? I = none → (∀ b o, s.heap.get? b = some o → h'.get? b = some o) → St 0 h' → Q (.ref I) { s with heap := h', toks := tk }) → wpAny c.M A (pyIter x) Q E s

noncomputable def EvI (c : Cx) (A : Around) (env : Env) (σ : Sto) (e : Expr) (ds : List D) : Prop :=
  ∀ (P : Facts) (s : Shared), Good c env σ P s → ∀ (Q : Value → Shared → Prop) (E : Value → Shared → Prop),
    (∀ x h' tk P', Step P P' s.heap h' → PyI c A P' x ds → Q x { s with heap := h', toks := tk }) → wpAny c.M A (eval e env) Q E s

section
variable {c : Cx} {A : Around} {env : Env} {σ : Sto}

theorem fresh_none (h : Heap) : h.get? h.objs.size = none := by
  cases z : h.get? h.objs.size with
  | none => rfl
  | some o' => exact absurd (Heap.lt_size z) (Nat.lt_irrefl _)
theorem fields_not_data {cls : Value} {vs : Array Value} : ¬ IsData { cls := cls, dict := none, data := .fields vs, slots := #[] } := by
  rintro (⟨_, _, h⟩ | ⟨_, _, h⟩ | ⟨_, _, h⟩) <;> cases h
theorem fields_not_data' {o : Obj} {vs : Array Value} (h : o.data = .fields vs) : ¬ IsData o := by
  rintro (⟨_, _, rfl⟩ | ⟨_, _, rfl⟩ | ⟨_, _, rfl⟩) <;> cases h

theorem pyI_list {P : Facts} {x : Value} {ds : List D} (hh : A.handled = none) (R : Rep c P x (.list ds)) : PyI c A P x ds := by
  intro s ok Q E k
  obtain ⟨a, vs, n, rfl, hp, RL⟩ := R.list_inv
  have hl := isList_of ok hp
  refine wpAny_pyIter_list hl ?_
  have hne : a ≠ s.heap.objs.size := by
    intro e; have := ok _ _ hp; rw [e, fresh_none] at this; cases this
  have W := Walks.list (prog := c.prog) (w := c.w) hh s.heap.objs.size a hne vs.toArray
  rw [show vs.toArray.size = ds.length from by rw [List.size_toArray, RL.length]] at W
  refine k _ _ _ _ _ s.toks ⟨W, fun i v _ hv => ?_, fun b hb => ?_, by simp, fun i h st => ?_⟩ (fresh_none _) (fun b o e => Heap.get?_push_of_some _ e) ⟨⟨_, Heap.get?_push_size _ rfl, rfl, rfl⟩, hl.push _⟩
  · exact RL.get' (by simpa using hv)
  · rcases List.mem_cons.mp hb with e | hb
    · exact .inl e
    · rw [List.mem_singleton.mp hb]; exact .inr ⟨_, hp⟩
  · obtain ⟨⟨o, ho, hc, hd⟩, _⟩ := st
    exact ⟨o, _, ho, fields_not_data' hd, hc, by decide⟩

theorem pyI_str {P : Facts} {x : Value} {l : List Nat} (hh : A.handled = none) (R : Rep c P x (.str l)) (ha : ∀ a ∈ l, a < 128) : PyI c A P x (l.map fun a => .str [a]) := by
  intro s ok Q E k
  obtain ⟨t, rfl⟩ := R.str_inv
  refine wpAny_pyIter_ascii (by simpa [S] using ha) ?_
  have W := Walks.strAscii (prog := c.prog) (w := c.w) hh s.heap.objs.size (S l) t
  rw [show (S l).cps.size = (l.map fun a => D.str [a]).length from by simp [S]] at W
  refine k _ _ _ _ _ s.toks ⟨W, fun i v _ hv => ?_, fun b hb => .inl (List.mem_singleton.mp hb), by simp, fun i h st => ?_⟩ (fresh_none _) (fun b o e => Heap.get?_push_of_some _ e) ⟨_, Heap.get?_push_size _ rfl, rfl, rfl⟩
  · obtain ⟨a, u, h1, rfl⟩ := hv
    exact ⟨.str [a], by simpa [S] using h1, .str [a] u⟩
  · obtain ⟨o, ho, hc, hd⟩ := st
    exact ⟨o, _, ho, fields_not_data' hd, hc, by decide⟩

theorem evi_list {e : Expr} {ds : List D} (hh : A.handled = none) (h : Ev c A env σ e (.list ds)) : EvI c A env σ e ds := by
  intro P s G Q E k
  exact h P s G Q E fun v h' tk P' S R => k v h' tk P' S (pyI_list hh R)
theorem evi_str {e : Expr} {l : List Nat} (hh : A.handled = none) (h : Ev c A env σ e (.str l)) (ha : ∀ a ∈ l, a < 128) : EvI c A env σ e (l.map fun a => .str [a]) := by
  intro P s G Q E k
  exact h P s G Q E fun v h' tk P' S R => k v h' tk P' S (pyI_str hh R ha)

theorem letgo_ok {target : Expr} {I : Addr} {v : Value} {s : Shared} {o : Obj} {n : String} (ho : s.heap.get? I = some o) (hc : o.cls = .type n) (hn : n ∉ ownedIters) {Q : Unit → Shared → Prop} {E : Value → Shared → Prop} (q : Q () s) :
    wpAny c.M A (letOwnedTupleGo target (.ref I) v) Q E s := by
  have go : wpAny c.M A (do
    let (.ref r, .ref a) := (Value.ref I, v) | return
    let o ← load r
    match o.cls, o.data with
    | .type n, .fields vs =>
      if ["enumerate", "zip", "dict_itemiterator", "dict_reverseitemiterator", "odict_iterator", "itertools.zip_longest", "itertools.pairwise"].contains n && vs[0]? == some (rawInt a) then
        rule "for.unpacks-the-owned-tuple"
        updateField r 0 .none
    | _, _ => pure () : Sem Unit) Q E s := by
    cases v with
    | ref a =>
      refine wpAny_bind (wpAny_load ho ?_)
      rw [hc]
      cases hd : o.data with
      | fields vs =>
        dsimp only
        have : (["enumerate", "zip", "dict_itemiterator", "dict_reverseitemiterator", "odict_iterator", "itertools.zip_longest", "itertools.pairwise"].contains n) = false := by
          rw [Bool.eq_false_iff]; intro h; exact hn (List.contains_iff_mem.mp h)
        rw [this, Bool.false_and]
        exact wpAny_pure q
      | _ => exact wpAny_pure q
    | _ => exact wpAny_pure q
  cases target with
  | Tuple => exact go
  | List => exact go
  | _ => exact wpAny_pure q

noncomputable def Binds (c : Cx) (A : Around) (env : Env) (target : Expr) (d : D) (f : Sto → Sto) : Prop :=
  ∀ (σ : Sto) (s₀ : Shared) (P₀ P : Facts) (s : Shared) (v : Value), Frm c env s₀ P₀ σ P s → Rep c P v d → ∀ (Q : Unit → Shared → Prop) (E : Value → Shared → Prop),
    (∀ h' tk, Frm c env s₀ P₀ (f σ) P { s with heap := h', toks := tk } → Q () { s with heap := h', toks := tk }) → wpAny c.M A (assign target env v) Q E s

theorem binds_name {x : String} {p : Pos} {d : D} (hx : StoreOk env x) : Binds c A env (.Name (Str.ofString x) p) d (fun σ => set σ x (.val d)) := by
  intro σ s₀ P₀ P s v F R Q E k
  exact wpAny_assign_Name (F.store (u := .val d) hx R k)
theorem binds_tup {xs : List String} {elts : List Expr} {k : Nat} {tp : Pos} {ds : List D} (hh : A.handled = none) (hst : StoresAll c A env ((assignEach elts env).map (·.2)) xs) (hn : xs.length = ds.length)
    (hlen : (assignEach elts env).length = xs.length := by rfl) (hstar : (assignEach elts env).findIdx? (·.1) = none := by rfl) : Binds c A env (.Tuple elts k tp) (.tup ds) (fun σ => setAll σ xs ds) := by
  intro σ s₀ P₀ P s v F R Q E q
  show wpAny c.M A (do standAt tp; unpack v (assignEach elts env)) Q E _
  refine wpAny_bind (wpAny_standAt ?_)
  unfold unpack
  rw [hstar, hlen]
  refine wpAny_bind (wpAny_holding (unpack_tup F.good.ok R hh hn fun vs h2 S2 RL => ?_))
  exact storeAll hst RL hn (F.step (tk := s.toks) S2) fun h' tk F' => q h' tk F'

end
end
section

section
variable {c : Cx} {A : Around} {env : Env} {σ : Sto} {N : Sto → Prop} {R : D → Prop} {rest : List Stmt}

theorem ex_end {σ' : Sto} (hs : ∀ p ∈ σ', p ∈ σ) (h : N σ') : Ex c A env σ [] N R := ex_weaken hs (ex_nil h)

theorem exec_For (target iter body orelse pos) : exec (.For target iter body orelse pos) env = (do
    standAt pos
    let x ← foldedSetIterable iter env (← eval iter env)
    standAt iter.pos
    runOwn (.forLoop target (← holding [x] (pyIter x)) body orelse env) env) := rfl

theorem Frm.lay {s₀ : Shared} {P₀ P : Facts} {s : Shared} (F : Frm c env s₀ P₀ σ P s) {I : Addr} {o : Obj} {h' : Heap} {tk : Nat} (hI : s.heap.get? I = none) (hext : ∀ b o, s.heap.get? b = some o → h'.get? b = some o) (ho : h'.get? I = some o) :
    Frm c env s₀ P₀ σ (fun a q => P a q ∨ (a = I ∧ q = o)) { s with heap := h', toks := tk } :=
  F.step (Step.more F.good.ok hext hI ho)

theorem Frm.turn {s₀ : Shared} {P₀ P : Facts} {s : Shared} (F : Frm c env s₀ P₀ σ P s) {I : Addr} {o o' : Obj} {h' : Heap} {tk : Nat} (hI0 : s₀.heap.get? I = none) (hP : P I o) (hd : ¬ IsData o)
    (hk : ∀ b q, b ≠ I → s.heap.get? b = some q → h'.get? b = some q) (ho : h'.get? I = some o') : Frm c env s₀ P₀ σ (fun a q => (P a q ∧ a ≠ I) ∨ (a = I ∧ q = o')) { s with heap := h', toks := tk } := by
  refine F.poke (I := I) hI0 (fun e => F.locP o (e ▸ hP)) (fun x a hx e => (F.cell x a hx).2.2.1 o (e ▸ hP)) (fun x d a hx V e => ?_) (fun a q hq e => ?_) (fun a q e => ?_) (fun a q e => ?_) (fun a q e => ?_) hk
  · obtain ⟨a', V', hn, _⟩ := F.good.owns x d hx
    obtain rfl := Value.ref.inj (V.det V')
    exact hn o (e ▸ hP)
  · refine .inl ⟨e, fun e' => ?_⟩
    subst e'
    have h1 := F.good.ok _ _ e
    rw [F.good.ok _ _ hP] at h1
    cases h1; exact hd hq
  · refine .inl ⟨F.sub0 a q e, fun e' => ?_⟩
    subst e'
    have := F.ok0 _ _ e
    rw [hI0] at this; cases this
  · rcases e with ⟨e, hne⟩ | ⟨rfl, rfl⟩
    · exact hk _ _ hne (F.good.ok _ _ e)
    · exact ho
  · rcases e with ⟨e, hne⟩ | ⟨rfl, rfl⟩
    · exact .inl e
    · exact .inr ⟨rfl, ho⟩
theorem Frm.over {s₀ : Shared} {P₀ P : Facts} {s : Shared} (F : Frm c env s₀ P₀ σ P s) {I : Addr} {o : Obj} {h' : Heap} {tk : Nat} (hI0 : s₀.heap.get? I = none) (hP : P I o) (hd : ¬ IsData o)
    (hk : ∀ b q, b ≠ I → s.heap.get? b = some q → h'.get? b = some q) : Frm c env s₀ P₀ σ (fun a q => P a q ∧ a ≠ I) { s with heap := h', toks := tk } := by
  refine F.poke (I := I) hI0 (fun e => F.locP o (e ▸ hP)) (fun x a hx e => (F.cell x a hx).2.2.1 o (e ▸ hP)) (fun x d a hx V e => ?_) (fun a q hq e => ?_) (fun a q e => ?_) (fun a q e => ?_) (fun a q e => .inl e.1) hk
  · obtain ⟨a', V', hn, _⟩ := F.good.owns x d hx
    obtain rfl := Value.ref.inj (V.det V')
    exact hn o (e ▸ hP)
  · refine ⟨e, fun e' => ?_⟩
    subst e'
    have h1 := F.good.ok _ _ e
    rw [F.good.ok _ _ hP] at h1
    cases h1; exact hd hq
  · refine ⟨F.sub0 a q e, fun e' => ?_⟩
    subst e'
    have := F.ok0 _ _ e
    rw [hI0] at this; cases this
  · exact hk _ _ e.2 (F.good.ok _ _ e.1)

structure ForJ (c : Cx) (env : Env) (s₀ : Shared) (P₀ P1 : Facts) (n : Nat) (J : Nat → Sto → Prop) (St : Nat → Heap → Prop) (I : Addr) (s : Shared) (k : Nat) (s' : Shared) (i : Nat) (σ' : Sto) (P' : Facts) (h' : Heap) (tk' : Nat) (o : Obj) : Prop where
  es : s' = { s with heap := h', toks := tk' }
  ek : k = n + 1 - i
  hi : i ≤ n
  hJ : J i σ'
  F' : Frm c env s₀ P₀ σ' P' s'
  hsub : ∀ a q, P1 a q → P' a q
  hPI : P' I o
  hdo : ¬ IsData o
  hst' : St i h'

theorem ex_for {target iter : Expr} {body : List Stmt} {pos : Pos} {ds : List D} (J : Nat → Sto → Prop) (f : D → Sto → Sto) (hiter : EvI c A env σ iter ds) (hbind : ∀ d ∈ ds, Binds c A env target d (f d)) (h0 : J 0 σ)
    (hbody : ∀ i d σ', ds[i]? = some d → J i σ' → Ex c A env (f d σ') body (J (i + 1)) R) (hrest : ∀ σ', J ds.length σ' → Ex c A env σ' rest N R)
    (hfold : ∀ x, foldedSetIterable iter env x = pure x := by intro _; rfl) : Ex c A env σ (.For target iter body [] pos :: rest) N R := by
  refine ex_seq (N1 := J ds.length) (fun s₀ P₀ P s F Q E kn kr => ?_) hrest
  rw [exec_For]
  refine wpAny_bind (wpAny_standAt (wpAny_bind (hiter P s F.good _ E fun x h1 t1 P1 S1 hpy => ?_)))
  rw [hfold]
  refine wpAny_bind (wpAny_pure (wpAny_bind (wpAny_standAt (wpAny_bind (wpAny_holding (hpy _ S1.ok _ E fun I fp Pv St h2 t2 it hI hext hst => ?_))))))
  have F1 := F.step (tk := t1) S1
  have hI0 : s₀.heap.get? I = none := by
    cases z : s₀.heap.get? I with
    | none => rfl
    | some o => rw [F1.keep I o z] at hI; cases hI
  obtain ⟨oI, nI, hoI, hdI, hcI, hnI⟩ := it.live 0 h2 hst
  have F2 := F1.lay (tk := t2) hI hext hoI
  refine wpAny_runOwn (h := none) ?_
  show codeAny c.M A (.forLoop target (.ref I) body [] env) _ _
  refine codeAny_forLoop_any (fun k s' => ∃ i σ' P' h' tk' o, ForJ c env s₀ P₀ P1 ds.length J St I s k s' i σ' P' h' tk' o) ?_ (ds.length + 1)
    ⟨0, σ, _, h2, t2, oI, rfl, rfl, Nat.zero_le _, h0, F2, fun _ _ e => .inl e, .inr ⟨rfl, rfl⟩, hdI, hst⟩
  rintro k s' ⟨i, σ', P', h', tk', o, es, ek, hi, hJ, F', hsub, hPI, hdo, hst'⟩
  subst es; subst ek
  by_cases hlt : i < ds.length
  · refine it.walks.item i _ _ _ hlt hst' fun v h3 t3 hPv hst3 hk3 => ?_
    have hk3' : ∀ b q, b ≠ I → h'.get? b = some q → h3.get? b = some q := fun b q hb e => hk3 b q (by simpa using hb) e
    obtain ⟨o3, n3, ho3, hd3, hc3, hn3⟩ := it.live (i + 1) h3 hst3
    have F3 := F'.turn (tk := t3) hI0 hPI hdo hk3' ho3
    obtain ⟨d, hd, Rv⟩ := it.rep i v hlt hPv
    refine letgo_ok ho3 hc3 hn3 ?_
    have Rv3 : Rep c (fun a q => (P' a q ∧ a ≠ I) ∨ (a = I ∧ q = o3)) v d := by
      refine (Rv.mono hsub).only fun a q hq e => .inl ⟨e, fun e' => ?_⟩
      subst e'
      have h1 := F'.good.ok _ _ e
      rw [F'.good.ok _ _ hPI] at h1
      cases h1; exact hdo hq
    refine hbind d (List.mem_of_getElem? hd) σ' s₀ P₀ _ _ v F3 Rv3 _ _ fun h4 t4 F4 => ?_
    refine hbody i d σ' hd hJ s₀ P₀ _ _ F4 _ _ (fun σ5 P5 h5 t5 hJ5 hsub5 F5 => ?_) (fun d5 v5 P5 h5 t5 r5 hsub5 F5 R5 => ?_)
    · refine ⟨ds.length + 1 - (i + 1), by first | lia | omega, i + 1, σ5, P5, h5, t5, o3, rfl, rfl, hlt, hJ5, F5, fun a q e => ?_, hsub5 _ _ (.inr ⟨rfl, rfl⟩), hd3, ?_⟩
      · by_cases ha : a = I
        · subst ha
          exact absurd (S1.ok _ _ e) (by rw [hI]; intro h; cases h)
        · exact hsub5 a q (.inl ⟨hsub a q e, ha⟩)
      · refine it.walks.frame _ _ _ hst3 fun b hb q e => ?_
        rcases it.fps b hb with rfl | ⟨qb, hqb⟩
        · rw [ho3] at e; cases e
          exact F5.good.ok _ _ (hsub5 _ _ (.inr ⟨rfl, rfl⟩))
        · have hbI : b ≠ I := by
            rintro rfl
            exact absurd (S1.ok _ _ hqb) (by rw [hI]; intro h; cases h)
          have e1 : h3.get? b = some qb := hk3' b qb hbI (F'.good.ok _ _ (hsub _ _ hqb))
          rw [e1] at e; cases e
          exact F5.good.ok _ _ (hsub5 _ _ (.inl ⟨hsub _ _ hqb, hbI⟩))
    · refine kr d5 v5 P5 h5 t5 r5 (fun a q e => hsub5 a q (.inl ⟨hsub _ _ (S1.sub _ _ e), ?_⟩)) F5 R5
      rintro rfl
      exact absurd (S1.ok _ _ (S1.sub _ _ e)) (by rw [hI]; intro h; cases h)
  · have hin : i = ds.length := by first | lia | omega
    subst hin
    refine it.walks.done _ _ _ hst' fun h3 t3 hk3 => wpAny_execs_nil ?_
    have hk3' : ∀ b q, b ≠ I → h'.get? b = some q → h3.get? b = some q := fun b q hb e => hk3 b q (by simpa using hb) e
    refine kn σ' _ h3 t3 hJ (fun a q e => ?_) (F'.over hI0 hPI hdo hk3')
    refine ⟨hsub _ _ (S1.sub _ _ e), ?_⟩
    rintro rfl
    exact absurd (S1.ok _ _ (S1.sub _ _ e)) (by rw [hI]; intro h; cases h)

theorem ex_while {test : Expr} {body : List Stmt} {pos : Pos} (J : Nat → Sto → Prop) (n : Nat) (h0 : J n σ) (K : Sto → Prop)
    (hturn : ∀ n σ', J n σ' → ∃ b, EvT c A env σ' test b ∧ (b = true → Ex c A env σ' body (fun σ2 => ∃ m, m < n ∧ J m σ2) R) ∧ (b = false → K σ')) (hrest : ∀ σ', K σ' → Ex c A env σ' rest N R) :
    Ex c A env σ (.While test body [] pos :: rest) N R := by
  refine ex_seq (N1 := K) (fun s₀ P₀ P s F Q E kn kr => ?_) hrest
  refine wpAny_While ?_
  refine codeAny_whileLoop (fun k s' => ∃ σ' P' h' tk', s' = { s with heap := h', toks := tk' } ∧ J k σ' ∧ Frm c env s₀ P₀ σ' P' s' ∧ (∀ a q, P a q → P' a q)) ?_ n ⟨σ, P, s.heap, s.toks, rfl, h0, F, fun _ _ e => e⟩
  rintro k s' ⟨σ', P', h', tk', rfl, hJ, F', hsub⟩
  obtain ⟨b, ht, hb1, hb2⟩ := hturn k σ' hJ
  refine ht P' _ F'.good _ _ fun h2 t2 P2 S2 => ?_
  cases b with
  | true =>
    refine hb1 rfl s₀ P₀ P2 _ (F'.step S2) _ _ (fun σ3 P3 h3 t3 ⟨m, hm, hJ3⟩ hsub3 F3 => ?_) (fun d3 v3 P3 h3 t3 r3 hsub3 F3 R3 => ?_)
    · exact ⟨m, hm, σ3, P3, h3, t3, rfl, hJ3, F3, fun a q e => hsub3 _ _ (S2.sub _ _ (hsub _ _ e))⟩
    · exact kr d3 v3 P3 h3 t3 r3 (fun a q e => hsub3 _ _ (S2.sub _ _ (hsub _ _ e))) F3 R3
  | false =>
    refine wpAny_execs_nil ?_
    exact kn σ' P2 h2 t2 (hb2 rfl) (fun a q e => S2.sub _ _ (hsub _ _ e)) (F'.step S2)
end
end
section

noncomputable def rangeD (a st : Int) (n : Nat) : List D := (List.range n).map fun (k : Nat) => D.int (a + k * st)
theorem rangeD_length (a st : Int) (n : Nat) : (rangeD a st n).length = n := by simp [rangeD]
theorem rangeD_get {a st : Int} {n i : Nat} {d : D} (h : (rangeD a st n)[i]? = some d) : i < n ∧ d = .int (a + i * st) := by
  unfold rangeD at h
  rw [List.getElem?_map] at h
  by_cases hi : i < n
  · rw [List.getElem?_range hi] at h
    exact ⟨hi, (Option.some.inj h).symm⟩
  · rw [List.getElem?_eq_none (by simpa using hi)] at h; cases h

section
variable {c : Cx} {A : Around} {env : Env} {σ : Sto}

theorem pyI_range {P : Facts} (hh : A.handled = none) {a b st : Int} {t u v : Tok} {r : Addr} {n : Nat} (hP : P r { cls := .type "range", dict := none, data := .fields #[.int a t, .int b u, .int st v], slots := #[] })
    (hsm : Builtin.Range.small a b st = true) (hsz : Builtin.Range.rangeSize a b st = (n : Int)) : PyI c A P (.ref r) (rangeD a st n) := by
  intro s ok Q E k
  refine wpAny_pyIter_range (ok _ _ hP) hsm ?_
  have W := Walks.range (prog := c.prog) (w := c.w) hh s.heap.objs.size a st (rangeD a st n).length
  refine k _ _ _ _ _ s.toks ⟨W, fun i v hi hv => ?_, fun b hb => .inl (List.mem_singleton.mp hb), by simp, fun i h stt => ⟨_, _, stt, fields_not_data, rfl, by decide⟩⟩ (fresh_none _) (fun b o e => Heap.get?_push_of_some _ e) ?_
  · obtain ⟨t, rfl⟩ := hv
    refine ⟨.int (a + i * st), ?_, .int _ _⟩
    rw [rangeD_length] at hi
    unfold rangeD
    rw [List.getElem?_map, List.getElem?_range hi]; rfl
  · have e1 : (a + ((0 : Nat) : Int) * st) = a := by simp
    rw [e1]
    have : (((rangeD a st n).length : Nat) : Int) - ((0 : Nat) : Int) = Builtin.Range.rangeSize a b st := by rw [hsz, rangeD_length]; simp
    rw [this]
    exact Heap.get?_push_size _ rfl

theorem small_ok {a b st : Int} (ha : -1000000 ≤ a ∧ a ≤ 1000000) (hb : -1000000 ≤ b ∧ b ≤ 1000000) (hs : st = 1 ∨ st = -1) : Builtin.Range.small a b st = true := by
  rcases hs with rfl | rfl
  · exact small_one (by first | lia | omega) (by first | lia | omega) (by first | lia | omega) (by first | lia | omega)
  · unfold Builtin.Range.small Builtin.Range.rangeFitsLong Builtin.Range.rangeSize
    simp only [Int.reduceNeg, gt_iff_lt, Int.reduceLT, if_false, Bool.and_eq_true, decide_eq_true_eq, Bool.or_eq_true, beq_iff_eq]
    have r : ∀ x : Int, -10000000 ≤ x → x ≤ 10000000 → -2 ^ 63 ≤ x ∧ x < 2 ^ 63 := by intro x h1 h2; (first | lia | omega)
    split
    · exact ⟨⟨⟨⟨r a (by first | lia | omega) (by first | lia | omega), r b (by first | lia | omega) (by first | lia | omega)⟩, r (-1) (by decide) (by decide)⟩, r _ (by first | lia | omega) (by first | lia | omega)⟩, .inr (r _ (by first | lia | omega) (by first | lia | omega))⟩
    · exact ⟨⟨⟨⟨r a (by first | lia | omega) (by first | lia | omega), r b (by first | lia | omega) (by first | lia | omega)⟩, r (-1) (by decide) (by decide)⟩, r 0 (by decide) (by decide)⟩, .inl rfl⟩

theorem evi_range {es : List Expr} {np pos : Pos} {ds : List D} {a b st : Int} {n : Nat} (hh : A.handled = none) (hk : env.kindOf (Str.ofString "range") = some .globalImplicit) (hg : c.mg (Str.ofString "range") = none)
    (ha : EvL c A env σ pos es ds) (hds : ds = [.int b] ∧ a = 0 ∧ st = 1 ∨ ds = [.int a, .int b] ∧ st = 1 ∨ ds = [.int a, .int b, .int st] ∧ st = -1)
    (hA : -1000000 ≤ a ∧ a ≤ 1000000) (hB : -1000000 ≤ b ∧ b ≤ 1000000) (hn : (n : Int) = max 0 ((b - a) * st))
    (hne : starEach es env = [] ∨ ∃ x r, starEach es env = (false, x) :: r) (hpl : (backTo pos (starEach es env)).any (·.1) = false) :
    EvI c A env σ (.Call (.Name (Str.ofString "range") np) es [] pos) (rangeD a st n) := by
  intro P s G Q E k
  refine wpAny_Call_NameR (load_builtin G hk hg Boot.«range» (by decide +kernel) (by decide +kernel) (PySem.callWith_type hpl (evalArgs_L ha hne G fun vs h1 t1 P1 S1 G1 R1 => ?_)))
  have hst : st = 1 ∨ st = -1 := by rcases hds with ⟨_, _, h⟩ | ⟨_, h⟩ | ⟨_, h⟩ <;> (first | lia | omega)
  have hsz : Builtin.Range.rangeSize a b st = (n : Int) := by
    unfold Builtin.Range.rangeSize
    rcases hst with rfl | rfl
    · simp only [Int.reduceLT, gt_iff_lt, if_true, Int.ediv_one]
      split <;> (first | lia | omega)
    · simp only [Int.reduceNeg, gt_iff_lt, Int.reduceLT, if_false, Int.neg_neg, Int.ediv_one]
      split <;> (first | lia | omega)
  have fin : ∀ (t u v : Tok) (tk : Nat), Q (.ref h1.objs.size) { s with heap := h1.push { cls := .type "range", data := .fields #[.int a t, .int b u, .int st v] }, toks := tk } := by
    intro t u v tk
    have S2 := push_step (o := { cls := .type "range", dict := none, data := .fields #[.int a t, .int b u, .int st v], slots := #[] }) S1.ok
    exact k _ _ _ _ (S1.trans S2) (pyI_range hh (.inr ⟨rfl, rfl⟩) (small_ok hA hB hst) hsz)
  rcases hds with ⟨rfl, rfl, rfl⟩ | ⟨rfl, rfl⟩ | ⟨rfl, rfl⟩
  · have hInv := R1.cons_inv; clear R1; obtain ⟨_, _, rfl, Ra, R1⟩ := hInv
    obtain rfl := R1.nil_inv; clear R1; obtain ⟨_, rfl⟩ := Ra.int_inv
    exact call_range_1 (fin _ _ _ _)
  · have hInv := R1.cons_inv; clear R1; obtain ⟨_, _, rfl, Ra, R1⟩ := hInv
    have hInv := R1.cons_inv; clear R1; obtain ⟨_, _, rfl, Rb, R1⟩ := hInv
    obtain rfl := R1.nil_inv; clear R1; obtain ⟨_, rfl⟩ := Ra.int_inv; obtain ⟨_, rfl⟩ := Rb.int_inv
    exact call_range_2 (fin _ _ _ _)
  · have hInv := R1.cons_inv; clear R1; obtain ⟨_, _, rfl, Ra, R1⟩ := hInv
    have hInv := R1.cons_inv; clear R1; obtain ⟨_, _, rfl, Rb, R1⟩ := hInv
    have hInv := R1.cons_inv; clear R1; obtain ⟨_, _, rfl, Rc, R1⟩ := hInv
    obtain rfl := R1.nil_inv; clear R1; obtain ⟨_, rfl⟩ := Ra.int_inv; obtain ⟨_, rfl⟩ := Rb.int_inv; obtain ⟨_, rfl⟩ := Rc.int_inv
    refine call_range_3 (by first | lia | omega) (fin _ _ _ _) (.inl ?_)
    exact PyProof.noPylong_of_log2 (by decide +kernel)

theorem evi_range1 {e : Expr} {np pos : Pos} {b : Int} (hh : A.handled = none) (hk : env.kindOf (Str.ofString "range") = some .globalImplicit) (hg : c.mg (Str.ofString "range") = none) (he : Ev c A env σ e (.int b)) (hB : -1000000 ≤ b ∧ b ≤ 1000000)
    (hs : starEach [e] env = [(false, eval e env)] := by rfl) : EvI c A env σ (.Call (.Name (Str.ofString "range") np) [e] [] pos) (rangeD 0 1 b.toNat) :=
  evi_range (b := b) hh hk hg (evl_cons he evl_nil hs) (.inl ⟨rfl, rfl, rfl⟩) (by first | lia | omega) hB (by first | lia | omega) (.inr ⟨_, _, hs⟩) (by rw [hs]; rfl)
theorem evi_range2 {e f : Expr} {np pos : Pos} {a b : Int} (hh : A.handled = none) (hk : env.kindOf (Str.ofString "range") = some .globalImplicit) (hg : c.mg (Str.ofString "range") = none) (he : Ev c A env σ e (.int a)) (hf : Ev c A env σ f (.int b))
    (hA : -1000000 ≤ a ∧ a ≤ 1000000) (hB : -1000000 ≤ b ∧ b ≤ 1000000) (hs : starEach [e, f] env = [(false, eval e env), (false, eval f env)] := by rfl) (hs2 : starEach [f] env = [(false, eval f env)] := by rfl) :
    EvI c A env σ (.Call (.Name (Str.ofString "range") np) [e, f] [] pos) (rangeD a 1 (b - a).toNat) :=
  evi_range (b := b) hh hk hg (evl_cons he (evl_cons hf evl_nil hs2) (by rw [hs, hs2])) (.inr (.inl ⟨rfl, rfl⟩)) hA hB (by first | lia | omega) (.inr ⟨_, _, hs⟩) (by rw [hs]; rfl)
theorem evi_range3 {e f g : Expr} {np pos : Pos} {a b : Int} (hh : A.handled = none) (hk : env.kindOf (Str.ofString "range") = some .globalImplicit) (hg : c.mg (Str.ofString "range") = none) (he : Ev c A env σ e (.int a)) (hf : Ev c A env σ f (.int b)) (hgg : Ev c A env σ g (.int (-1)))
    (hA : -1000000 ≤ a ∧ a ≤ 1000000) (hB : -1000000 ≤ b ∧ b ≤ 1000000) (hs : starEach [e, f, g] env = [(false, eval e env), (false, eval f env), (false, eval g env)] := by rfl) (hs2 : starEach [f, g] env = [(false, eval f env), (false, eval g env)] := by rfl)
    (hs3 : starEach [g] env = [(false, eval g env)] := by rfl) :
    EvI c A env σ (.Call (.Name (Str.ofString "range") np) [e, f, g] [] pos) (rangeD a (-1) (a - b).toNat) :=
  evi_range (b := b) hh hk hg (evl_cons he (evl_cons hf (evl_cons hgg evl_nil hs3) (by rw [hs2, hs3])) (by rw [hs, hs2])) (.inr (.inr ⟨rfl, rfl⟩)) hA hB (by first | lia | omega) (.inr ⟨_, _, hs⟩) (by rw [hs]; rfl)
end
end
section

theorem Walks.bound {prog : Program} {w : World} {A : Around} {I : Addr} {fp wr : List Addr} {n : Nat} {P : Nat → Value → Prop} {St : Nat → Heap → Prop} (W : Walks prog w A I fp wr n P St) : Walks prog w A I fp wr n (fun i v => i < n ∧ P i v) St where
  sub := W.sub
  frame := W.frame
  item := fun i s Q E hi st hQ => W.item i s Q E hi st fun v h' tk hP => hQ v h' tk ⟨hi, hP⟩
  done := W.done
  self := W.self

noncomputable def Fun (P : Facts) : Prop := ∀ a o o', P a o → P a o' → o = o'

noncomputable def Det (c : Cx) (d : D) : Prop := ∀ (P : Facts), Fun P → ∀ v d', Rep c P v d → Rep c P v d' → d = d'
theorem det_int {c : Cx} (i : Int) : Det c (.int i) := by
  intro P hf v d' h h'
  obtain ⟨t, rfl⟩ := h.int_inv
  cases h'; rfl
theorem det_str {c : Cx} (l : List Nat) : Det c (.str l) := by
  intro P hf v d' h h'
  obtain ⟨t, rfl⟩ := h.str_inv
  generalize he : Value.str (S l) t = v at h'
  cases h' with
  | str l' t' => injection he with e1 e2; rw [S_inj.mp e1]
  | _ => cases he
theorem det_ints {c : Cx} (ns : List Int) : ∀ d ∈ ns.map D.int, Det c d := by
  intro d hd; obtain ⟨i, _, rfl⟩ := List.mem_map.mp hd; exact det_int i
theorem det_range {c : Cx} (a st : Int) (n : Nat) : ∀ d ∈ rangeD a st n, Det c d := by
  intro d hd; obtain ⟨i, _, rfl⟩ := List.mem_map.mp hd; exact det_int _
theorem det_chars {c : Cx} (l : List Nat) : ∀ d ∈ l.map (fun a => D.str [a]), Det c d := by
  intro d hd; obtain ⟨i, _, rfl⟩ := List.mem_map.mp hd; exact det_str _

theorem Good.func {c : Cx} {env : Env} {σ : Sto} {P : Facts} {s : Shared} (G : Good c env σ P s) : Fun P := fun a o o' h h' => by
  have := G.ok a o h; rw [G.ok a o' h'] at this; exact (Option.some.inj this).symm

noncomputable def Scalar : D → Prop
  | .none => True | .bool _ => True | .int _ => True | .str _ => True | _ => False
theorem Rep.scalar {c : Cx} {P P' : Facts} {v : Value} {d : D} (h : Rep c P v d) (hs : Scalar d) : Rep c P' v d := by
  cases h with
  | none => exact .none
  | bool => exact .bool _
  | int => exact .int _ _
  | str => exact .str _ _
  | tup | list | dict => exact hs.elim
end
section

noncomputable def EvIfs (c : Cx) (A : Around) (env : Env) (σ : Sto) (ifs : List Expr) (b : Bool) : Prop :=
  match ifs with
  | [] => b = true
  | [t] => EvT c A env σ t b
  | _ => False

structure Caps (env : Env) (scope : Scope) (cl : List (Str × Addr)) (x : String) (σ σc : Sto) : Prop where
  sub : ∀ p ∈ σc, p ∈ σ
  vals : ∀ y d, (y, Slot.own d) ∉ σc
  cell : ∀ p ∈ σc, env.kindOf (Str.ofString p.1) = some .cell ∧ (relabel scope env).names.lookup (Str.ofString p.1) = some .cell ∧ cl.lookup (Str.ofString p.1) = env.cells.lookup (Str.ofString p.1)

section
variable {c : Cx} {A : Around} {env : Env} {σ σc : Sto}

theorem paired_all {P P' : Facts} {ds : List D} {p : Value → Bool} {F : Value → Value → Prop} {pz : D → Bool} {g : D → D} (hp : ∀ v d, d ∈ ds → Rep c P v d → p v = pz d) (hF : ∀ v d y, d ∈ ds → Rep c P v d → F v y → Rep c P' y (g d)) :
    ∀ {vs ys : List Value} {es : List D}, (∀ d ∈ es, d ∈ ds) → RepL c P vs es → Paired F (vs.filter p) ys → RepL c P' ys ((es.filter pz).map g) := by
  intro vs
  induction vs with
  | nil => intro ys es _ R h; cases R; cases h; exact .nil
  | cons v vs ih =>
    intro ys es hm R h
    cases R with
    | @cons _ _ d es Rv RL =>
      rw [List.filter_cons] at h
      rw [List.filter_cons]
      cases hq : pz d with
      | false =>
        rw [hp v d (hm d (.head _)) Rv, hq] at h
        exact ih (fun e he => hm e (.tail _ he)) RL h
      | true =>
        rw [hp v d (hm d (.head _)) Rv, hq] at h
        simp only [if_true] at h ⊢
        cases h with
        | cons h1 h2 => exact .cons (hF v d _ (hm d (.head _)) Rv h1) (ih (fun e he => hm e (.tail _ he)) RL h2)

noncomputable def EvK (c : Cx) (A : Around) (env : Env) (σ : Sto) (e : Expr) (d : D) : Prop :=
  ∀ (P : Facts) (s : Shared), Good c env σ P s → ∀ (Q : Value → Shared → Prop) (E : Value → Shared → Prop),
    (∀ v h' tk, (∀ b o, s.heap.get? b = some o → h'.get? b = some o) → Rep c P v d → Q v { s with heap := h', toks := tk }) → wpAny c.M A (eval e env) Q E s
theorem evk_of_ev {e : Expr} {d : D} (h : Ev c A env σ e d) (hs : Scalar d) : EvK c A env σ e d := fun P s G Q E k =>
  h P s G Q E fun v h' tk _ S R => k v h' tk S.ext (R.scalar hs)
theorem evk_name {n : String} {pos : Pos} {d : D} (h : (n, Slot.val d) ∈ σ) (hd : ((Str.ofString n) == ("__debug__" : Str)) = false := by decide +kernel) : EvK c A env σ (.Name (Str.ofString n) pos) d := by
  intro P s G Q E k
  obtain ⟨v, V, R⟩ := G.vars _ _ h
  have q : Q v s := k v s.heap s.toks (fun _ _ e => e) R
  refine wpAny_Name ?_ hd
  rcases V with ⟨h1, m, h2, h3⟩ | ⟨h1, a, h2, h3⟩
  · exact wpAny_loadName_local G.eok.kind h1 h2 h3 q
  · exact wpAny_loadName_cell G.eok.kind h1 h2 h3 q

theorem comp_core {scope : Scope} {cl : List (Str × Addr)} {x : String} {ifs : List Expr} {elt : Expr} {ds : List D} {pz : D → Bool} {g : D → D} {P : Facts} {s : Shared} (G : Good c env σ P s)
    (hkind : scope.kind = .function) (hx : scope.names.lookup (Str.ofString x) = some .local) (hcap : Caps env scope cl x σ σc)
    (hdet : ∀ d ∈ ds, Det c d)
    (htest : ∀ (C : Addr) (d : D), d ∈ ds → EvIfs c A (compEnvC scope cl C env) ((x, .val d) :: σc) ifs (pz d))
    (helt : ∀ (C : Addr) (d : D), d ∈ ds → pz d = true → EvK c A (compEnvC scope cl C env) ((x, .val d) :: σc) elt (g d))
    {I : Addr} {fp : List Addr} {Pv : Nat → Value → Prop} {St : Nat → Heap → Prop} {h2 : Heap} {t2 : Nat} (it : It c A P ds I fp Pv St) (hI : s.heap.get? I = none) (hext : ∀ b o, s.heap.get? b = some o → h2.get? b = some o) (hst : St 0 h2) :
    ∃ (p : Value → Bool) (F : Value → Value → Prop), (∀ v d, d ∈ ds → Rep c P v d → p v = pz d) ∧ (∀ v d y, d ∈ ds → Rep c P v d → F v y → Rep c P y (g d)) ∧
      QuietOnC c.prog c.w A env scope cl (Str.ofString x) ifs elt [I] (fun i v => i < ds.length ∧ Pv i v) p F { s with heap := h2, toks := t2 } := by
  classical
  have hfun := G.func
  have hpq : ∀ v d, d ∈ ds → Rep c P v d → decide (∃ d, d ∈ ds ∧ Rep c P v d ∧ pz d = true) = pz d := by
    intro v d hd R
    cases hq : pz d with
    | true => exact decide_eq_true ⟨d, hd, R, hq⟩
    | false =>
      refine decide_eq_false ?_
      rintro ⟨d', _, R', hq'⟩
      rw [hdet d hd P hfun v d' R R', hq'] at hq; cases hq
  refine ⟨fun v => decide (∃ d, d ∈ ds ∧ Rep c P v d ∧ pz d = true), fun v y => ∃ d ∈ ds, Rep c P v d ∧ Rep c P y (g d), hpq, ?_, ?_⟩
  · rintro v d y hd R ⟨d', _, R', h⟩
    rw [hdet d hd P hfun v d' R R']; exact h
  · have good : ∀ (C : Addr) (d : D) (v : Value) (s₃ : Shared) (m₃ : Str → Option Value), Rep c P v d → s₃.heap.Ns C m₃ → m₃ (Str.ofString x) = some v → (∀ b o, b ∉ [I] → h2.get? b = some o → s₃.heap.get? b = some o) →
        Good c (compEnvC scope cl C env) ((x, .val d) :: σc) P s₃ := by
      intro C d v s₃ m₃ R hn hm hk
      have ext : ∀ b o, s.heap.get? b = some o → s₃.heap.get? b = some o := fun b o e => hk b o (fun hb => by rw [List.mem_singleton.mp hb, hI] at e; cases e) (hext b o e)
      refine ⟨⟨hkind, G.eok.globals, G.eok.builtins⟩, G.tops.keeps ext, fun a o e => ext _ _ (G.ok a o e), fun y d' hy => ?_, fun y d' hy => ?_⟩
      · rcases List.mem_cons.mp hy with e | hy
        · cases e
          exact ⟨v, .inl ⟨lookup_relabel_local hx, m₃, hn, hm⟩, R⟩
        · obtain ⟨w, V, R'⟩ := G.vars y d' (hcap.sub _ hy)
          obtain ⟨k1, k2, k3⟩ := hcap.cell _ hy
          refine ⟨w, .inr ⟨k2, ?_⟩, R'⟩
          rcases V with ⟨h1, _⟩ | ⟨h1, a, h2, h3⟩
          · rw [k1] at h1; cases h1
          · exact ⟨a, k3.trans h2, h3.keeps ext⟩
      · rcases List.mem_cons.mp hy with e | hy
        · cases e
        · exact absurd hy (hcap.vals y d')
    constructor
    · intro C i v s₃ m₃ E' _ hP hn hm hk _
      obtain ⟨d, hd, R⟩ := it.rep i v hP.1 hP.2
      have hdm := List.mem_of_getElem? hd
      have hpd := hpq v d hdm R
      have ht := htest C d hdm
      have Gc := good C d v s₃ m₃ R hn hm hk
      rcases ifs with _ | ⟨t, _ | ⟨t2, r⟩⟩
      · exact wpAny_tests_nil ⟨ht ▸ hpd.symm, s₃.heap, s₃.toks, rfl, fun _ _ e => e⟩
      · exact wpAny_tests_one (ht P s₃ Gc _ E' fun h' tk P' S => ⟨hpd.symm, h', tk, rfl, S.ext⟩)
      · exact ht.elim
    · intro C i v s₃ m₃ E' _ hP hpv hn hm hk _
      obtain ⟨d, hd, R⟩ := it.rep i v hP.1 hP.2
      have hdm := List.mem_of_getElem? hd
      have hq : pz d = true := by
        rw [← hpq v d hdm R]; exact hpv
      exact helt C d hdm hq P s₃ (good C d v s₃ m₃ R hn hm hk) _ E' fun y h' tk ext Ry => ⟨⟨d, hdm, R, Ry⟩, h', tk, rfl, ext⟩

theorem repL_of_places {P : Facts} {ds : List D} {vs : List Value} {Pv : Nat → Value → Prop} (hlen : vs.length = ds.length) (hP : ∀ j v, vs[j]? = some v → j < ds.length ∧ Pv j v) (rep : ∀ i v, i < ds.length → Pv i v → ∃ d, ds[i]? = some d ∧ Rep c P v d) : RepL c P vs ds := by
  induction vs generalizing ds Pv with
  | nil => cases ds with
    | nil => exact .nil
    | cons => cases hlen
  | cons v vs ih =>
    cases ds with
    | nil => cases hlen
    | cons d ds =>
      obtain ⟨d', h1, h2⟩ := rep 0 v (by simp) (hP 0 v rfl).2
      simp at h1; subst h1
      refine .cons h2 (ih (Pv := fun j => Pv (j + 1)) (by simpa using hlen) (fun j u hj => ?_) fun i u hi hu => ?_)
      · have := hP (j + 1) u (by simpa using hj)
        exact ⟨by simpa using this.1, this.2⟩
      · obtain ⟨d', h1, h2⟩ := rep (i + 1) u (by simpa using hi) hu
        exact ⟨d', by simpa using h1, h2⟩

theorem ev_listcompK {x : String} {px pos : Pos} {iter elt : Expr} {ifs : List Expr} {scope : Scope} {cl : List (Str × Addr)} {ds : List D} (pz : D → Bool) (g : D → D) (hdet : ∀ d ∈ ds, Det c d)
    (hiter : EvI c A env σ iter ds) (hcap : Caps env scope cl x σ σc)
    (htest : ∀ (C : Addr) (d : D), d ∈ ds → EvIfs c A (compEnvC scope cl C env) ((x, .val d) :: σc) ifs (pz d))
    (helt : ∀ (C : Addr) (d : D), d ∈ ds → pz d = true → EvK c A (compEnvC scope cl C env) ((x, .val d) :: σc) elt (g d))
    (hlen : ds.length ≤ sizeLine)
    (hclos : closureFor scope env = pure cl) (hcell : ∀ y ∈ scope.names, y.2 ≠ .cell) (hkind : scope.kind = .function)
    (hnames : ∀ y ∈ scope.names, y.2 = .local → scope.names.lookup y.1 = some .local) (hx : scope.names.lookup (Str.ofString x) = some .local)
    (hfold : ∀ x, foldedSetIterable iter env x = pure x := by intro _; rfl) :
    Ev c A env σ (.ListComp elt [⟨.Name (Str.ofString x) px, iter, ifs, 0⟩] scope pos) (.list ((ds.filter pz).map g)) := by
  intro P s G Q E k
  rw [eval_ListComp]
  refine wpAny_comprehension_free (use := none) rfl hfold hclos hkind hnames (hiter P s G _ E fun xv h1 t1 P1 S1 hpy => hpy _ S1.ok _ E fun I fp Pv St h2 t2 it hI hext hst => ?_)
  have G1 := G.step (tk := t1) S1
  obtain ⟨p, F, hp, hF, hq⟩ := comp_core G1 hkind hx hcap hdet htest helt (t2 := t2) it hI hext hst
  refine comp_block_walkC (RR := fun acc C => compPost c.M A E none Q acc C) (Walks.bound it.walks) hlen p F hcell hkind hx hst ?_ hq ?_
  · intro b hb
    rcases it.fps b hb with rfl | ⟨o, ho⟩
    · obtain ⟨o, n, ho, _⟩ := it.live 0 h2 hst
      exact Heap.lt_size ho
    · exact Heap.lt_size (hext _ _ (S1.ok _ _ ho))
  · intro Da C h' tk m' ys vs hD hC hDC hn hl hpl hlen' hP hFF hk
    refine ⟨m', hn, fun h'' hs'' => ?_⟩
    have hI' : ∀ b o, h1.get? b = some o → b ∉ [I] := fun b o e hb => by rw [List.mem_singleton.mp hb] at e; rw [hI] at e; cases e
    have ext1 : ∀ b o, h1.get? b = some o → h''.get? b = some o := fun b o e => hs''.extBut b o (by rintro rfl; have := hext _ _ e; rw [hC] at this; cases this) (hk b o (hI' b o e) (hext b o e))
    have hpl2 := hpl.extBut hs''.extBut hDC
    obtain ⟨n, ho⟩ := hpl2
    have hD1 : h1.get? Da = none := by
      cases z : h1.get? Da with
      | none => rfl
      | some o => rw [hext _ _ z] at hD; cases hD
    have S2 : Step P1 (fun a q => P1 a q ∨ (a = Da ∧ q = listO ys.toList n)) h1 h'' := Step.more S1.ok ext1 hD1 (by rw [ho])
    have RL : RepL c P1 vs ds := repL_of_places hlen' hP it.rep
    have RY : RepL c P1 ys.toList ((ds.filter pz).map g) := paired_all hp (fun v d y hd Rv hf => hF v d y hd Rv hf) (fun _ h => h) RL hFF
    exact k _ _ _ _ (S1.trans S2) (.list (.inr ⟨rfl, rfl⟩) (RY.mono S2.sub))
theorem ev_listcomp {x : String} {px pos : Pos} {iter elt : Expr} {ifs : List Expr} {scope : Scope} {cl : List (Str × Addr)} {ds : List D} (pz : D → Bool) (g : D → D) (hdet : ∀ d ∈ ds, Det c d)
    (hiter : EvI c A env σ iter ds) (hcap : Caps env scope cl x σ σc)
    (htest : ∀ (C : Addr) (d : D), d ∈ ds → EvIfs c A (compEnvC scope cl C env) ((x, .val d) :: σc) ifs (pz d))
    (helt : ∀ (C : Addr) (d : D), d ∈ ds → pz d = true → Ev c A (compEnvC scope cl C env) ((x, .val d) :: σc) elt (g d))
    (hsc : (∀ d ∈ ds, Scalar (g d))) (hlen : ds.length ≤ sizeLine)
    (hclos : closureFor scope env = pure cl) (hcell : ∀ y ∈ scope.names, y.2 ≠ .cell) (hkind : scope.kind = .function)
    (hnames : ∀ y ∈ scope.names, y.2 = .local → scope.names.lookup y.1 = some .local) (hx : scope.names.lookup (Str.ofString x) = some .local)
    (hfold : ∀ x, foldedSetIterable iter env x = pure x := by intro _; rfl) :
    Ev c A env σ (.ListComp elt [⟨.Name (Str.ofString x) px, iter, ifs, 0⟩] scope pos) (.list ((ds.filter pz).map g)) :=
  ev_listcompK pz g hdet hiter hcap htest (fun C d hd hp => evk_of_ev (helt C d hd hp) (hsc d hd)) hlen hclos hcell hkind hnames hx hfold
end
end
section

section
variable {c : Cx} {A : Around} {env : Env} {σ σc : Sto} {N : Sto → Prop} {R : D → Prop} {rest : List Stmt}

theorem ex_assign_compK {x y : String} {px py pos spos : Pos} {iter elt : Expr} {ifs : List Expr} {scope : Scope} {cl : List (Str × Addr)} {ds : List D} {σ' : Sto} (pz : D → Bool) (g : D → D) (hdet : ∀ d ∈ ds, Det c d)
    (hiter : EvI c A env σ iter ds) (hcap : Caps env scope cl x σ σc)
    (htest : ∀ (C : Addr) (d : D), d ∈ ds → EvIfs c A (compEnvC scope cl C env) ((x, .val d) :: σc) ifs (pz d))
    (helt : ∀ (C : Addr) (d : D), d ∈ ds → pz d = true → EvK c A (compEnvC scope cl C env) ((x, .val d) :: σc) elt (g d))
    (hlen : ds.length ≤ sizeLine)
    (hclos : closureFor scope env = pure cl) (hcell : ∀ y ∈ scope.names, y.2 ≠ .cell) (hkind : scope.kind = .function)
    (hnames : ∀ y ∈ scope.names, y.2 = .local → scope.names.lookup y.1 = some .local) (hx : scope.names.lookup (Str.ofString x) = some .local)
    (hy : StoreOk env y) (hσ : set σ y (.val (.list ((ds.filter pz).map g))) = σ') (h : Ex c A env σ' rest N R)
    (hsw : swapsWith (.ListComp elt [⟨.Name (Str.ofString x) px, iter, ifs, 0⟩] scope pos) (some (.Name (Str.ofString y) py)) spos.line env = pure true)
    (hfold : ∀ x, foldedSetIterable iter env x = pure x := by intro _; rfl) :
    Ex c A env σ (.Assign [.Name (Str.ofString y) py] (.ListComp elt [⟨.Name (Str.ofString x) px, iter, ifs, 0⟩] scope pos) spos :: rest) N R := by
  subst hσ
  refine ex_seq (N1 := fun σ' => σ' = set σ y (.val (.list ((ds.filter pz).map g)))) (fun s₀ P₀ P s F Q E kn kr => ?_) (fun σ' e => e ▸ h)
  rw [exec_Assign_Name_used _ _ _ _ hsw]
  refine wpAny_bind (wpAny_standAt (wpAny_bind ?_))
  show wpAny _ A (do let _ ← comprehension (.ListComp elt [⟨.Name (Str.ofString x) px, iter, ifs, 0⟩] scope pos) scope env _ (newList []) false (eval iter env) (some (assign (.Name (Str.ofString y) py) env))) _ _ s
  have G := F.good
  refine wpAny_bind (wpAny_mono (wpAny_comprehension_free (use := some (assign (.Name (Str.ofString y) py) env)) (Q := fun _ s' => Q .next s') rfl hfold hclos hkind hnames
    (hiter P s G _ E fun xv h1 t1 P1 S1 hpy => hpy _ S1.ok _ E fun I fp Pv St h2 t2 it hI hext hst => ?_)) (fun _ s' hq => wpAny_pure (wpAny_pure hq)) fun _ _ e => e)
  have G1 := G.step (tk := t1) S1
  obtain ⟨p, Fr, hp, hF, hq⟩ := comp_core G1 hkind hx hcap hdet htest helt (t2 := t2) it hI hext hst
  refine comp_block_walkC (RR := fun acc C => compPost c.M A E (some (assign (.Name (Str.ofString y) py) env)) (fun _ s' => Q .next s') acc C) (Walks.bound it.walks) hlen p Fr hcell hkind hx hst ?_ hq ?_
  · intro b hb
    rcases it.fps b hb with rfl | ⟨o, ho⟩
    · obtain ⟨o, n, ho, _⟩ := it.live 0 h2 hst
      exact Heap.lt_size ho
    · exact Heap.lt_size (hext _ _ (S1.ok _ _ ho))
  · intro Da C h' tk m' ys vs hD hC hDC hn hl hpl hlen' hP hFF hk
    have hI' : ∀ b o, h1.get? b = some o → b ∉ [I] := fun b o e hb => by rw [List.mem_singleton.mp hb] at e; rw [hI] at e; cases e
    have ext1 : ∀ b o, h1.get? b = some o → h'.get? b = some o := fun b o e => hk b o (hI' b o e) (hext b o e)
    obtain ⟨n, ho⟩ := hpl
    have hD1 : h1.get? Da = none := by
      cases z : h1.get? Da with
      | none => rfl
      | some o => rw [hext _ _ z] at hD; cases hD
    have hC1 : h1.get? C = none := by
      cases z : h1.get? C with
      | none => rfl
      | some o => rw [hext _ _ z] at hC; cases hC
    have S2 : Step P1 (fun a q => P1 a q ∨ (a = Da ∧ q = listO ys.toList n)) h1 h' := Step.more S1.ok ext1 hD1 (by rw [ho])
    have RY : RepL c P1 ys.toList ((ds.filter pz).map g) := paired_all hp (fun v d y hd Rv hf => hF v d y hd Rv hf) (fun _ h => h) (repL_of_places hlen' hP it.rep) hFF
    have F2 := F.step (tk := tk) (S1.trans S2)
    show wpAny _ A (assign (.Name (Str.ofString y) py) env (.ref Da)) _ _ _
    have hCL : C ≠ env.locals := by
      rintro rfl
      obtain ⟨m, oo, es, ep, ho, _⟩ := F.ns
      rw [S1.ext _ _ ho] at hC1; cases hC1
    have hCc : ∀ z a, env.cells.lookup z = some a → a ≠ C := by
      rintro z a hz rfl
      obtain ⟨⟨v, o, ho, _⟩, _⟩ := F.cell z a hz
      rw [S1.ext _ _ ho] at hC1; cases hC1
    refine wpAny_assign_Name (F2.store' (u := .val (.list ((ds.filter pz).map g))) hy (.list (.inr ⟨rfl, rfl⟩) (RY.mono S2.sub)) fun h3 t3 kp vk F3 => ?_)
    -- the name space of the comprehension is where it was
    refine ⟨m', hn.at' fun o e => kp C o hCL (fun z a hz e' => hCc z a hz e'.symm) e, fun h4 hs4 => ?_⟩
    have hC0 : s₀.heap.get? C = none := by
      cases z : s₀.heap.get? C with
      | none => rfl
      | some o => rw [S1.ext _ _ (F.keep C o z)] at hC1; cases hC1
    refine kn _ _ h4 t3 rfl (fun a o e => S2.sub _ _ (S1.sub _ _ e)) (F3.poke (I := C) hC0 hCL hCc (fun z d a hz V e => ?_) (fun _ _ _ e => e) F3.sub0 (fun a o e => ?_) (fun _ _ e => .inl e) fun b o hb e => hs4.extBut b o hb e)
    · obtain ⟨hm, hm2⟩ | ⟨hne, hm⟩ := mem_set hz
      · cases hm2
      · obtain ⟨a1, V1, hn1, O1⟩ := F.good.owns z d hm
        obtain rfl := Value.ref.inj (V.det (vk z _ hne (V1.keeps (S1.trans S2).ext)))
        subst e
        obtain ⟨o, ho, _⟩ := O1.some
        rw [S1.ext _ _ ho] at hC1; cases hC1
    · rcases e with e | ⟨rfl, rfl⟩
      · refine hs4.extBut _ _ ?_ (F3.good.ok _ _ (.inl e))
        rintro rfl
        rw [S1.ok _ _ e] at hC1; cases hC1
      · exact hs4.extBut _ _ hDC (F3.good.ok _ _ (.inr ⟨rfl, rfl⟩))
theorem ex_assign_comp {x y : String} {px py pos spos : Pos} {iter elt : Expr} {ifs : List Expr} {scope : Scope} {cl : List (Str × Addr)} {ds : List D} {σ' : Sto} (pz : D → Bool) (g : D → D) (hdet : ∀ d ∈ ds, Det c d)
    (hiter : EvI c A env σ iter ds) (hcap : Caps env scope cl x σ σc)
    (htest : ∀ (C : Addr) (d : D), d ∈ ds → EvIfs c A (compEnvC scope cl C env) ((x, .val d) :: σc) ifs (pz d))
    (helt : ∀ (C : Addr) (d : D), d ∈ ds → pz d = true → Ev c A (compEnvC scope cl C env) ((x, .val d) :: σc) elt (g d))
    (hsc : (∀ d ∈ ds, Scalar (g d))) (hlen : ds.length ≤ sizeLine)
    (hclos : closureFor scope env = pure cl) (hcell : ∀ y ∈ scope.names, y.2 ≠ .cell) (hkind : scope.kind = .function)
    (hnames : ∀ y ∈ scope.names, y.2 = .local → scope.names.lookup y.1 = some .local) (hx : scope.names.lookup (Str.ofString x) = some .local)
    (hy : StoreOk env y) (hσ : set σ y (.val (.list ((ds.filter pz).map g))) = σ') (h : Ex c A env σ' rest N R)
    (hsw : swapsWith (.ListComp elt [⟨.Name (Str.ofString x) px, iter, ifs, 0⟩] scope pos) (some (.Name (Str.ofString y) py)) spos.line env = pure true)
    (hfold : ∀ x, foldedSetIterable iter env x = pure x := by intro _; rfl) :
    Ex c A env σ (.Assign [.Name (Str.ofString y) py] (.ListComp elt [⟨.Name (Str.ofString x) px, iter, ifs, 0⟩] scope pos) spos :: rest) N R :=
  ex_assign_compK pz g hdet hiter hcap htest (fun C d hd hp => evk_of_ev (helt C d hd hp) (hsc d hd)) hlen hclos hcell hkind hnames hx hy hσ h hsw hfold
end
end
section

theorem bindL_other {k : Str → Option NameKind} {n : Str} : ∀ {binds : List (Str × Value)} {m : Str → Option Value}, n ∉ binds.map (·.1) → bindL k binds m n = m n
  | [], _, _ => rfl
  | (a, v) :: r, m, h => by
    unfold bindL
    rw [List.map_cons, List.mem_cons, not_or] at h
    rw [bindL_other h.2]
    split
    · exact if_neg h.1
    · rfl
theorem bindL_mem {k : Str → Option NameKind} {n : Str} {v : Value} (hk : k n = some .local) : ∀ {binds : List (Str × Value)} {m : Str → Option Value}, (binds.map (·.1)).Nodup → (n, v) ∈ binds → bindL k binds m n = some v
  | (a, w) :: r, m, hn, h => by
    unfold bindL
    rw [List.map_cons, List.nodup_cons] at hn
    rcases List.mem_cons.mp h with e | h
    · cases e
      rw [bindL_other hn.1, if_pos hk]; exact if_pos rfl
    · exact bindL_mem hk hn.2 h
theorem bindC_other {k : Str → Option NameKind} {n : Str} : ∀ {binds : List (Str × Value)} {m : Str → Option Value}, n ∉ binds.map (·.1) → bindC k binds m n = m n
  | [], _, _ => rfl
  | (a, v) :: r, m, h => by
    unfold bindC
    rw [List.map_cons, List.mem_cons, not_or] at h
    rw [bindC_other h.2]
    split
    · rfl
    · exact if_neg h.1
theorem bindC_mem {k : Str → Option NameKind} {n : Str} {v : Value} (hk : k n ≠ some .local) : ∀ {binds : List (Str × Value)} {m : Str → Option Value}, (binds.map (·.1)).Nodup → (n, v) ∈ binds → bindC k binds m n = some v
  | (a, w) :: r, m, hn, h => by
    unfold bindC
    rw [List.map_cons, List.nodup_cons] at hn
    rcases List.mem_cons.mp h with e | h
    · cases e
      rw [bindC_other hn.1, if_neg hk]; exact if_pos rfl
    · exact bindC_mem hk hn.2 h

noncomputable def paramSto : List String → List D → Sto
  | x :: xs, d :: ds => (x, .val d) :: paramSto xs ds
  | _, _ => []

theorem param_mem {c : Cx} {P : Facts} : ∀ {xs : List String} {vs : List Value} {ds : List D} {y : String} {u : Slot}, xs.length = ds.length → RepL c P vs ds → (y, u) ∈ paramSto xs ds → ∃ d v, u = .val d ∧ Rep c P v d ∧ (Str.ofString y, v) ∈ (xs.map Str.ofString).zip vs := by
  intro xs
  induction xs with
  | nil => intro vs ds y u hl RL h; cases h
  | cons x xs ih =>
    intro vs ds y u hl RL h
    cases ds with
    | nil => cases hl
    | cons d ds =>
      have hInv := RL.cons_inv; clear RL; obtain ⟨_, _, rfl, R, RL⟩ := hInv
      rcases List.mem_cons.mp h with e | h
      · cases e; exact ⟨_, _, rfl, R, .head _⟩
      · obtain ⟨d, v, h1, h2, h3⟩ := ih (Nat.succ.inj hl) RL h
        exact ⟨d, v, h1, h2, .tail _ h3⟩

theorem call_cellsB {c : Cx} {A : Around} {s : Shared} {R : Result → Shared → Prop} {a : Addr} {o : Obj} {fd : FuncData} {body : List Stmt} {vals : List Value} {binds : List (Str × Value)}
    (hroom : A.depth < recursionLimit) (ho : s.heap.get? a = some o) (hdata : o.data = .func fd) (hlim : s.heap.NoLimit) (hcd : s.heap.CodeRec fd.code fd.qualname)
    (hbody : fd.body = .stmts body) (hbind : BindsTo s fd ⟨vals, []⟩ binds) (hclo : fd.closure = [])
    (hkind : ∀ x ∈ binds, fd.scope.names.lookup x.1 = some .local ∨ (fd.scope.names.lookup x.1 = some .cell ∧ ((cellsFrom (s.heap.objs.size + 1) fd.scope.names []).lookup x.1).isSome = true))
    (h : ∀ s₁, InCallC s (callEnvC fd s.heap.objs.size a).locals (bindL (callEnvC fd s.heap.objs.size a).kindOf binds fun _ => none) (callEnvC fd s.heap.objs.size a).cells
        (bindC (callEnvC fd s.heap.objs.size a).kindOf binds fun _ => none) s₁ →
      wpAny c.M (A.deeper (callEnvC fd s.heap.objs.size a)) (execs body (callEnvC fd s.heap.objs.size a)) (fun f s' => R (.ok (.ret (match f with | .ret v => v | _ => .none))) s')
        (fun e s' => wpAny c.M (A.deeper (callEnvC fd s.heap.objs.size a)) (leaving (callEnvC fd s.heap.objs.size a) e) (fun _ s'' => R (.error e) s'') (fun e' s'' => R (.error e') s'') s') s₁)
    (hco : fd.scope.isCoroutine = false) (hgen : fd.scope.isGenerator = false) (hk : fd.scope.kind = .function) :
    codeAny c.M A (.call (.ref a) ⟨vals, []⟩) R s := by
  refine codeAny_call_function hroom ho hdata hco hgen hbody hcd ?_
  rw [hclo]
  refine hbind _ _ _ _ (wpAny_newFunctionEnv_cells hk hkind fun env he s' x => ?_)
  subst he
  exact ⟨hlim.keeps x.toInCall.keep, codeAny_func (h s' x)⟩

theorem len1 {l : List Value} (h : l.length = 1) : ∃ a, l = [a] := List.length_eq_one_iff.mp h
theorem len2 {l : List Value} (h : l.length = 2) : ∃ a b, l = [a, b] := by
  cases l with
  | nil => cases h
  | cons a r => obtain ⟨b, rfl⟩ := len1 (Nat.succ.inj h); exact ⟨a, b, rfl⟩
theorem len3 {l : List Value} (h : l.length = 3) : ∃ a b d, l = [a, b, d] := by
  cases l with
  | nil => cases h
  | cons a r => obtain ⟨b, d, rfl⟩ := len2 (Nat.succ.inj h); exact ⟨a, b, d, rfl⟩

theorem fn_introD {c : Cx} {n : Nat} {f : Addr} {o : Obj} {fd : FuncData} {body : List Stmt} {xs : List String} {args0 : List D} {res : D} (ev : List Value) (ed : List D) (hev : ∀ P, RepL c P ev ed)
    (hK : c.K.lookup f = some o) (ho : o.data = .func fd) (hcode : codeIn c.K fd.code fd.qualname = true) (hbody : fd.body = .stmts body) (hclo : fd.closure = []) (hglob : fd.globals = mainGlobals) (hbi : fd.builtins = builtinsNs)
    (hlen : xs.length = (args0 ++ ed).length) (hbind : ∀ (s : Shared) (vals : List Value), c.K.In s.heap → vals.length = args0.length → BindsTo s fd ⟨vals, []⟩ ((xs.map Str.ofString).zip (vals ++ ev)))
    (hkinds : (xs.all fun x => fd.scope.names.lookup (Str.ofString x) == some .local || fd.scope.names.lookup (Str.ofString x) == some .cell) = true) (hnd : (xs.map Str.ofString).Nodup)
    (hco : fd.scope.isCoroutine = false) (hgen : fd.scope.isGenerator = false) (hk : fd.scope.kind = .function)
    (h : ∀ (A : Around) (L : Addr), AOk n A → Ex c A (callEnvC fd L f) (paramSto xs (args0 ++ ed)) body (fun _ => False) (fun d => d = res)) : Fn c (n + 1) f args0 res := by
  intro A hA P s vals T ok RL0 R q
  have RL : RepL c P (vals ++ ev) (args0 ++ ed) := RL0.append (hev P)
  have hb0 := hbind s vals T.k RL0.length
  revert RL hb0
  generalize vals ++ ev = vs
  generalize args0 ++ ed = args at hlen h
  intro RL hb0
  have hvl : vs.length = xs.length := by rw [RL.length, hlen]
  have hall : (((xs.map Str.ofString).zip vs).all fun y => fd.scope.names.lookup y.1 == some .local || fd.scope.names.lookup y.1 == some .cell) = true := by
    rw [List.all_eq_true]
    intro y hy
    have h1 := (List.of_mem_zip hy).1
    obtain ⟨z, hz, e⟩ := List.mem_map.mp h1
    have := List.all_eq_true.mp hkinds z hz
    rw [← e]; exact this
  refine call_cellsB hA.room (T.k _ _ hK) ho T.lim (codeRec_of T.k hcode) hbody hb0 hclo (kindsX hall _) (fun s₁ x => ?_) hco hgen hk
  have hzn : (((xs.map Str.ofString).zip vs).map (·.1)).Nodup := by
    rw [List.map_fst_zip (by simp [hvl])]; exact hnd
  have fresh : ∀ b, s.heap.objs.size ≤ b → s.heap.get? b = none := fun b hb => by
    cases z : s.heap.get? b with
    | none => rfl
    | some o => exact absurd (Heap.lt_size z) (Nat.not_lt.mpr hb)
  have hL : (callEnvC fd s.heap.objs.size f).locals = s.heap.objs.size := rfl
  have cellA : ∀ y a, (callEnvC fd s.heap.objs.size f).cells.lookup y = some a → s.heap.objs.size < a := fun y a hy => x.above y a (mem_of_lookup hy)
  have ok1 : ∀ a o, P a o → s₁.heap.get? a = some o := fun a o e => x.toInCall.keep a o (ok a o e)
  have Fm : Frm c (callEnvC fd s.heap.objs.size f) s P (paramSto xs args) P s₁ := by
    refine ⟨⟨⟨hk, hglob, hbi⟩, T.keeps x.toInCall.keep, ok1, fun y d hy => ?_, fun y d hy => ?_⟩, T, x.toInCall.same, ok, x.toInCall.keep, fun _ _ e => e, fun _ _ e => .inl e, ⟨_, x.toInCall.ns⟩, fresh _ (Nat.le_refl _), fun o e => ?_, fun y a hy => ⟨⟨_, x.cell y a hy⟩, fresh a (Nat.le_of_lt (cellA y a hy)), fun o e => ?_, Nat.ne_of_gt (cellA y a hy)⟩,
      fun y z a hy hz => name_of_addr x.apart (mem_of_lookup hy) (mem_of_lookup hz), fun y d a hy => ?_, fun y z d d' a hy => ?_⟩
    · obtain ⟨d', v, e, Rv, hm⟩ := param_mem hlen RL hy
      cases e
      refine ⟨v, ?_, Rv⟩
      have hkk := List.all_eq_true.mp hall _ hm
      rcases Bool.or_eq_true_iff.mp hkk with hl | hc
      · have hl' : (callEnvC fd s.heap.objs.size f).kindOf (Str.ofString y) = some .local := by show fd.scope.names.lookup (Str.ofString y) = some .local; simpa using hl
        exact .inl ⟨hl', _, x.toInCall.ns, bindL_mem hl' hzn hm⟩
      · have hc' : (callEnvC fd s.heap.objs.size f).kindOf (Str.ofString y) = some .cell := by show fd.scope.names.lookup (Str.ofString y) = some .cell; simpa using hc
        refine .inr ⟨hc', ?_⟩
        rcases kindsX hall (s.heap.objs.size + 1) _ hm with q | ⟨_, q⟩
        · have : (callEnvC fd s.heap.objs.size f).kindOf (Str.ofString y) = some .local := q
          rw [hc'] at this; cases this
        · obtain ⟨a, ha⟩ := Option.isSome_iff_exists.mp q
          refine ⟨a, ha, ?_⟩
          have := x.cell _ a ha
          rwa [bindC_mem (by rw [hc']; intro e; cases e) hzn hm] at this
    · obtain ⟨d', v, e, _⟩ := param_mem hlen RL hy
      cases e
    · have := ok _ _ e
      rw [show (callEnvC fd s.heap.objs.size f).locals = s.heap.objs.size from rfl, fresh _ (Nat.le_refl _)] at this; cases this
    · have := ok _ _ e
      rw [fresh a (Nat.le_of_lt (cellA y a hy))] at this; cases this
    · obtain ⟨d', v, e, _⟩ := param_mem hlen RL hy
      cases e
    · obtain ⟨d', v, e, _⟩ := param_mem hlen RL hy
      cases e
  obtain ⟨hh, tt, rfl⟩ := x.toInCall.same
  refine h (A.deeper _) s.heap.objs.size (hA.deeper _) s P P _ Fm _ _ (fun σ' P' h' tk hN => hN.elim) fun d v P' h' tk hR hsub F' Rv => ?_
  subst hR
  exact q v h' tk P' ⟨F'.keep, hsub, F'.new0, F'.good.ok⟩ Rv

theorem fn_intro {c : Cx} {n : Nat} {f : Addr} {o : Obj} {fd : FuncData} {body : List Stmt} {xs : List String} {args : List D} {res : D}
    (hK : c.K.lookup f = some o) (ho : o.data = .func fd) (hcode : codeIn c.K fd.code fd.qualname = true) (hbody : fd.body = .stmts body) (hclo : fd.closure = []) (hglob : fd.globals = mainGlobals) (hbi : fd.builtins = builtinsNs)
    (hlen : xs.length = args.length) (hbind : ∀ vals : List Value, vals.length = xs.length → bindArgs fd ⟨vals, []⟩ = pure ((xs.map Str.ofString).zip vals))
    (hkinds : (xs.all fun x => fd.scope.names.lookup (Str.ofString x) == some .local || fd.scope.names.lookup (Str.ofString x) == some .cell) = true) (hnd : (xs.map Str.ofString).Nodup)
    (hco : fd.scope.isCoroutine = false) (hgen : fd.scope.isGenerator = false) (hk : fd.scope.kind = .function)
    (h : ∀ (A : Around) (L : Addr), AOk n A → Ex c A (callEnvC fd L f) (paramSto xs args) body (fun _ => False) (fun d => d = res)) : Fn c (n + 1) f args res := by
  refine fn_introD [] [] (fun _ => .nil) hK ho hcode hbody hclo hglob hbi (by rw [List.append_nil]; exact hlen) (fun s vals _ hl => ?_) hkinds hnd hco hgen hk (by rw [List.append_nil]; exact h)
  rw [List.append_nil]
  exact BindsTo.of_eq (hbind vals (by rw [hl, hlen]))
end
section
set_option maxRecDepth 100000
set_option maxHeartbeats 8000000
open_top hd for PySem.Challenge.rw_qc0002_02
end
section
set_option maxRecDepth 100000
theorem lit_empty : Str.ofString "" = S [] := by decide +kernel
theorem lit_aabb : Str.ofString "aabb'" = S [97, 97, 98, 98, 39] := by decide +kernel
theorem lit_apo : Str.ofString "'" = S [39] := by decide +kernel
theorem lit_dots : Str.ofString "..." = S [46, 46, 46] := by decide +kernel
theorem lit_dots6 : Str.ofString "......" = S [46, 46, 46, 46, 46, 46] := by decide +kernel
theorem lit_blank : Str.ofString " " = S [32] := by decide +kernel
theorem lit_tab : Str.ofString "\t" = S [9] := by decide +kernel
theorem lit_nlb : Str.ofString "\n " = S [10, 32] := by decide +kernel
theorem lit_a : Str.ofString "a" = S [97] := by decide +kernel
theorem lit_b : Str.ofString "b" = S [98] := by decide +kernel
noncomputable def mgOf (K : Frag) : Str → Option Value := match K.lookup 3 with
  | some ⟨_, _, .dict es _, _⟩ => nsFind es
  | _ => fun _ => none

theorem set_nil (x : String) (u : Slot) : set [] x u = [(x, u)] := rfl
theorem set_miss {y x : String} {v u : Slot} {σ σ' : Sto} (h : y ≠ x) (e : set σ x u = σ') : set ((y, v) :: σ) x u = (y, v) :: σ' := by rw [set, if_neg h, e]
theorem set_hit {x : String} {v u : Slot} {σ σ' : Sto} (e : del σ x = σ') : set ((x, v) :: σ) x u = (x, u) :: σ' := by rw [set, if_pos rfl, e]
theorem del_nil (x : String) : del [] x = [] := rfl
theorem del_miss {y x : String} {v : Slot} {σ σ' : Sto} (h : y ≠ x) (e : del σ x = σ') : del ((y, v) :: σ) x = (y, v) :: σ' := by rw [del, if_neg h, e]
theorem del_hit {x : String} {v : Slot} {σ σ' : Sto} (e : del σ x = σ') : del ((x, v) :: σ) x = σ' := by rw [del, if_pos rfl, e]
theorem set_twice {σ σ1 σ2 : Sto} {x y : String} {u v : Slot} (h1 : set σ x u = σ1) (h2 : set σ1 y v = σ2) : set (set σ x u) y v = σ2 := by rw [h1, h2]
theorem setAll_nil (σ : Sto) : setAll σ [] [] = σ := rfl
theorem setAll_cons {σ σ1 σ2 : Sto} {x : String} {xs : List String} {d : D} {ds : List D} (h1 : set σ x (.val d) = σ1) (h2 : setAll σ1 xs ds = σ2) : setAll σ (x :: xs) (d :: ds) = σ2 := by rw [setAll, h1, h2]
theorem setAll_rev2 {σ σ' : Sto} {xs : List String} {a b : D} (h : setAll σ xs [b, a] = σ') : setAll σ xs [a, b].reverse = σ' := h
theorem setAll_rev3 {σ σ' : Sto} {xs : List String} {a b d : D} (h : setAll σ xs [d, b, a] = σ') : setAll σ xs [a, b, d].reverse = σ' := h
theorem set_ps {x y : String} {xs : List String} {d : D} {ds : List D} {u : Slot} {σ' : Sto} (h : set ((x, .val d) :: paramSto xs ds) y u = σ') : set (paramSto (x :: xs) (d :: ds)) y u = σ' := h
theorem set_ps0 (y : String) (u : Slot) : set (paramSto [] []) y u = [(y, u)] := rfl
theorem del_ps {x y : String} {xs : List String} {d : D} {ds : List D} {σ' : Sto} (h : del ((x, .val d) :: paramSto xs ds) y = σ') : del (paramSto (x :: xs) (d :: ds)) y = σ' := h
theorem del_ps0 (y : String) : del (paramSto [] []) y = [] := rfl
theorem ex_conv {c : Cx} {A : Around} {env : Env} {σ σ' : Sto} {ss : List Stmt} {N : Sto → Prop} {R : D → Prop} (h : σ = σ') (k : Ex c A env σ' ss N R) : Ex c A env σ ss N R := h ▸ k
section
variable {c : Cx} {A : Around} {env : Env} {σ : Sto}
theorem evo_none : EvO c A env σ none none := trivial
theorem evo_some {e : Expr} {i : Int} (h : Ev c A env σ e (.int i)) : EvO c A env σ (some e) (some i) := h
theorem ev_ifexp_str {t x y : Expr} {pos : Pos} {a b : List Nat} {q : Bool} (ht : EvT c A env σ t q) (hx : q = true → Ev c A env σ x (.str a)) (hy : q = false → Ev c A env σ y (.str b)) : Ev c A env σ (.IfExp t x y pos) (.str (if q then a else b)) := by
  have h := ev_ifexp (pos := pos) ht hx hy
  cases q <;> exact h
theorem ev_and_bool {x y : Expr} {pos : Pos} {a b : Bool} (hx : Ev c A env σ x (.bool a)) (hy : a = true → Ev c A env σ y (.bool b)) : Ev c A env σ (.BoolOp .And [x, y] pos) (.bool (a && b)) := by
  have h := ev_and (pos := pos) (b := .bool b) hx rfl hy
  cases a <;> exact h
end
end
section
set_option maxRecDepth 100000

section
variable {c : Cx} {A : Around} {env : Env} {σ : Sto} {N : Sto → Prop} {R : D → Prop} {rest : List Stmt}

theorem ev_global_str {n : String} {p : Pos} {l : List Nat} {t : Tok} (hk : env.kindOf (Str.ofString n) = some .globalImplicit) (hg : c.mg (Str.ofString n) = some (.str (S l) t)) (hd : ((Str.ofString n) == ("__debug__" : Str)) = false := by decide +kernel) :
    Ev c A env σ (.Name (Str.ofString n) p) (.str l) := by
  intro P s G Q E q
  exact load_global G hk hg hd (q _ s.heap s.toks P (Step.refl G.ok) (.str _ _))

theorem ev_len_own {np pos p : Pos} {x : String} {ds : List D} (hk : env.kindOf (Str.ofString "len") = some .globalImplicit) (hg : c.mg (Str.ofString "len") = none)
    (hx : (x, Slot.own (.list ds)) ∈ σ) (hn : ds.length < 2 ^ 62) (hd : ((Str.ofString x) == ("__debug__" : Str)) = false := by decide +kernel) :
    Ev c A env σ (.Call (.Name (Str.ofString "len") np) [.Name (Str.ofString x) p] [] pos) (.int ds.length) := by
  intro P s G Q E q
  obtain ⟨a, V, hnP, O⟩ := G.owns _ _ hx
  refine wpAny_Call_NameR (load_builtin G hk hg Boot.«len» (by decide +kernel) (by decide +kernel) (Calls.callWith_builtin rfl (Calls.evalArgs_plain (Calls.spliced_cons (load_own G V hd (Calls.spliced_nil ?_))))))
  obtain ⟨vs, n, ho, RL⟩ := O
  refine len_list (items := vs.toArray) ⟨_, ho, rfl, n, rfl⟩ (by rw [List.size_toArray, RL.length]; (first | lia | omega)) ?_
  rw [List.size_toArray, RL.length]
  exact q _ s.heap _ P (Step.refl G.ok) (.int _ _)

theorem ev_item_own {x : String} {p pos : Pos} {e : Expr} {ds : List D} {i : Int} {j : Nat} {d : D} (hx : (x, Slot.own (.list ds)) ∈ σ) (hi : Ev c A env σ e (.int i)) (hj : seqIndex? i ds.length = some j) (hdj : ds[j]? = some d) (hf : -1000000 < i ∧ i < 1000000)
    (hs : ∀ o i, subscripted e false o i = operate [o, i] (getItem o i) := by intro _ _; rfl) (hd : ((Str.ofString x) == ("__debug__" : Str)) = false := by decide +kernel) :
    Ev c A env σ (.Subscript (.Name (Str.ofString x) p) e pos) d := by
  intro P s G Q E q
  obtain ⟨a, V, hnP, O⟩ := G.owns _ _ hx
  refine my_Subscript (load_own G V hd (hi.val G fun w h2 t2 P2 S2 G2 R2 => ?_)) (fun o i => ⟨_, hs o i⟩)
  obtain ⟨_, rfl⟩ := R2.int_inv
  obtain ⟨vs, n, ho, RL⟩ := O
  obtain ⟨y, hy, Ry⟩ := RL.get hdj
  have hl : h2.IsList a vs.toArray := ⟨_, S2.ext _ _ ho, rfl, n, rfl⟩
  exact ⟨"list", _, slot_list_getitem.lookup, hl.typeIs, getItem_L hl hf (by rw [RL.length]; exact hj) hy (q y h2 t2 P2 S2 (Ry.mono S2.sub))⟩

theorem RepL.eraseIdx {P : Facts} {vs : List Value} {ds : List D} (h : RepL c P vs ds) (k : Nat) : RepL c P (vs.eraseIdx k) (ds.eraseIdx k) := by
  induction vs generalizing ds k with
  | nil => cases h; exact .nil
  | cons v vs ih =>
    cases h with
    | cons h r => cases k with
      | zero => exact r
      | succ k => exact .cons h (ih r k)

theorem ex_del_own {x : String} {p pos dpos : Pos} {e : Expr} {ds : List D} {i : Int} {j : Nat} {σ' : Sto} (hx : (x, Slot.own (.list ds)) ∈ σ) (hi : Ev c A env σ e (.int i)) (hj : seqIndex? i ds.length = some j) (hf : -1000000 < i ∧ i < 1000000) (hlen : ds.length ≤ sizeLine)
    (hσ : set σ x (.own (.list (ds.eraseIdx j))) = σ') (h : Ex c A env σ' rest N R) (hd : ((Str.ofString x) == ("__debug__" : Str)) = false := by decide +kernel) :
    Ex c A env σ (.Delete [.Subscript (.Name (Str.ofString x) p) e pos] dpos :: rest) N R := by
  subst hσ
  refine ex_seq (N1 := fun σ' => σ' = set σ x (.own (.list (ds.eraseIdx j)))) (fun s₀ P₀ P s F Q E kn kr => ?_) (fun σ' e => e ▸ h)
  obtain ⟨a, V, hnP, O⟩ := F.good.owns _ _ hx
  refine wpAny_Delete (wpAny_deleteEach_cons (wpAny_delete_Subscript (load_own F.good V hd (hi.val F.good fun w h2 t2 P2 S2 G2 R2 => ?_))))
  obtain ⟨_, rfl⟩ := R2.int_inv
  obtain ⟨vs, n, ho, RL⟩ := O
  refine wpAny_delItem_plain (items := vs.toArray) (k := j) ⟨n, S2.ext _ _ ho⟩ ?_ (by rw [List.size_toArray, RL.length]; exact hj) (fun h3 hl3 hs3 => wpAny_deleteEach_nil ?_) (by rw [List.size_toArray, RL.length]; exact hlen)
  · unfold Builtin.List.listFitsIndex; simp only [Bool.and_eq_true, decide_eq_true_eq]; (first | lia | omega)
  · obtain ⟨n3, ho3⟩ := hl3
    refine kn _ P2 h3 t2 rfl S2.sub ((F.step (tk := t2) S2).mutate (a := a) hx (V.keeps S2.ext) (fun b o hb e => hs3.extBut b o hb e) ⟨vs.eraseIdx j, n3, ?_, (RL.mono S2.sub).eraseIdx j⟩)
    rw [ho3]
    simp only [Option.some.injEq, Obj.mk.injEq, Data.seq.injEq, and_true, true_and]
    apply Array.toList_inj.mp
    simp

theorem splitF_length (l sep : List Nat) (hs : sep ≠ []) (hk : ∀ c ∈ sep, c < 256) : (splitF l sep).length ≤ l.length + 1 := (splitF_spec l sep hs hk).length_le hs

theorem my_split {s : Shared} {x y : Str} {t u : Tok} {Q : Value → Shared → Prop} {E : Value → Shared → Prop} (hy : (y.length == 0) = false)
    (hq : ∀ (l : List (Str × Tok)) (tk : Nat), l.map (·.1) = Txt.split x y → Q (.ref s.heap.objs.size) { s with heap := s.heap.push { cls := .type "list", data := .seq (strValues l).toArray }, toks := tk })
    (hsz : x.length ≤ sizeLine) (hsz2 : (Builtin.Str.partsBetween x (Builtin.Str.occurrences x y 0 x.length (x.length + 1)) y.length).length ≤ sizeLine) :
    wpAny c.M A (call (.builtin "str.split") [.str x t, .str y u]) Q E s := by
  cases h1 : (decide (x.length < y.length) || decide (Builtin.Str.strKind x < Builtin.Str.strKind y))
  · cases hf : (Builtin.Str.occurrences x y 0 x.length (x.length + 1)).isEmpty
    · refine call_meets F.slot_str_split (typeIs_str _ _ _) F.entry_str_split (F.args_str_split_2 _ _) (meets_str_split_sep x y t u h1 hy hf hsz hsz2) ?_
      show wants Q E _ { s with toks := _, heap := s.heap.push { cls := .type "list", data := .seq (strsFrom s.toks (Builtin.Str.partsBetween x (Builtin.Str.occurrences x y 0 x.length (x.length + 1)) y.length)).toArray } }
      rw [strsFrom_eq]
      exact hq (numbered s.toks _) _ ((numbered_texts _ _).trans ((if_neg (ne_true_of_eq_false h1)).trans (if_neg (ne_true_of_eq_false hf))).symm)
    · exact call_meets F.slot_str_split (typeIs_str _ _ _) F.entry_str_split (F.args_str_split_2 _ _) (meets_str_split_not_found x y t u h1 hy hf) (hq [(x, t)] _ ((if_neg (ne_true_of_eq_false h1)).trans (if_pos hf)).symm)
  · exact call_meets F.slot_str_split (typeIs_str _ _ _) F.entry_str_split (F.args_str_split_2 _ _) (meets_str_split_cannot_occur x y t u h1) (hq [(x, t)] _ (if_pos h1).symm)

theorem parts_length (x y : Str) (cuts : List Nat) (w : Nat) : (Builtin.Str.partsBetween x cuts w).length = cuts.length + 1 := by
  unfold Builtin.Str.partsBetween
  simp

theorem evf_split {o x : Expr} {apos pos : Pos} {l sep : List Nat} (ho : Ev c A env σ o (.str l)) (hx : Ev c A env σ x (.str sep)) (hs : sep ≠ []) (hl : l.length < 1000000)
    (hbase : attributeBase o (Str.ofString "split") env (eval o env) = eval o env := by rfl) (hline : (apos.endLine == pos.line) = true := by rfl) (he : starEach [x] env = [(false, eval x env)] := by rfl) :
    EvF c A env σ (.Call (.Attribute o (Str.ofString "split") apos) [x] [] pos) (.list ((splitF l sep).map D.str)) := by
  intro P s G Q E q
  refine wpAny_Call_method hbase (by rw [he]; rfl) hline F.plainAttrs_str F.slot_str_split F.type_str_split (ho.val G fun v h1 t1 P1 S1 G1 R1 => ?_)
  obtain ⟨_, rfl⟩ := R1.str_inv
  refine ⟨typeIs_str _ _ _, fun _ e => (nomatch e), Calls.callWith_builtin (by rw [he]; rfl) (evalArgs_L (evl_cons hx evl_nil he) (.inr ⟨_, _, he⟩) G1 fun vs h2 t2 P2 S2 G2 R2 => ?_)⟩
  have hInv := R2.cons_inv; clear R2; obtain ⟨_, _, rfl, Ru, R2⟩ := hInv
  obtain rfl := R2.nil_inv; clear R2; obtain ⟨_, rfl⟩ := Ru.str_inv
  refine my_split ?_ ?_ ?_ ?_
  · rw [S_length]; simpa using hs
  · intro ll tk e
    have S3 : Step P2 P2 h2 (h2.push { cls := .type "list", data := .seq (strValues ll).toArray }) := Step.heap S2.ok fun b o e => Heap.get?_push_of_some _ e
    refine q _ _ _ P2 ((S1.trans S2).trans S3) ?_ (fun o ho => ?_) ⟨strValues ll, 0, Heap.get?_push_size _ rfl, ?_⟩
    · cases z : s.heap.get? h2.objs.size with
      | none => rfl
      | some o => have := S2.ext _ _ (S1.ext _ _ z); rw [fresh_none] at this; cases this
    · have := S2.ok _ _ ho; rw [fresh_none] at this; cases this
    · have := repL_strs (c := c) (P := P2) ll
      rwa [show (ll.map fun p => p.1.cps.toList) = splitF l sep from by unfold splitF; rw [← e, List.map_map]; rfl] at this
  · rw [S_length, sizeLine_val]; (first | lia | omega)
  · rw [parts_length _ (S sep)]
    have := StrLaws.occ_length_le (S l) (S sep) 0 (S l).length ((S l).length + 1)
    rw [S_length] at this ⊢
    rw [sizeLine_val]; (first | lia | omega)
end
end
section

noncomputable def dots : List Nat := [46, 46, 46]
noncomputable def scan (got : List Nat) (e : Nat) : List (List Nat) → Nat → Bool
  | [], _ => true
  | w :: r, st => if findL got w st e < 0 then false else scan got e r ((findL got w st e).toNat + w.length)
noncomputable def matchB (got : List Nat) (ws : List (List Nat)) (st : Nat) : Bool :=
  if ws.getLastD [] = [] then (if got.length < st then false else scan got got.length ws st)
  else if (ws.getLastD []).isSuffixOf got = false then false
  else if got.length - (ws.getLastD []).length < st then false else scan got (got.length - (ws.getLastD []).length) ws.dropLast st
noncomputable def matchF (want got : List Nat) : Bool :=
  if Txt.contains (S want) (S dots) = false then decide (want = got)
  else if (splitF want dots).headD [] = [] then matchB got (splitF want dots) 0
  else if ((splitF want dots).headD []).isPrefixOf got = false then false
  else matchB got (splitF want dots).tail ((splitF want dots).headD []).length

theorem findL_le {l sub : List Nat} {lo hi : Nat} (h : ¬ findL l sub lo hi < 0) : (findL l sub lo hi).toNat + sub.length ≤ hi ∧ lo ≤ (findL l sub lo hi).toNat ∧ findL l sub lo hi = ((findL l sub lo hi).toNat : Int) := by
  rcases findL_spec l sub lo hi with ⟨e, _⟩ | ⟨k, e, h1, h2, _⟩
  · rw [e] at h; exact absurd (by decide) h
  · rw [e]; simp; (first | lia | omega)

theorem eraseIdx_last {α : Type} (l : List α) (h : l ≠ []) : l.eraseIdx (l.length - 1) = l.dropLast := by
  rw [List.dropLast_eq_take, List.eraseIdx_eq_take_drop_succ]
  have : 0 < l.length := List.length_pos_iff.mpr h
  rw [List.drop_of_length_le (by first | lia | omega), List.append_nil]

theorem SplitR.elem {sep l : List Nat} {ps : List (List Nat)} (h : SplitR sep l ps) : ∀ u ∈ ps, u.length ≤ l.length := by
  induction h with
  | last _ => intro u hu; simp at hu; subst hu; exact Nat.le_refl _
  | cut _ _ ih =>
    intro u hu
    rcases List.mem_cons.mp hu with rfl | hu
    · simp
    · have := ih u hu; simp; (first | lia | omega)
theorem splitF_elem (l sep : List Nat) (hs : sep ≠ []) (hk : ∀ c ∈ sep, c < 256) : ∀ u ∈ splitF l sep, u.length ≤ l.length := (splitF_spec l sep hs hk).elem

theorem split_two (want : List Nat) (h : Txt.contains (S want) (S dots) = true) : 2 ≤ (splitF want dots).length := by
  have hs := splitF_spec want dots (by decide) (by decide)
  obtain ⟨i, hi, hp⟩ := (contains_L _ _).mp h
  generalize hps : splitF want dots = ps at hs
  cases hs with
  | last hn => exact absurd hp (hn i)
  | cut h1 h2 =>
    rename_i a b qs
    have : 1 ≤ qs.length := by cases h2 <;> simp
    simp; (first | lia | omega)
end
local macro_rules | `(tactic| walk_at "mmem") => `(tactic| first | exact List.Mem.head _ | (refine List.Mem.tail _ ?_; walk_at "mmem"))
local macro_rules | `(tactic| walk_at "mset") => `(tactic| first
  | with_reducible exact set_nil _ _
  | (with_reducible apply set_miss; decide; walk_at "mset")
  | (with_reducible apply set_hit; walk_at "mset")
  | with_reducible exact del_nil _
  | (with_reducible apply del_miss; decide; walk_at "mset")
  | (with_reducible apply del_hit; walk_at "mset")
  | (with_reducible apply set_twice; walk_at "mset"; walk_at "mset")
  | with_reducible exact setAll_nil _
  | (with_reducible apply setAll_cons; walk_at "mset"; walk_at "mset")
  | (with_reducible apply setAll_rev2; walk_at "mset")
  | (with_reducible apply setAll_rev3; walk_at "mset")
  | (with_reducible apply set_ps; walk_at "mset")
  | with_reducible exact set_ps0 _ _
  | (with_reducible apply del_ps; walk_at "mset")
  | with_reducible exact del_ps0 _)
local macro_rules | `(tactic| walk_at "msub") => `(tactic| first | exact List.forall_mem_nil _ | exact List.forall_mem_cons.mpr ⟨(by walk_at "mmem"), (by walk_at "msub")⟩)
local macro_rules | `(tactic| walk_at "mside") => `(tactic| first | (first | lia | omega) | assumption | decide | exact IntMulOk.of_left (by decide) | (simp only [List.length_append, List.length_map, List.length_cons, List.length_nil, List.length_take, List.length_drop, sizeLine_val]; (first | lia | omega)))
local macro_rules | `(tactic| walk_at "mop") => `(tactic| first
  | (with_reducible (first | exact op_add_int | exact op_sub_int | exact op_lt_int | exact op_le_int | exact op_gt_int | exact op_ge_int | exact op_eq_int | exact op_eq_str | exact op_ne_str | exact op_le_str | exact op_gt_str | exact op_is_bool | exact op_isnot_bool | exact op_notin_str | exact op_iadd_int | exact op_isub_int))
  | (with_reducible exact op_add_str (by walk_at "mside"))
  | (with_reducible exact op_iadd_str (by walk_at "mside"))
  | (with_reducible exact op_mod (by walk_at "mside"))
  | (with_reducible exact op_floordiv (by walk_at "mside") (by walk_at "mside"))
  | (with_reducible exact op_mul_int (by walk_at "mside"))
  | (with_reducible exact op_mul_str (by walk_at "mside") (by walk_at "mside") (by walk_at "mside")))
local macro_rules | `(tactic| walk_at "mevo") => `(tactic| first | ((with_reducible show EvO _ _ _ _ none _); exact evo_none) | exact evo_some (by walk_at "mev"))
local macro_rules | `(tactic| walk_at "mev") => `(tactic| first
  | ((with_reducible show Ev _ _ _ _ (Expr.Name _ _) _); exact ev_name (by walk_at "mmem"))
  | ((with_reducible show Ev _ _ _ _ (Expr.Constant (Const.int _) _ _) _); exact ev_int)
  | ((with_reducible show Ev _ _ _ _ (Expr.Constant (Const.str _) _ _) _); exact ev_str (by (with_reducible (first | exact lit_empty | exact lit_dots | exact lit_apo | exact lit_dots6 | exact lit_blank | exact lit_tab | exact lit_nlb | exact lit_a | exact lit_b | exact lit_aabb))))
  | ((with_reducible show Ev _ _ _ _ (Expr.Constant (Const.bool _) _ _) _); exact ev_bool)
  | ((with_reducible show Ev _ _ _ _ (Expr.BinOp _ _ _ _) _); exact ev_binop (by walk_at "mev") (by walk_at "mev") (by walk_at "mop"))
  | ((with_reducible show Ev _ _ _ _ (Expr.Compare _ _ _ _) _); exact ev_cmp (by walk_at "mev") (by walk_at "mev") (by walk_at "mop"))
  | ((with_reducible show Ev _ _ _ _ (Expr.UnaryOp _ _ _) _); exact ev_neg (by walk_at "mev"))
  | ((with_reducible show Ev _ _ _ _ (Expr.Call (Expr.Name (Str.ofString "len") _) _ _ _) _); first | (exact ev_len rfl rfl (by walk_at "mev") rfl (by walk_at "mside")) | (exact ev_len_own rfl rfl (by walk_at "mmem") (by walk_at "mside")))
  | ((with_reducible show Ev _ _ _ _ (Expr.Subscript _ (Expr.Slice _ _ _ _) _) _); first | (exact ev_slice_str (by walk_at "mev") (by walk_at "mevo") (by walk_at "mevo") (by walk_at "mside")) | (exact ev_slice_list (by walk_at "mev") (by walk_at "mevo") (by walk_at "mevo") (by walk_at "mside")))
  | ((with_reducible show Ev _ _ _ _ (Expr.Call (Expr.Attribute _ (Str.ofString "startswith") _) _ _ _) _); exact ev_startswith (by walk_at "mev") (by walk_at "mev"))
  | ((with_reducible show Ev _ _ _ _ (Expr.Call (Expr.Attribute _ (Str.ofString "endswith") _) _ _ _) _); exact ev_endswith (by walk_at "mev") (by walk_at "mev"))
  | ((with_reducible show Ev _ _ _ _ (Expr.Tuple _ _ _) _); exact ev_tuple (by walk_at "mevl"))
  | ((with_reducible show Ev _ _ _ _ (Expr.List _ _) _); exact ev_list (by walk_at "mevl")))
local macro_rules | `(tactic| walk_at "mevl") => `(tactic| first | ((with_reducible show EvL _ _ _ _ _ [] _); exact evl_nil) | exact evl_cons (by walk_at "mev") (by walk_at "mevl"))
local macro_rules | `(tactic| walk_at "mevt") => `(tactic| first
  | ((with_reducible show EvT _ _ _ _ (Expr.Compare _ _ _ _) _); exact evt_cmp (by walk_at "mev") (by walk_at "mev") (by walk_at "mop"))
  | ((with_reducible show EvT _ _ _ _ (Expr.BoolOp BoolOp.And [_, _] _) _); exact evt_and (by walk_at "mevt") (by intro hc; (try simp only [decide_eq_true_eq] at hc); walk_at "mevt"))
  | exact evt_of_ev (by walk_at "mev") rfl)
section
set_option maxRecDepth 100000
noncomputable def cx2 (w : World) (mb : Str → Option Value) : Cx := { prog := Challenge.rw_qc0002_02.row.prog, w := w, K := Mine.hd.heap_39 w.params, mg := mgOf (Mine.hd.heap_39 w.params), mb := mb }

noncomputable def textStep (t : List Nat) (x : Int) : List Nat :=
  t ++ [if x.fmod 8 - 4 < 1 then ([97, 97, 98, 98, 39] : List Nat).getD (x.fmod 8).toNat 0 else if x.fmod 8 - 4 ≤ t.length then t.getD (t.length - (x.fmod 8 - 4).toNat) 0 else 39]
theorem textStep_length (t : List Nat) (x : Int) : (textStep t x).length = t.length + 1 := by simp [textStep]
theorem textF_length (xs : List Int) (t : List Nat) : (xs.foldl textStep t).length = t.length + xs.length := by
  induction xs generalizing t with
  | nil => simp
  | cons x xs ih => rw [List.foldl_cons, ih, textStep_length, List.length_cons]; (first | lia | omega)

theorem seqIndex_nat {n : Nat} {i : Int} (h0 : 0 ≤ i) (h1 : i < n) : seqIndex? i n = some i.toNat := by
  unfold seqIndex?; dsimp only; rw [if_neg (show ¬ i < 0 by first | lia | omega), if_pos (by simp only [Bool.and_eq_true, decide_eq_true_eq]; (first | lia | omega))]
theorem back_lt {m : Int} {n : Nat} (h1 : ¬ m < 1) (h2 : m ≤ n) : n - m.toNat < n := by first | lia | omega
theorem item_at {l : List Nat} {i : Int} {k : Nat} (h : i = k) (hk : k < l.length) : (seqIndex? i l.length).bind (l[·]?) = some l[k] := by
  subst h
  rw [seqIndex_nat (Int.natCast_nonneg _) (Int.ofNat_lt.mpr hk)]
  exact List.getElem?_eq_getElem hk
theorem seqIndex_neg {n : Nat} {i : Int} (h0 : i < 0) (h1 : -(n : Int) ≤ i) : seqIndex? i n = some (n - (-i).toNat) := by
  unfold seqIndex?; dsimp only; rw [if_pos h0, if_pos (by simp only [Bool.and_eq_true, decide_eq_true_eq]; (first | lia | omega))]
  congr 1; (first | lia | omega)

theorem fn_text (w : World) (mb : Str → Option Value) (numbers : List Int) (hl : numbers.length ≤ 100) : Fn (cx2 w mb) 1 36 [.list (numbers.map D.int)] (.str (numbers.foldl textStep [])) := by
  refine fn_intro (xs := ["numbers"]) rfl rfl rfl rfl rfl rfl rfl rfl ?_ rfl (by decide +kernel) rfl rfl rfl ?_
  · intro vals h
    obtain ⟨_, rfl⟩ := len1 h; exact rfl
  intro A L hA
  refine ex_assign (d := .str []) (by walk_at "mev") (.inl rfl) (by walk_at "mset") ?_
  refine ex_for (J := fun i σ => σ = [("numbers", .val (.list (numbers.map D.int))), ("text", .val (.str ((numbers.take i).foldl textStep [])))]) (f := fun d σ => set σ "x" (.val d)) (evi_list hA.handled (by walk_at "mev")) (fun d _ => binds_name (.inl rfl)) rfl ?_ ?_
  · intro i d σ' hd hJ
    subst hJ
    rw [List.getElem?_map] at hd
    obtain ⟨x, hx, rfl⟩ := Option.map_eq_some_iff.mp hd
    have hi : i < numbers.length := by
      rcases Nat.lt_or_ge i numbers.length with h | h
      · exact h
      · rw [List.getElem?_eq_none h] at hx; cases hx
    have hstep : (numbers.take (i + 1)).foldl textStep [] = textStep ((numbers.take i).foldl textStep []) x := by
      rw [List.take_add_one, hx]; simp [List.foldl_append]
    rw [hstep]
    have hlen : ((numbers.take i).foldl textStep []).length = i := by rw [textF_length, List.length_take]; simp; (first | lia | omega)
    generalize (numbers.take i).foldl textStep [] = t at hlen
    have hm0 : 0 ≤ x.fmod 8 := Int.fmod_nonneg_of_pos x (by first | lia | omega)
    have hm8 : x.fmod 8 < 8 := Int.fmod_lt_of_pos x (by first | lia | omega)
    refine ex_conv (show Mine.set _ "x" _ = _ by walk_at "mset") ?_
    refine ex_assign (d := .int (x.fmod 8 - 4)) (by walk_at "mev") (.inl rfl) (by walk_at "mset") ?_
    refine ex_if (b := decide (x.fmod 8 - 4 < 1)) (N1 := fun σ' => σ' = [("numbers", Slot.val (.list (numbers.map D.int))), ("text", .val (.str (textStep t x))), ("x", .val (.int x)), ("back", .val (.int (x.fmod 8 - 4)))]) (by walk_at "mevt") ?_ ?_ ?_
    · intro hc
      simp only [decide_eq_true_eq] at hc
      have hg : ([97, 97, 98, 98, 39] : List Nat)[(x.fmod 8).toNat]? = some (([97, 97, 98, 98, 39] : List Nat).getD (x.fmod 8).toNat 0) := by
        have : (x.fmod 8).toNat < 5 := by first | lia | omega
        rw [List.getD_eq_getElem?_getD, List.getElem?_eq_getElem (by simpa using this)]; rfl
      refine ex_aug (a := .str t) (by walk_at "mmem") (ev_item_str (l := [97, 97, 98, 98, 39]) (i := x.fmod 8) (by walk_at "mev") (by walk_at "mev") (by rw [seqIndex_nat hm0 (by simp; (first | lia | omega))]; exact hg) (by first | lia | omega)) (op_iadd_str (by simp [sizeLine_val]; (first | lia | omega))) (.inl rfl) (by walk_at "mset") ?_
      refine ex_nil ?_
      unfold textStep; rw [if_pos hc]
    · intro hc
      simp only [decide_eq_false_iff_not] at hc
      refine ex_aug (a := .str t) (b := .str (if decide (x.fmod 8 - 4 ≤ (t.length : Int)) then [t.getD (t.length - (x.fmod 8 - 4).toNat) 0] else [39])) (by walk_at "mmem") (ev_ifexp_str (q := decide (x.fmod 8 - 4 ≤ (t.length : Int))) (by walk_at "mevt") ?_ ?_) (op_iadd_str (by split <;> simp [sizeLine_val] <;> (first | lia | omega))) (.inl rfl) (by walk_at "mset") ?_
      · intro hb
        simp only [decide_eq_true_eq] at hb
        refine ev_item_str (l := t) (i := -(x.fmod 8 - 4)) (by walk_at "mev") (by walk_at "mev") ?_ (by first | lia | omega)
        rw [seqIndex_neg (by first | lia | omega) (by first | lia | omega)]
        rw [show (-(-(x.fmod 8 - 4))).toNat = (x.fmod 8 - 4).toNat from by rw [Int.neg_neg]]
        show t[t.length - (x.fmod 8 - 4).toNat]? = _
        rw [List.getD_eq_getElem?_getD, List.getElem?_eq_getElem (back_lt hc hb)]; rfl
      · intro hb
        walk_at "mev"
      · refine ex_nil ?_
        unfold textStep; rw [if_neg hc]
        by_cases hb : x.fmod 8 - 4 ≤ (t.length : Int)
        · simp [hb]
        · simp [hb]
    · rintro σ' rfl
      exact ex_end (by walk_at "msub") rfl
  · intro σ' hJ
    subst hJ
    refine ex_return (by walk_at "mev") ?_
    simp
end
section
set_option maxRecDepth 100000
theorem lit_dotsD : (S dots) = Str.ofString "..." := by decide +kernel

structure MatJ1 (want got w0 : List Nat) (res : Bool) (σ' : Sto) (ws : List (List Nat)) (st : Nat) : Prop where
  es : σ' = [("want", .val (.str want)), ("got", .val (.str got)), ("ws", .own (.list (ws.map D.str))), ("endpos", .val (.int got.length)), ("startpos", .val (.int st)), ("w", .val (.str w0))]
  er : res = matchB got ws st
  l1 : 1 ≤ ws.length
  l2 : ws.length ≤ 200000
  hst : st ≤ got.length
  hel : ∀ u ∈ ws, u.length ≤ want.length
structure MatJ2 (want got w1 : List Nat) (ws : List (List Nat)) (st : Nat) (σ' : Sto) (vs : List (List Nat)) (e : Nat) : Prop where
  es : σ' = [("want", .val (.str want)), ("got", .val (.str got)), ("ws", .own (.list (vs.map D.str))), ("endpos", .val (.int e)), ("startpos", .val (.int st)), ("w", .val (.str w1))]
  hE : (if w1 = [] then (if got.length < st then false else scan got got.length ws st) else if w1.isSuffixOf got = false then false else if got.length - w1.length < st then false else scan got (got.length - w1.length) ws.dropLast st) = (if e < st then false else scan got e vs st)
  he : e ≤ got.length
  hel : ∀ u ∈ vs, u.length ≤ want.length
structure MatJ3 (want got : List Nat) (vs : List (List Nat)) (e st i : Nat) (σ : Sto) (q : Nat) (y : List Nat) : Prop where
  hq : q ≤ got.length
  hsc : scan got e vs st = scan got e (vs.drop i) q
  es : σ = [("want", .val (.str want)), ("got", .val (.str got)), ("ws", .val (.list (vs.map D.str))), ("endpos", .val (.int e)), ("startpos", .val (.int q)), ("w", .val (.str y))]

theorem fn_match (w : World) (mb : Str → Option Value) (want got : List Nat) (hw : want.length < 100000) (hg : got.length < 100000) : Fn (cx2 w mb) 1 29 [.str want, .str got] (.bool (matchF want got)) := by
  refine fn_intro (xs := ["want", "got"]) rfl rfl rfl rfl rfl rfl rfl rfl ?_ rfl (by decide +kernel) rfl rfl rfl ?_
  · intro vals h
    obtain ⟨_, _, rfl⟩ := len2 h; exact rfl
  intro A L hA
  refine ex_if_ret (b := !Txt.contains (S want) (S dots)) (evt_cmp (ev_global_str (l := dots) rfl (by rw [lit_dotsD]; rfl)) (by walk_at "mev") op_notin_str) ?_ ?_
  · intro hc
    refine ex_return (by walk_at "mev") ?_
    unfold matchF
    rw [if_pos (by simpa using hc)]
  intro hc
  have hc' : Txt.contains (S want) (S dots) = true := by simpa using hc
  have h2 := split_two want hc'
  have hlen := splitF_length want dots (by decide) (by decide)
  have hm : matchF want got = if (splitF want dots).headD [] = [] then matchB got (splitF want dots) 0 else if ((splitF want dots).headD []).isPrefixOf got = false then false else matchB got (splitF want dots).tail ((splitF want dots).headD []).length := by
    unfold matchF; rw [if_neg (by rw [hc']; decide)]
  rw [hm]
  refine ex_assign_own (evf_split (l := want) (sep := dots) (by walk_at "mev") (ev_global_str rfl (by rw [lit_dotsD]; rfl)) (by decide) (by first | lia | omega)) (.inl rfl) (by walk_at "mset") ?_
  have hel' := splitF_elem want dots (by decide) (by decide)
  generalize splitF want dots = ws at h2 hlen hel'
  have hel := hel'
  have hwl : (ws.map D.str).length = ws.length := List.length_map _
  refine ex_assert (evt_cmp (ev_len_own rfl rfl (by walk_at "mmem") (by rw [hwl]; (first | lia | omega))) (by walk_at "mev") (by
    have := op_ge_int (c := cx2 w mb) (A := A) (a := ((ws.map D.str).length : Int)) (b := 2)
    rwa [show decide (((ws.map D.str).length : Int) ≥ 2) = true from by rw [hwl]; simp; (first | lia | omega)] at this)) ?_
  refine ex_assign_swap (names := [Str.ofString "startpos", Str.ofString "endpos"]) (xs := ["endpos", "startpos"]) (ds := [.int 0, .int got.length]) (by walk_at "mev") hA.handled rfl (.cons stores_bind (.inl rfl) (.cons stores_bind (.inl rfl) .nil)) rfl rfl (by walk_at "mset") ?_
  generalize hres : (if ws.headD [] = [] then matchB got ws 0 else if (ws.headD []).isPrefixOf got = false then false else matchB got ws.tail (ws.headD []).length) = res
  obtain ⟨w0, r0, rfl⟩ : ∃ w0 r0, ws = w0 :: r0 := by cases ws with | nil => simp at h2 | cons a b => exact ⟨a, b, rfl⟩
  change (if w0 = [] then matchB got (w0 :: r0) 0 else if w0.isPrefixOf got = false then false else matchB got r0 w0.length) = res at hres
  have hlw0 : w0.length < 2 ^ 62 := by have := hel w0 (by simp); (first | lia | omega)
  refine ex_assign (d := .str w0) (ev_item_own (i := 0) (j := 0) (by walk_at "mmem") (by walk_at "mev") (seqIndex_nat (by first | lia | omega) (by simp)) rfl (by first | lia | omega)) (.inl rfl) (by walk_at "mset") ?_
  refine ex_if (b := w0.length != 0) (N1 := fun σ' => ∃ (ws : List (List Nat)) (st : Nat), MatJ1 want got w0 res σ' ws st)
    (evt_of_ev (d := .str w0) (by walk_at "mev") (if_pos hlw0)) ?_ ?_ ?_
  · intro hb
    have hne : w0 ≠ [] := by rintro rfl; simp at hb
    simp only [hne, reduceIte] at hres
    refine ex_if (b := w0.isPrefixOf got) (N1 := fun σ' => w0.isPrefixOf got = true ∧ σ' = [("want", .val (.str want)), ("got", .val (.str got)), ("ws", .own (.list (r0.map D.str))), ("endpos", .val (.int got.length)), ("startpos", .val (.int w0.length)), ("w", .val (.str w0))]) (by walk_at "mevt") ?_ ?_ ?_
    · intro hp
      refine ex_assign (by walk_at "mev") (.inl rfl) (by walk_at "mset") ?_
      refine ex_del_own (i := 0) (j := 0) (by walk_at "mmem") (by walk_at "mev") (seqIndex_nat (by first | lia | omega) (by simp)) (by first | lia | omega) (by rw [hwl, sizeLine_val]; (first | lia | omega)) (by walk_at "mset") ?_
      exact ex_nil ⟨hp, rfl⟩
    · intro hp
      refine ex_return (by walk_at "mev") ?_
      simp only [hp, reduceIte] at hres; rw [← hres]
    · rintro σ' ⟨hp, rfl⟩
      refine ex_nil ⟨r0, w0.length, rfl, ?_, ?_, ?_, ?_, ?_⟩
      · simp [hp] at hres; exact hres.symm
      · simp at h2; (first | lia | omega)
      · simp at hlen; (first | lia | omega)
      · exact (List.isPrefixOf_iff_prefix.mp hp).length_le
      · intro u hu; exact hel u (List.mem_cons_of_mem _ hu)
  · intro hb
    have hne : w0 = [] := by simpa using hb
    simp only [hne, reduceIte] at hres
    exact ex_nil ⟨w0 :: r0, 0, rfl, by rw [hne]; exact hres.symm, by first | lia | omega, by first | lia | omega, by first | lia | omega, hel⟩
  rintro σ' ⟨ws, st, rfl, rfl, hl1, hl2, hst, hel⟩
  clear hwl h2 hlen hel' hres hm hc hc'
  have hwl : (ws.map D.str).length = ws.length := List.length_map _
  have hlast : ws[ws.length - 1]? = some (ws.getLastD []) := by
    rw [List.getLastD_eq_getLast?, List.getLast?_eq_getElem?, List.getElem?_eq_getElem (by first | lia | omega)]; rfl
  have hmemL : ws.getLastD [] ∈ ws := List.mem_of_getElem? hlast
  have hll : (ws.getLastD []).length ≤ want.length := hel _ hmemL
  have hll' : (ws.getLastD []).length < 2 ^ 62 := by first | lia | omega
  refine ex_assign (d := .str (ws.getLastD [])) (ev_item_own (i := -1) (j := ws.length - 1) (by walk_at "mmem") (by walk_at "mev") (by rw [hwl]; exact seqIndex_neg (by first | lia | omega) (by first | lia | omega)) (by rw [List.getElem?_map, hlast]; rfl) (by first | lia | omega)) (.inl rfl) (by walk_at "mset") ?_
  unfold matchB
  generalize ws.getLastD [] = w1 at hlast hmemL hll hll'
  refine ex_if (b := w1.length != 0) (N1 := fun σ' => ∃ (vs : List (List Nat)) (e : Nat), MatJ2 want got w1 ws st σ' vs e)
    (evt_of_ev (d := .str w1) (by walk_at "mev") (if_pos hll')) ?_ ?_ ?_
  · intro hb
    have hne : w1 ≠ [] := by rintro rfl; simp at hb
    simp only [hne, reduceIte]
    refine ex_if (b := w1.isSuffixOf got) (N1 := fun σ' => w1.isSuffixOf got = true ∧ σ' = [("want", .val (.str want)), ("got", .val (.str got)), ("ws", .own (.list (ws.dropLast.map D.str))), ("endpos", .val (.int ((got.length - w1.length : Nat) : Int))), ("startpos", .val (.int st)), ("w", .val (.str w1))]) (by walk_at "mevt") ?_ ?_ ?_
    · intro hp
      have hsl : w1.length ≤ got.length := (List.isSuffixOf_iff_suffix.mp hp).length_le
      refine ex_aug (a := .int got.length) (d := .int ((got.length - w1.length : Nat) : Int)) (by walk_at "mmem") (by walk_at "mev") (by rw [Int.ofNat_sub hsl]; walk_at "mop") (.inl rfl) (by walk_at "mset") ?_
      refine ex_del_own (i := -1) (j := ws.length - 1) (by walk_at "mmem") (by walk_at "mev") (by rw [hwl]; exact seqIndex_neg (by first | lia | omega) (by first | lia | omega)) (by first | lia | omega) (by rw [hwl, sizeLine_val]; (first | lia | omega)) (by walk_at "mset") ?_
      refine ex_nil ⟨hp, ?_⟩
      rw [← hwl, eraseIdx_last _ (by intro h; rw [h] at hwl; simp at hwl; (first | lia | omega)), List.map_dropLast]
    · intro hp
      refine ex_return (by walk_at "mev") ?_
      simp [hp]
    · rintro σ' ⟨hp, rfl⟩
      refine ex_nil ⟨ws.dropLast, got.length - w1.length, rfl, ?_, by first | lia | omega, ?_⟩
      · simp [hne, hp]
      · intro u hu; exact hel u (List.dropLast_subset _ hu)
  · intro hb
    have hne : w1 = [] := by simpa using hb
    exact ex_nil ⟨ws, got.length, rfl, by simp only [hne, reduceIte], by first | lia | omega, hel⟩
  rintro σ' ⟨vs, e, rfl, hE, he, hel'⟩
  rw [hE]
  refine ex_if_ret (b := decide ((st : Int) > e)) (by walk_at "mevt") ?_ ?_
  · intro hb
    simp only [decide_eq_true_eq] at hb
    refine ex_return (by walk_at "mev") ?_
    rw [if_pos (by first | lia | omega)]
  intro hb
  simp only [decide_eq_false_iff_not] at hb
  rw [if_neg (by first | lia | omega)]
  refine ex_freeze (x := "ws") (by walk_at "mmem") (by walk_at "mset") ?_
  refine ex_for (J := fun i σ => ∃ (q : Nat) (y : List Nat), MatJ3 want got vs e st i σ q y)
    (f := fun d σ => set σ "w" (.val d)) (evi_list hA.handled (by walk_at "mev")) (fun d _ => binds_name (.inl rfl)) ⟨st, _, hst, rfl, rfl⟩ ?_ ?_
  · rintro i d σ' hd ⟨q, y, hq, hsc, rfl⟩
    rw [List.getElem?_map] at hd
    obtain ⟨u, hu, rfl⟩ := Option.map_eq_some_iff.mp hd
    have hul : u.length ≤ want.length := hel' u (List.mem_of_getElem? hu)
    have hdrop : vs.drop i = u :: vs.drop (i + 1) := by
      obtain ⟨hlt, hge⟩ := List.getElem?_eq_some_iff.mp hu
      rw [List.drop_eq_getElem_cons hlt, hge]
    rw [hdrop, scan] at hsc
    refine ex_conv (show Mine.set _ "w" _ = _ by walk_at "mset") ?_
    refine ex_assign (d := .int (findL got u q e)) (ev_find4 (by walk_at "mev") (by walk_at "mev") (by walk_at "mev") (by walk_at "mev") he) (.inl rfl) (by walk_at "mset") ?_
    refine ex_if_ret (b := decide (findL got u q e < 0)) (by walk_at "mevt") ?_ ?_
    · intro hb
      simp only [decide_eq_true_eq] at hb
      refine ex_return (by walk_at "mev") ?_
      rw [hsc, if_pos hb]
    intro hb
    simp only [decide_eq_false_iff_not] at hb
    obtain ⟨f1, f2, f3⟩ := findL_le hb
    rw [if_neg hb] at hsc
    refine ex_aug (a := .int (findL got u q e)) (d := .int (((findL got u q e).toNat + u.length : Nat) : Int)) (by walk_at "mmem") (by walk_at "mev") (by rw [Int.natCast_add, ← f3]; walk_at "mop") (.inl rfl) (by walk_at "mset") ?_
    exact ex_nil ⟨_, u, by first | lia | omega, hsc, rfl⟩
  · rintro σ' ⟨q, y, hq, hsc, rfl⟩
    refine ex_return (by walk_at "mev") ?_
    rw [hsc, List.drop_of_length_le (by rw [List.length_map]; (first | lia | omega)), scan]
end
section
open Builtin Builtin.Str Builtin.Int
set_option maxRecDepth 100000

theorem map_mro : mroOf (.type "map") = pure [.type "map", .type "object"] := by rw [mroOf_type]; kernel_rfl
theorem map_new : typeLookup (.type "map") "__new__" = pure (some (.builtin "map.__new__")) := by rw [typeLookup_type, builtinLookup_eq_fast]; kernel_rfl
theorem map_init : PySem.Slot "map" "__init__" "object.__init__" :=
  .of (owner := "object") (n := "__init__") (by rw [typeLookup_type, builtinLookup_eq_fast]; kernel_rfl) (by decide +kernel) (by decide +kernel) (by decide +kernel)
    (by first | exact .inl (by decide +kernel) | exact .inr (by decide +kernel)) (by rw [isSubtype_type]; kernel_rfl)
theorem map_sub : isSubtype (.type "map") (.type "map") = pure true := by rw [isSubtype_type]; kernel_rfl
theorem map_called : TypeCalled "map" "map.__new__" "object.__init__" :=
  ⟨by decide +kernel, by decide +kernel, ⟨_, _, map_mro⟩, madeBy_type map_mro map_new (by decide +kernel), by decide +kernel, map_sub, map_init⟩
theorem map_typeCall (a b : Value) : checkTypeCall "map" ⟨[a, b], []⟩ = pure () := by kernel_rfl
theorem map_newCall (a b : Value) : checkBuiltinCall "map.__new__" ⟨[.type "map", a, b], []⟩ = pure () := by kernel_rfl
theorem map_entry_new : entryFor table "map.__new__" = some Builtin.«map.__new__» := entryFor_of_tree (by kernel_rfl)
theorem map_owner : Manifest.owners.lookup (String.ofList ['p', 'a', 'm'].reverse) = some Manifest.sig_map := by kernel_rfl
theorem map_next : PySem.Slot "map" "__next__" "map.__next__" :=
  .of (owner := "map") (n := "__next__") (by rw [typeLookup_type, builtinLookup_eq_fast]; kernel_rfl) (by decide +kernel) (by decide +kernel) (by decide +kernel)
    (by first | exact .inl (by decide +kernel) | exact .inr (by decide +kernel)) (by rw [isSubtype_type]; kernel_rfl)
theorem map_iter : PySem.Slot "map" "__iter__" "map.__iter__" :=
  .of (owner := "map") (n := "__iter__") (by rw [typeLookup_type, builtinLookup_eq_fast]; kernel_rfl) (by decide +kernel) (by decide +kernel) (by decide +kernel)
    (by first | exact .inl (by decide +kernel) | exact .inr (by decide +kernel)) (by rw [isSubtype_type]; kernel_rfl)
theorem map_entry_next : entryFor table "map.__next__" = some Builtin.«map.__next__» := entryFor_of_tree (by kernel_rfl)
theorem map_entry_iter : entryFor table "map.__iter__" = some Builtin.«dict_keyiterator.__iter__» :=
  entryFor_alias (id' := "dict_keyiterator.__iter__") (by kernel_rfl) (by first | rfl | decide +kernel | (unfold String.splitOn; simp +decide [String.splitOnAux])) (by decide +kernel) (by kernel_rfl)
theorem map_args_next (a : Value) : argsOk "map.__next__" ⟨[a], []⟩ := by
  unfold argsOk; rw [signature?_of (id := "map.__next__") (n := ['_', '_', 't', 'x', 'e', 'n', '_', '_']) (o := ['p', 'a', 'm']) (by kernel_rfl) map_owner]; kernel_rfl
theorem map_args_iter (a : Value) : argsOk "map.__iter__" ⟨[a], []⟩ := by
  unfold argsOk; rw [signature?_of (id := "map.__iter__") (n := ['_', '_', 'r', 'e', 't', 'i', '_', '_']) (o := ['p', 'a', 'm']) (by kernel_rfl) map_owner]; kernel_rfl
theorem map_no_len : typeLookup (.type "map") "__len__" = pure none := by rw [typeLookup_type, builtinLookup_eq_fast]; kernel_rfl
theorem map_no_hint : typeLookup (.type "map") "__length_hint__" = pure none := by rw [typeLookup_type, builtinLookup_eq_fast]; kernel_rfl


end
section
open Builtin Builtin.Str Builtin.Int
set_option maxRecDepth 100000
theorem map_newClass (f a : Value) : SmallTypes.newClass "map" ⟨[.type "map", f, a], []⟩ = pure (.type "map", [f, a]) := by
  unfold SmallTypes.newClass
  simp only [isType, map_sub, pure_bind, Bool.not_true, Bool.false_eq_true, if_false]

noncomputable def jObj (l : Addr) : Obj := { cls := .type "list_iterator", data := .fields #[.ref l, .int 0 0] }
noncomputable def tObj (J : Addr) : Obj := { cls := .type "tuple", data := .seq [Value.ref J].toArray }
noncomputable def mObj (f : Value) (T : Addr) : Obj := { cls := .type "map", data := .fields [Value.ref T, f].toArray }

theorem map_made (f : Value) (l : Addr) (items : Array Value) : Meets (Builtin.«map.__new__» ⟨[.type "map", f, .ref l], []⟩) (fun _ R s => s.heap.IsList l items ∧
    R (.ok (.ret (.ref (((s.heap.push (jObj l)).push (tObj s.heap.objs.size)).objs.size)))) { s with heap := ((s.heap.push (jObj l)).push (tObj s.heap.objs.size)).push (mObj f (s.heap.push (jObj l)).objs.size) }) := by
  refine Meets.of_wp fun prog w A R s hs => ?_
  obtain ⟨hl, hR⟩ := hs
  unfold Builtin.«map.__new__»
  refine wpAny_bind (wpAny_of_eq (map_newClass _ _) ?_)
  dsimp only
  refine wpAny_bind (wpAny_of_eq (a := ()) rfl ?_)
  dsimp only [List.length_cons, List.length_nil]
  rw [if_neg (by decide)]
  refine wpAny_bind ?_
  unfold SmallTypes.iterAll
  simp only [List.drop_succ_cons, List.drop_zero, List.forIn_cons, List.forIn_nil]
  refine wpAny_bind (wpAny_bind (wpAny_bind (wpAny_holding (wpAny_pyIter_list hl (wpAny_pure (wpAny_pure (wpAny_pure ?_)))))))
  refine wpAny_bind (wpAny_newObj_type (data := .seq [Value.ref s.heap.objs.size].toArray) ?_ (by simp [sizeOk, sizeLine_val]))
  refine wpAny_bind (wpAny_newObj_type (data := .fields [Value.ref (s.heap.push (jObj l)).objs.size, f].toArray) ?_ (by simp [sizeOk, sizeLine_val]))
  exact wpAny_pure ⟨_, rfl, hR⟩

section
variable {c : Cx} {A : Around} {s : Shared} {E : Value → Shared → Prop}

theorem call_map {f : Value} {l : Addr} {items : Array Value} {Q : Value → Shared → Prop} (hl : s.heap.IsList l items)
    (q : Q (.ref (((s.heap.push (jObj l)).push (tObj s.heap.objs.size)).objs.size)) { s with heap := ((s.heap.push (jObj l)).push (tObj s.heap.objs.size)).push (mObj f (s.heap.push (jObj l)).objs.size) }) :
    wpAny c.M A (call (.type "map") [f, .ref l]) Q E s :=
  callType_new map_called (by decide) (map_typeCall _ _) (map_newCall _ _) (fun obj => F.args_object_init_3 obj _ _) map_entry_new (map_made f l items) ⟨hl, ⟨_, Heap.get?_push_size _ rfl, rfl⟩, q⟩

structure MapSt (f : Value) (I T J l : Addr) (items : Array Value) (i : Nat) (h : Heap) : Prop where
  obj : h.get? I = some (mObj f T)
  tup : h.get? T = some (tObj J)
  it : h.IsListIter J l i
  lst : h.IsList l items

theorem MapSt.keep {f : Value} {I T J l : Addr} {items : Array Value} {i : Nat} {h h' : Heap} (x : MapSt f I T J l items i h) (k : ∀ b ∈ [I, T, J, l], ∀ o, h.get? b = some o → h'.get? b = some o) : MapSt f I T J l items i h' :=
  ⟨k I (by simp) _ x.obj, k T (by simp) _ x.tup, x.it.at fun o e => k J (by simp) o e, x.lst.at fun o e => k l (by simp) o e⟩

theorem map_item {I T J l : Addr} {items : Array Value} {i : Nat} {x : Str} {u : Tok} {Q : Option Value → Shared → Prop} (hIJ : I ≠ J) (hTJ : T ≠ J) (hlJ : l ≠ J) (m : MapSt (.builtin "str.capitalize") I T J l items i s.heap) (hx : items[i]? = some (.str x u)) (hfit : x.length ≤ 5592405)
    (q : ∀ h' t' k, MapSt (.builtin "str.capitalize") I T J l items (i + 1) h' → Heap.SameBut J s.heap h' → Q (some (.str (Txt.capitalize x) t')) { s with heap := h', toks := k }) : wpAny c.M A (pyNext (.ref I)) Q E s := by
  have hT : s.TypeIs (.ref I) "map" := ⟨_, m.obj, rfl⟩
  unfold pyNext
  refine wpAny_bind (wpAny_attempt (wpAny_callSpecial?_slot (name := Str.ofString "__next__") hT map_next (wpAny_call_entry map_next hT map_entry_next ?_ (map_args_next _))))
  unfold Builtin.«map.__next__»
  refine wpAny_bind (wpAny_of_eq (a := (Value.ref I, [])) rfl ?_)
  dsimp only
  refine wpAny_bind (wpAny_field m.obj rfl (x := .ref T) rfl ?_)
  refine wpAny_bind (wpAny_seqItems m.tup rfl ?_)
  simp only [List.forIn_toArray, List.forIn_cons, List.forIn_nil]
  refine wpAny_bind (wpAny_bind (wpAny_bind (wpAny_holding (wpAny_nextOf_list_item m.it m.lst hx fun h' hit' hs' => wpAny_pure (wpAny_pure ?_)))))
  have m' : MapSt (.builtin "str.capitalize") I T J l items (i + 1) h' := ⟨(hs'.2 I hIJ).trans m.obj, (hs'.2 T hTJ).trans m.tup, hit', m.lst.extBut hs'.extBut hlJ⟩
  refine wpAny_bind (wpAny_field m'.obj rfl (x := .builtin "str.capitalize") rfl ?_)
  refine wpAny_bind (wpAny_holding (SC.capitalize (fit_capitalized hfit) fun t' k => ?_))
  refine wpAny_bind (wpAny_letGo ?_)
  exact wpAny_pure ⟨_, rfl, wpAny_pure (q h' t' k m' hs')⟩

theorem map_end {f : Value} {I T J l : Addr} {items : Array Value} {i : Nat} {Q : Option Value → Shared → Prop} (hh : A.handled = none) (m : MapSt f I T J l items i s.heap) (hx : items[i]? = none)
    (q : ∀ h', Heap.ExtBut J s.heap h' → Q none { s with heap := h' }) : wpAny c.M A (pyNext (.ref I)) Q E s := by
  have hT : s.TypeIs (.ref I) "map" := ⟨_, m.obj, rfl⟩
  unfold pyNext
  refine wpAny_bind (wpAny_attempt (wpAny_callSpecial?_slot (name := Str.ofString "__next__") hT map_next (wpAny_call_entry map_next hT map_entry_next ?_ (map_args_next _))))
  unfold Builtin.«map.__next__»
  refine wpAny_bind (wpAny_of_eq (a := (Value.ref I, [])) rfl ?_)
  dsimp only
  refine wpAny_bind (wpAny_field m.obj rfl (x := .ref T) rfl ?_)
  refine wpAny_bind (wpAny_seqItems m.tup rfl ?_)
  simp only [List.forIn_toArray, List.forIn_cons, List.forIn_nil]
  refine wpAny_bind (wpAny_bind (wpAny_bind (wpAny_holding (wpAny_nextOf_list_end hh m.it m.lst hx fun h' e he ⟨o, ho, hc⟩ => ?_))))
  refine wpAny_bind (wpAny_isInstance (T := "StopIteration") (b := true) ⟨o, ho, hc⟩ isSubtype_stop ?_)
  exact wpAny_pure (q h' he)

theorem map_self {f : Value} {I T J l : Addr} {items : Array Value} {i : Nat} {Q : Value → Shared → Prop} (m : MapSt f I T J l items i s.heap) (q : Q (.ref I) s) : wpAny c.M A (pyIter (.ref I)) Q E s := by
  have hT : s.TypeIs (.ref I) "map" := ⟨_, m.obj, rfl⟩
  refine wpAny_pyIter_slot hT map_iter (wpAny_call_entry map_iter hT map_entry_iter ?_ (map_args_iter _))
  show wpAny _ _ (ret (.ref I)) _ _ s
  exact wpAny_pure ⟨_, rfl, "map", _, hT, map_next.lookup, q⟩

theorem map_walks (hh : A.handled = none) {I T J l : Addr} (hIJ : I ≠ J) (hTJ : T ≠ J) (hlJ : l ≠ J) (ps : List (Str × Tok)) (hfit : ∀ p ∈ ps, p.1.length ≤ 5592405) :
    WalksS c.prog c.w A I [I, T, J, l] [J] (fun a b => a = b) ps.length (fun i v => ∃ x u t, ps[i]? = some (x, u) ∧ v = .str (Txt.capitalize x) t) (fun i s => MapSt (.builtin "str.capitalize") I T J l (strValues ps).toArray i s.heap) where
  sub := fun b hb => by simp at hb; simp [hb]
  grefl := fun _ => rfl
  gtrans := fun _ _ _ h1 h2 => h1.trans h2
  frame := fun _ _ _ _ st _ hk => st.keep hk
  item := fun i s Q E hi st hQ => by
    have hx : (strValues ps).toArray[i]? = some (.str ps[i].1 ps[i].2) := by simp [strValues, hi]
    refine wpAny_with_toks (Nat.le_refl _) (map_item (c := c) hIJ hTJ hlJ st hx (hfit _ (List.getElem_mem hi)) fun h' t' k m' hs' hk => ?_)
    exact hQ _ _ ⟨_, _, t', List.getElem?_eq_getElem hi, rfl⟩ m' ⟨fun b o hb e => (hs'.2 b fun h => hb (by simp [h])).trans e, rfl, rfl, rfl, hk⟩
  done := fun s Q E st hQ => map_end (c := c) hh st (by simp [strValues]) fun h' he => hQ _ ⟨fun b o hb e => he b o (fun h => hb (by simp [h])) e, rfl, rfl, rfl, Nat.le_refl _⟩
  self := fun _ _ _ _ st hQ => map_self (c := c) st hQ
end
end
section
open Builtin Builtin.Str Builtin.Int
set_option maxRecDepth 100000
section
variable {c : Cx} {A : Around} {s : Shared} {E : Value → Shared → Prop} {env : Env} {σ : Sto}

theorem map_collect {I : Addr} {fp wr : List Addr} {n : Nat} {Pv : Nat → Value → Prop} {St : Nat → Shared → Prop} {Q : List Value → Shared → Prop}
    (W : WalksS c.prog c.w A.in1 I fp wr (fun a b => a = b) n Pv St) (hT : ∀ i s, St i s → s.TypeIs (.ref I) "map") (hst : St 0 s) (hfp : ∀ b ∈ fp, b < s.heap.objs.size) (hI : I ∈ fp) (hn : n ≤ sizeLine)
    (q : ∀ s' acc, Moved wr (fun a b => a = b) s s' → ItemsOf Pv acc n → Q acc.toList s') : wpAny c.M A (collect (.ref I)) Q E s := by
  have new : s.heap.objs.size ∉ fp := fun hm => Nat.lt_irrefl _ (hfp _ hm)
  have newI : s.heap.objs.size ≠ I := fun e => new (e ▸ hI)
  let L0 : Obj := { cls := .type "list", data := .seq ([] : List Value).toArray }
  unfold collect
  refine wpAny_bind (wpAny_runValue (codeAny_builtin F.entry_proto_collect ?_))
  rw [Around.under_plainId F.plain_proto_collect _]
  show wpAny _ A.in1 (newList [] >>= fun l => again (.builtin "list.__iadd__" ⟨[l, .ref I], []⟩)) _ _ s
  refine wpAny_bind (wpAny_newObj_type ?_)
  refine wpAny_pure ⟨plainId_quiet F.plain_list_iadd _, codeAny_builtin F.entry_list_iadd ?_⟩
  rw [Around.under_plainId F.plain_list_iadd _]
  have st1 := W.frame 0 s (s.heap.push L0) s.toks hst (Nat.le_refl _) fun b _ o e => Heap.get?_push_of_some _ e
  show wpAny _ A.in1 (Builtin.List.listExtendWith (.ref s.heap.objs.size) (.ref I) (.ref s.heap.objs.size)) _ _ _
  unfold Builtin.List.listExtendWith
  refine wpAny_bind (wpAny_typeOf (hT 0 _ st1) ?_)
  have e1 : Builtin.List.listSameRef (.ref s.heap.objs.size) (.ref I) = false := by simp [Builtin.List.listSameRef, newI]
  have e2 : (Value.type "map" == Value.type "list") = false := by decide
  have e3 : (Value.type "map" == Value.type "tuple") = false := by decide
  simp only [e1, e2, e3, Bool.or_false, Bool.false_eq_true, if_false]
  refine wpAny_bind (W.self 0 _ _ _ st1 (wpAny_bind (wpAny_holding ?_)))
  unfold Builtin.List.listLengthHint
  refine wpAny_bind (wpAny_specialOf (hT 0 _ st1) map_no_len ?_)
  show wpAny _ A.in1 (specialOf (Value.ref I) (Str.ofString "__length_hint__") >>= _) _ _ _
  refine wpAny_bind (wpAny_specialOf (hT 0 _ st1) map_no_hint (wpAny_pure ?_))
  show wpAny _ A.in1 (rule "list.extend.makes-room" >>= fun _ => Builtin.List.listTouch (.ref s.heap.objs.size) >>= fun _ =>
    again (.builtin "list.extend.loop" ⟨[.ref s.heap.objs.size, .ref I, .ref s.heap.objs.size], []⟩)) _ _ _
  refine wpAny_bind (wpAny_rule (wpAny_bind ?_))
  have g1 : (s.heap.push L0).get? s.heap.objs.size = some L0 := Heap.get?_push_size _ rfl
  show wpAny _ A.in1 (updateSeq s.heap.objs.size (·.push .none) >>= fun _ => updateSeq s.heap.objs.size (·.pop)) _ _ _
  refine wpAny_bind (wpAny_updateSeq g1 rfl ?_)
  have g2 := Heap.get?_update_self (Obj.mapSeq (·.push Value.none)) g1 rfl
  refine wpAny_updateSeq g2 rfl ?_
  have g3 := Heap.get?_update_self (Obj.mapSeq (·.pop)) g2 rfl
  have oth : ∀ b o, b ≠ s.heap.objs.size → (s.heap.push L0).get? b = some o → (((s.heap.push L0).update s.heap.objs.size (Obj.mapSeq (·.push Value.none))).update s.heap.objs.size (Obj.mapSeq (·.pop))).get? b = some o :=
    fun b o hb e => (Heap.get?_update_other _ _ (Ne.symm hb)).trans ((Heap.get?_update_other _ _ (Ne.symm hb)).trans e)
  refine wpAny_pure ⟨plainId_quiet F.plain_extend_loop _, codeAny_extend_loopS W hn _ new _ n 0 _ _ _ rfl (Nat.zero_le _)
    (W.frame 0 ({ s with heap := s.heap.push L0 } : Shared) _ s.toks st1 (Nat.le_refl _) fun b hb o e => oth b o (fun h => new (h ▸ hb)) e) g3 (ItemsOf.nil Pv) fun s' acc' c' hm hS' hacc => ?_⟩
  show wpAny _ A (load s.heap.objs.size >>= _) _ _ s'
  refine wpAny_bind (wpAny_load hS' (wpAny_pure (q s' acc' (Moved.drop_new (o := L0) (tk := s.toks) (Moved.trans W.gtrans ((Moved.refl W.grefl).then_heap (by first | exact Nat.le_refl _ | exact Nat.le_succ _ | (first | lia | omega)) fun b o hb e => ?_) hm) (Nat.le_refl _)) hacc)))
  exact oth b o (fun h => hb (h ▸ List.mem_cons_self)) e

theorem items_caps : ∀ (ps : List (Str × Tok)) (vs : List Value), vs.length = ps.length → (∀ (j : Nat) v, vs[j]? = some v → ∃ x u t, ps[j]? = some (x, u) ∧ v = Value.str (Txt.capitalize x) t) → ∃ l : List (Str × Tok), strValues l = vs ∧ l.map (·.1) = ps.map fun p => Txt.capitalize p.1
  | [], [], _, _ => ⟨[], rfl, rfl⟩
  | (x, u) :: ps, v :: vs, hl, h => by
    obtain ⟨l, e1, e2⟩ := items_caps ps vs (by simpa using hl) fun j v hv => by simpa using h (j + 1) v (by simpa using hv)
    obtain ⟨x', u', t, e3, e4⟩ := h 0 v rfl
    simp at e3
    obtain ⟨rfl, rfl⟩ := e3
    exact ⟨(Txt.capitalize x, t) :: l, by rw [e4, ← e1]; rfl, by simp [e2]⟩
  | [], _ :: _, h, _ => by simp at h
  | _ :: _, [], h, _ => by simp at h

theorem join_map {sep : Str} {u : Tok} {l : Addr} {ps : List (Str × Tok)} {Q : Value → Shared → Prop} (hh : A.handled = none) (hl : s.heap.IsList l (strValues ps).toArray)
    (hfit : ∀ p ∈ ps, p.1.length ≤ 5592405) (hn : ps.length ≤ sizeLine) (hj : JoinOk sep (ps.map fun p => Txt.capitalize p.1) = true)
    (q : ∀ h' t' k, (∀ b o, s.heap.get? b = some o → h'.get? b = some o) → Q (.str (Txt.join sep (ps.map fun p => Txt.capitalize p.1)) t') { s with heap := h', toks := k }) :
    wpAny c.M A (call (.builtin "str.join") [.str sep u, .ref (((s.heap.push (jObj l)).push (tObj s.heap.objs.size)).objs.size)]) Q E { s with heap := ((s.heap.push (jObj l)).push (tObj s.heap.objs.size)).push (mObj (.builtin "str.capitalize") (s.heap.push (jObj l)).objs.size) } := by
  have eT : (s.heap.push (jObj l)).objs.size = s.heap.objs.size + 1 := by simp [Heap.push]
  have eI : ((s.heap.push (jObj l)).push (tObj s.heap.objs.size)).objs.size = s.heap.objs.size + 2 := by simp [Heap.push]
  have hlt : l < s.heap.objs.size := by obtain ⟨o, ho, _⟩ := hl; exact Heap.lt_size ho
  have m0 : MapSt (.builtin "str.capitalize") ((s.heap.push (jObj l)).push (tObj s.heap.objs.size)).objs.size (s.heap.push (jObj l)).objs.size s.heap.objs.size l (strValues ps).toArray 0
      (((s.heap.push (jObj l)).push (tObj s.heap.objs.size)).push (mObj (.builtin "str.capitalize") (s.heap.push (jObj l)).objs.size)) :=
    ⟨Heap.get?_push_size _ rfl, Heap.get?_push_of_some _ (Heap.get?_push_size _ rfl), ⟨_, Heap.get?_push_of_some _ (Heap.get?_push_of_some _ (Heap.get?_push_size _ rfl)), rfl, rfl⟩, ((hl.push _).push _).push _⟩
  rw [eI] at m0 ⊢
  rw [eT] at m0 ⊢
  have W := map_walks (c := c) (A := A.in1.in1) hh (I := s.heap.objs.size + 2) (T := s.heap.objs.size + 1) (J := s.heap.objs.size) (l := l) (Nat.ne_of_gt (Nat.lt_add_of_pos_right (by decide))) (Nat.succ_ne_self _) (Nat.ne_of_lt hlt) ps hfit
  refine wpAny_call (codeAny_call_builtin F.slot_str_join.plain F.entry_str_join (F.slot_str_join.check _ _ _ _ _ _ _ _ (typeIs_str _ _ _) (F.args_str_join_2 _ _) ?_))
  rw [join_tree_other]
  refine wpAny_bind (wpAny_typeOf (⟨_, m0.obj, rfl⟩ : Shared.TypeIs _ (.ref _) "map") ?_)
  show wpAny _ A.in1 ((pyIter (.ref _)).tryCatch _ >>= fun it => collect it >>= fun items => joinTail sep items) _ _ _
  refine wpAny_bind (wpAny_tryCatch (W.of_in1.self 0 _ _ _ m0 ?_))
  refine wpAny_bind (map_collect W (fun i s st => ⟨_, st.obj, rfl⟩) m0 (fun b hb => ?_) (by simp) hn fun s' acc hm hacc => ?_)
  · show b < (((s.heap.push (jObj l)).push (tObj s.heap.objs.size)).push (mObj (.builtin "str.capitalize") (s.heap.objs.size + 1))).objs.size
    have hsz : (((s.heap.push (jObj l)).push (tObj s.heap.objs.size)).push (mObj (.builtin "str.capitalize") (s.heap.objs.size + 1))).objs.size = s.heap.objs.size + 3 := by simp [Heap.push]
    rw [hsz]
    simp only [List.mem_cons, List.not_mem_nil, or_false] at hb
    rcases hb with rfl | rfl | rfl | rfl
    · exact Nat.lt_succ_self _
    · exact Nat.lt_succ_of_lt (Nat.lt_succ_self _)
    · exact Nat.lt_succ_of_lt (Nat.lt_succ_of_lt (Nat.lt_succ_self _))
    · exact Nat.lt_of_lt_of_le hlt (Nat.le_add_right _ _)
  obtain ⟨ls, e1, e2⟩ := items_caps ps acc.toList (by rw [Array.length_toList, hacc.1]) fun j v hv => hacc.2 j v (by rwa [Array.getElem?_toList] at hv)
  rw [← e1]
  rw [← e2] at hj q
  unfold JoinOk at hj
  rw [Bool.not_eq_true'] at hj
  have g : Gives (joinTail sep (strValues ls)) (joinMade sep ls) := by
    have g0 := gives_joinTail sep ls hj
    cases ls with
    | nil => exact g0
    | cons p r => cases r with
      | nil => exact g0
      | cons q r' => exact g0
  refine g c.prog c.w A (wants Q E) s' (post_join ls ⟨joinFit_length hj, fun t' k => ?_⟩)
  have hs' : s' = { s with heap := s'.heap, toks := s'.toks } := by
    obtain ⟨_, hg, hd, ho, _⟩ := hm
    cases s'; cases s; simp at hg hd ho ⊢
    exact ⟨hg.symm, hd, ho⟩
  rw [hs']
  refine q s'.heap t' k fun b o e => ?_
  have hb := Heap.lt_size e
  refine hm.heap b o (by simp only [List.mem_singleton]; exact Nat.ne_of_lt hb) (Heap.get?_push_of_some _ (Heap.get?_push_of_some _ (Heap.get?_push_of_some _ e)))
end
end
section
open Builtin Builtin.Str Builtin.Int
set_option maxRecDepth 100000

noncomputable def joinL (sep : List Nat) : List (List Nat) → List Nat
  | [] => []
  | [x] => x
  | x :: y :: r => x ++ sep ++ joinL sep (y :: r)

theorem len_le_sum : ∀ {ls : List (List Nat)} {l : List Nat}, l ∈ ls → l.length ≤ (ls.map (·.length)).sum
  | a :: r, l, h => by
    rcases List.mem_cons.mp h with rfl | h
    · simp
    · have := len_le_sum h; simp; (first | lia | omega)

theorem join_L (sep : List Nat) : ∀ ps : List (List Nat), Txt.join (S sep) (ps.map S) = S (joinL sep ps) := by
  intro ps
  show Builtin.Str.glued (S sep) (ps.map S) = _
  rw [StrLaws.glued_eq_join]
  induction ps with
  | nil => rfl
  | cons x r ih =>
    cases r with
    | nil => rfl
    | cons y r =>
      show S x ++ S sep ++ Str.join (S sep) ((y :: r).map S) = S (x ++ sep ++ joinL sep (y :: r))
      rw [ih]
      show (⟨_⟩ : Str) = ⟨_⟩
      congr 1
      show ((x.toArray ++ sep.toArray) ++ (joinL sep (y :: r)).toArray) = _
      simp

theorem joinOk_L (sep : List Nat) (ps : List (List Nat)) (h : (ps.map (·.length)).sum + ps.length * sep.length ≤ 16777216) : JoinOk (S sep) (ps.map S) = true := by
  unfold JoinOk
  rw [StrLaws.joinTotal]
  unfold tooLong
  rw [sizeLine_val, Bool.not_eq_true', decide_eq_false_iff_not]
  rw [List.map_map, List.length_map, S_length]
  have : (ps.map ((fun x : Str => x.length) ∘ S)) = ps.map (·.length) := by
    apply List.map_congr_left; intro a _; exact S_length a
  rw [this]; (first | lia | omega)

section
variable {c : Cx} {A : Around} {env : Env} {σ : Sto}

theorem str_attr_capitalize {s : Shared} {expr : Bool} {Q : Value → Shared → Prop} {E : Value → Shared → Prop} (q : Q (.builtin "str.capitalize") { s with toks := s.toks + 1 }) : wpAny c.M A (getAttr (.type "str") (Str.ofString "capitalize") expr) Q E s := by
  have X : Frag.In [] s.heap := fun a o e => by cases e
  have hstub : opaqueClassAbove (.type "str") = pure none := by unfold opaqueClassAbove; dsimp only; rw [show Manifest.isStub "str" = false from by decide +kernel]; rfl
  refine cls_open (K := []) (mc := .type "type") (hook := none) X (Looks.of_pure hstub) (Looks.of_pure (by kernel_rfl)) type_tga (looks_hook X (r := none) (by rfl)) (by show subIn _ _ _ = _; rfl)
    (r := .val (.builtin "str.capitalize")) (by kernel_rfl) (wpAny_pure (by show wpAny _ _ (handedOut (.builtin "str.capitalize")) _ _ _; rw [handedOut_of (by decide +kernel)]; exact wpAny_pure q))

theorem strs_of_rep {P : Facts} : ∀ {vs : List Value} {ls : List (List Nat)}, RepL c P vs (ls.map D.str) → ∃ ps : List (Str × Tok), vs = strValues ps ∧ ps.map (·.1) = ls.map S := by
  intro vs ls
  induction ls generalizing vs with
  | nil => intro h; obtain rfl := h.nil_inv; exact ⟨[], rfl, rfl⟩
  | cons l ls ih =>
    intro h
    obtain ⟨_, _, rfl, R, RL⟩ := h.cons_inv
    obtain ⟨ps, rfl, e⟩ := ih RL
    obtain ⟨t, rfl⟩ := R.str_inv
    exact ⟨(S l, t) :: ps, rfl, by rw [List.map_cons, List.map_cons, e]⟩

theorem ev_join_map {o e : Expr} {apos pos np sp cp mp : Pos} {sep : List Nat} {ls : List (List Nat)} (hh : A.handled = none)
    (hk : env.kindOf (Str.ofString "map") = some .globalImplicit) (hg : c.mg (Str.ofString "map") = none) (hk2 : env.kindOf (Str.ofString "str") = some .globalImplicit) (hg2 : c.mg (Str.ofString "str") = none)
    (ho : Ev c A env σ o (.str sep)) (he : EvF c A env σ e (.list (ls.map D.str))) (ha : ∀ l ∈ ls, ∀ x ∈ l, x < 128) (hsz : (ls.map (·.length)).sum + ls.length * sep.length ≤ 1000000) (hln : ls.length ≤ 1000000)
    (hbase : attributeBase o (Str.ofString "join") env (eval o env) = eval o env := by rfl) (hline : (apos.endLine == pos.line) = true := by rfl)
    (hs : starEach [.Call (.Name (Str.ofString "map") np) [.Attribute (.Name (Str.ofString "str") sp) (Str.ofString "capitalize") cp, e] [] mp] env = [(false, eval (.Call (.Name (Str.ofString "map") np) [.Attribute (.Name (Str.ofString "str") sp) (Str.ofString "capitalize") cp, e] [] mp) env)] := by rfl)
    (hs2 : starEach [.Attribute (.Name (Str.ofString "str") sp) (Str.ofString "capitalize") cp, e] env = [(false, eval (.Attribute (.Name (Str.ofString "str") sp) (Str.ofString "capitalize") cp) env), (false, eval e env)] := by rfl) :
    Ev c A env σ (.Call (.Attribute o (Str.ofString "join") apos) [.Call (.Name (Str.ofString "map") np) [.Attribute (.Name (Str.ofString "str") sp) (Str.ofString "capitalize") cp, e] [] mp] [] pos) (.str (joinL sep (ls.map capL))) := by
  intro P s G Q E q
  refine wpAny_Call_method hbase (by rw [hs]; rfl) hline F.plainAttrs_str F.slot_str_join F.type_str_join (ho.val G fun v h1 t1 P1 S1 G1 R1 => ?_)
  obtain ⟨_, rfl⟩ := R1.str_inv
  refine ⟨typeIs_str _ _ _, fun _ e => (nomatch e), Calls.callWith_builtin (by rw [hs]; rfl) ?_⟩
  rw [hs]
  refine Calls.evalArgs_plain (Calls.spliced_cons ?_)
  refine wpAny_Call_NameR (load_builtin G1 hk hg Boot.«map» (by decide +kernel) (by decide +kernel) (PySem.callWith_type (by rw [hs2]; rfl) ?_))
  rw [hs2]
  refine Calls.evalArgs_plain (Calls.spliced_cons (Attribute_name (load_builtin G1 hk2 hg2 Boot.«str» (by decide +kernel) (by decide +kernel) (str_attr_capitalize (Calls.spliced_cons ?_)))))
  refine he P1 _ (G1.step (Step.refl G1.ok)) _ E fun a h2 t2 P2 S2 hfr hnP O => Calls.spliced_nil ?_
  obtain ⟨vs, n, hobj, RL⟩ := O
  obtain ⟨ps, rfl, eps⟩ := strs_of_rep RL
  have hl : Heap.IsList h2 a (strValues ps).toArray := ⟨_, hobj, rfl, n, rfl⟩
  refine call_map hl (Calls.spliced_nil ?_)
  have ecap : (ps.map fun p => Txt.capitalize p.1) = (ls.map capL).map S := by
    rw [show (ps.map fun p => Txt.capitalize p.1) = (ps.map (·.1)).map Txt.capitalize from by rw [List.map_map]; rfl, eps, List.map_map, List.map_map]
    apply List.map_congr_left
    intro l hl
    exact capitalize_L l (ha l hl)
  have hlen : ps.length = ls.length := by have := congrArg List.length eps; simpa using this
  have hle : ∀ l ∈ ls, l.length ≤ 1000000 := by
    intro l hl
    have : l.length ≤ (ls.map (·.length)).sum := len_le_sum hl
    (first | lia | omega)
  refine join_map (s := { s with heap := h2, toks := t2 }) hh hl (fun p hp => ?_) (by rw [hlen, sizeLine_val]; (first | lia | omega)) (by rw [ecap]; exact joinOk_L _ _ (by rw [List.map_map, List.length_map, show (ls.map ((fun x : List Nat => x.length) ∘ capL)) = ls.map (·.length) from List.map_congr_left fun l _ => capL_length l]; (first | lia | omega))) fun h' t' k hk => ?_
  · have : p.1 ∈ ls.map S := by rw [← eps]; exact List.mem_map_of_mem hp
    obtain ⟨l, hl, e⟩ := List.mem_map.mp this
    rw [← e, S_length]
    have := hle l hl; (first | lia | omega)
  · rw [ecap, join_L]
    exact q _ _ _ P2 ((S1.trans S2).trans (Step.heap S2.ok hk)) (.str _ _)
end
end
section
open Builtin Builtin.Str Builtin.Int
set_option maxRecDepth 100000

noncomputable def wstep (st : List (List Nat) × List Nat) (x : Nat) : List (List Nat) × List Nat :=
  if Unicode.isSpace x = true then (if st.2 = [] then st else (st.1 ++ [st.2], [])) else (st.1, st.2 ++ [x])
noncomputable def wfin (st : List (List Nat) × List Nat) : List (List Nat) := if st.2 = [] then st.1 else st.1 ++ [st.2]
noncomputable def wordsL (l : List Nat) : List (List Nat) := wfin (l.foldl wstep ([], []))

theorem S_len0 {l : List Nat} : (S l).length = 0 ↔ l = [] := by rw [S_length]; simp
theorem wstep_S (st : List (List Nat) × List Nat) (x : Nat) : KWd.step (st.1.map S, S st.2) x = ((wstep st x).1.map S, S (wstep st x).2) := by
  unfold KWd.step wstep
  by_cases h : Unicode.isSpace x = true
  · rw [if_pos h, if_pos h]
    by_cases h2 : st.2 = []
    · rw [if_pos h2, if_pos (S_len0.mpr h2)]
    · rw [if_neg h2, if_neg (fun h => h2 (S_len0.mp h))]
      simp only [List.map_append, List.map_cons, List.map_nil]
      rfl
  · rw [if_neg h, if_neg h]
    simp only [Prod.mk.injEq, true_and]
    show (⟨_⟩ : Str) = ⟨_⟩
    congr 1
    show st.2.toArray ++ #[x] = _
    simp
theorem wscan_S : ∀ (l : List Nat) (st : List (List Nat) × List Nat), l.foldl KWd.step (st.1.map S, S st.2) = ((l.foldl wstep st).1.map S, S (l.foldl wstep st).2)
  | [], _ => rfl
  | x :: r, st => by rw [List.foldl_cons, List.foldl_cons, wstep_S, wscan_S r]
theorem words_L (l : List Nat) : PySem.wordsOf (S l) = (wordsL l).map S := by
  have h := KWd.wordsOf_scan (S l)
  show ((spaceWords (S l) ((S l).length + 1)).map fun (p : Nat × Nat) => strSub (S l) p.1 p.2) = _
  rw [h]
  unfold KWd.scan
  rw [S_toList]
  have := wscan_S l ([], [])
  simp only [List.map_nil] at this
  rw [show (([], Str.empty) : List Str × Str) = ([], S []) from rfl, this]
  unfold KWd.fin wordsL wfin
  by_cases h2 : (l.foldl wstep ([], [])).2 = []
  · rw [if_pos h2, if_pos (S_len0.mpr h2)]
  · rw [if_neg h2, if_neg (fun h => h2 (S_len0.mp h))]
    simp only [List.map_append, List.map_cons, List.map_nil]

theorem wordsL_weight (l : List Nat) : ((wordsL l).map (·.length)).sum ≤ l.length ∧ (wordsL l).length ≤ l.length ∧ (∀ u ∈ wordsL l, ∀ x ∈ u, x ∈ l) := by
  have key : ∀ (r : List Nat) (st : List (List Nat) × List Nat), (((r.foldl wstep st).1.map (·.length)).sum + (r.foldl wstep st).2.length ≤ (st.1.map (·.length)).sum + st.2.length + r.length) ∧
      ((∀ u ∈ st.1, u ≠ []) → (∀ u ∈ (r.foldl wstep st).1, u ≠ [])) ∧ (∀ P : Nat → Prop, (∀ u ∈ st.1, ∀ x ∈ u, P x) → (∀ x ∈ st.2, P x) → (∀ x ∈ r, P x) → (∀ u ∈ (r.foldl wstep st).1, ∀ x ∈ u, P x) ∧ (∀ x ∈ (r.foldl wstep st).2, P x)) := by
    intro r
    induction r with
    | nil => intro st; exact ⟨by simp, fun h => h, fun P h1 h2 _ => ⟨h1, h2⟩⟩
    | cons x r ih =>
      intro st
      rw [List.foldl_cons]
      obtain ⟨a, b, d⟩ := ih (wstep st x)
      have hw : ((wstep st x).1.map (·.length)).sum + (wstep st x).2.length ≤ (st.1.map (·.length)).sum + st.2.length + 1 := by
        unfold wstep; split
        · split
          · (first | lia | omega)
          · simp
        · simp; (first | lia | omega)
      refine ⟨by simp only [List.length_cons]; (first | lia | omega), fun h => b ?_, fun P h1 h2 h3 => d P ?_ ?_ fun y hy => h3 y (List.mem_cons_of_mem _ hy)⟩
      · unfold wstep; split
        · split
          · exact h
          · rename_i h2; intro u hu; rcases List.mem_append.mp hu with hu | hu
            · exact h u hu
            · rw [List.mem_singleton.mp hu]; exact h2
        · exact h
      · unfold wstep; split
        · split
          · exact h1
          · intro u hu; rcases List.mem_append.mp hu with hu | hu
            · exact h1 u hu
            · rw [List.mem_singleton.mp hu]; exact h2
        · exact h1
      · unfold wstep; split
        · split
          · exact h2
          · intro y hy; cases hy
        · intro y hy; rcases List.mem_append.mp hy with hy | hy
          · exact h2 y hy
          · rw [List.mem_singleton.mp hy]; exact h3 x (by simp)
  obtain ⟨a, b, d⟩ := key l ([], [])
  have b' := b (by simp)
  obtain ⟨d1, d2⟩ := d (· ∈ l) (by simp) (by simp) fun _ h => h
  have hne : ∀ u ∈ wordsL l, u ≠ [] := by
    unfold wordsL wfin; split
    · exact b'
    · rename_i h2; intro u hu; rcases List.mem_append.mp hu with hu | hu
      · exact b' u hu
      · rw [List.mem_singleton.mp hu]; exact h2
  have hsum : ((wordsL l).map (·.length)).sum ≤ l.length := by
    unfold wordsL wfin; split
    · simp at a; (first | lia | omega)
    · simp at a ⊢; (first | lia | omega)
  have hcnt : ∀ ws : List (List Nat), (∀ u ∈ ws, u ≠ []) → ws.length ≤ (ws.map (·.length)).sum := by
    intro ws
    induction ws with
    | nil => simp
    | cons u ws ih =>
      intro h
      have h1 := List.length_pos_iff.mpr (h u (by simp))
      have h2 := ih fun v hv => h v (by simp [hv])
      simp; (first | lia | omega)
  refine ⟨hsum, Nat.le_trans (hcnt _ hne) hsum, ?_⟩
  unfold wordsL wfin; split
  · exact d1
  · intro u hu; rcases List.mem_append.mp hu with hu | hu
    · exact d1 u hu
    · rw [List.mem_singleton.mp hu]; exact d2

section
variable {c : Cx} {A : Around} {env : Env} {σ : Sto}

theorem my_words {s : Shared} {l : List Nat} {t : Tok} {Q : Value → Shared → Prop} {E : Value → Shared → Prop} (hl : l.length < 1000000) (args : List Value) (ha : args = [] ∨ args = [.none])
    (hq : ∀ (ps : List (Str × Tok)) (tk : Nat), ps.map (·.1) = (wordsL l).map S → Q (.ref s.heap.objs.size) { s with heap := s.heap.push { cls := .type "list", data := .seq (strValues ps).toArray }, toks := tk }) :
    wpAny c.M A (call (.builtin "str.split") (.str (S l) t :: args)) Q E s := by
  have hx : (S l).length ≤ sizeLine := by rw [S_length, sizeLine_val]; (first | lia | omega)
  have hn : (spaceWords (S l) ((S l).length + 1)).length ≤ sizeLine := by
    have := congrArg List.length (words_L l)
    simp only [PySem.wordsOf, List.length_map] at this
    rw [this, sizeLine_val]
    have := (wordsL_weight l).2.1
    (first | lia | omega)
  have key : ∀ R : Result → Shared → Prop, R = wants Q E → (if (spaceWords (S l) ((S l).length + 1) == [(0, (S l).length)]) = true then listOfItself (S l) t A R s
    else R (.ok (.ret (.ref s.heap.objs.size))) { s with toks := s.toks + (spaceWords (S l) ((S l).length + 1)).length, heap := s.heap.push { cls := .type "list", data := .seq (strsFrom s.toks (PySem.wordsOf (S l))).toArray } }) := by
    rintro R rfl
    cases hw : spaceWords (S l) ((S l).length + 1) == [(0, (S l).length)]
    · simp only [Bool.false_eq_true, if_false]
      rw [strsFrom_eq]
      exact hq (numbered s.toks (PySem.wordsOf (S l))) _ ((numbered_texts _ _).trans (words_L l))
    · simp only [if_true]
      refine hq [(S l, t)] s.toks ?_
      rw [← words_L]
      have hw' : spaceWords (S l) ((S l).length + 1) = [(0, (S l).length)] := by simpa using hw
      show [S l] = PySem.wordsOf (S l)
      unfold PySem.wordsOf
      rw [hw']
      simp only [List.map_cons, List.map_nil]
      rw [StrLaws.sub_whole]
  rcases ha with rfl | rfl
  · exact call_meets F.slot_str_split (typeIs_str _ _ _) F.entry_str_split (F.args_str_split_1 _) (meets_str_split_space (S l) t hx hn) (key _ rfl)
  · exact call_meets F.slot_str_split (typeIs_str _ _ _) F.entry_str_split (F.args_str_split_2 _ _) ((split_none_eq (S l) t).symm ▸ meets_str_split_space (S l) t hx hn) (key _ rfl)

theorem own_of_words {s : Shared} {P P1 P2 : Facts} {h1 h2 : Heap} {ws : List (List Nat)} {Q : Value → Shared → Prop} (S1 : Step P P1 s.heap h1) (S2 : Step P1 P2 h1 h2) (ps : List (Str × Tok)) (tk : Nat) (e : ps.map (·.1) = ws.map S)
    (q : ∀ a h' tk P', Step P P' s.heap h' → s.heap.get? a = none → (∀ o, ¬ P' a o) → OwnObj c P' h' a (.list (ws.map D.str)) → Q (.ref a) { s with heap := h', toks := tk }) :
    Q (.ref h2.objs.size) { s with heap := h2.push { cls := .type "list", data := .seq (strValues ps).toArray }, toks := tk } := by
  have S3 : Step P2 P2 h2 (h2.push { cls := .type "list", data := .seq (strValues ps).toArray }) := Step.heap S2.ok fun b o e => Heap.get?_push_of_some _ e
  refine q _ _ _ P2 ((S1.trans S2).trans S3) ?_ (fun o ho => ?_) ⟨strValues ps, 0, Heap.get?_push_size _ rfl, ?_⟩
  · cases z : s.heap.get? h2.objs.size with
    | none => rfl
    | some o => have := S2.ext _ _ (S1.ext _ _ z); rw [fresh_none] at this; cases this
  · have := S2.ok _ _ ho; rw [fresh_none] at this; cases this
  · have := repL_strs (c := c) (P := P2) ps
    rwa [show (ps.map fun p => p.1.cps.toList) = ws from by
      rw [show (ps.map fun p => p.1.cps.toList) = (ps.map (·.1)).map (fun x : Str => x.cps.toList) from by rw [List.map_map]; rfl, e, List.map_map]
      conv => rhs; rw [← List.map_id ws]
      apply List.map_congr_left; intro a _; rfl] at this

theorem evf_words1 {o x : Expr} {apos pos : Pos} {l : List Nat} (ho : Ev c A env σ o (.str l)) (hx : Ev c A env σ x .none) (hl : l.length < 1000000)
    (hbase : attributeBase o (Str.ofString "split") env (eval o env) = eval o env := by rfl) (hline : (apos.endLine == pos.line) = true := by rfl) (he : starEach [x] env = [(false, eval x env)] := by rfl) :
    EvF c A env σ (.Call (.Attribute o (Str.ofString "split") apos) [x] [] pos) (.list ((wordsL l).map D.str)) := by
  intro P s G Q E q
  refine wpAny_Call_method hbase (by rw [he]; rfl) hline F.plainAttrs_str F.slot_str_split F.type_str_split (ho.val G fun v h1 t1 P1 S1 G1 R1 => ?_)
  obtain ⟨_, rfl⟩ := R1.str_inv
  refine ⟨typeIs_str _ _ _, fun _ e => (nomatch e), Calls.callWith_builtin (by rw [he]; rfl) (evalArgs_L (evl_cons hx evl_nil he) (.inr ⟨_, _, he⟩) G1 fun vs h2 t2 P2 S2 G2 R2 => ?_)⟩
  have hInv := R2.cons_inv; clear R2; obtain ⟨_, _, rfl, Ru, R2⟩ := hInv
  obtain rfl := R2.nil_inv; clear R2; obtain rfl := Ru.none_inv
  exact my_words hl _ (.inr rfl) fun ps tk e => own_of_words S1 S2 ps tk e q

theorem ev_join {o e : Expr} {apos pos : Pos} {sep : List Nat} {ls : List (List Nat)} (ho : Ev c A env σ o (.str sep)) (he : Ev c A env σ e (.list (ls.map D.str))) (hsz : (ls.map (·.length)).sum + ls.length * sep.length ≤ 1000000)
    (hbase : attributeBase o (Str.ofString "join") env (eval o env) = eval o env := by rfl) (hline : (apos.endLine == pos.line) = true := by rfl) (hs : starEach [e] env = [(false, eval e env)] := by rfl) :
    Ev c A env σ (.Call (.Attribute o (Str.ofString "join") apos) [e] [] pos) (.str (joinL sep ls)) := by
  refine ev_smeth F.slot_str_join F.type_str_join ho (evl_cons he evl_nil hs) (.inr ⟨_, _, hs⟩) (by rw [hs]; rfl) hbase (by rw [hs]; rfl) hline ?_
  intro P s t vs ok T RL Q E q
  have hInv := RL.cons_inv; clear RL; obtain ⟨_, _, rfl, R, RL⟩ := hInv
  obtain rfl := RL.nil_inv; clear RL
  obtain ⟨a, vs, n, rfl, hp, RL⟩ := R.list_inv
  obtain ⟨ps, rfl, eps⟩ := strs_of_rep RL
  refine SC.join (isList_of ok hp) eps (joinOk_L _ _ (by first | lia | omega)) fun t' k => ?_
  rw [join_L]
  exact q _ _ _ P (Step.refl ok) (.str _ _)
end
end
section
set_option maxRecDepth 100000
noncomputable def capF2 (s sep : List Nat) : List Nat := joinL sep ((splitF s sep).map capL)
noncomputable def capF1 (s : List Nat) : List Nat := joinL [32] ((wordsL s).map capL)

theorem SplitR.weight {sep l : List Nat} {ps : List (List Nat)} (h : SplitR sep l ps) : (ps.map (·.length)).sum + (ps.length - 1) * sep.length = l.length ∧ 1 ≤ ps.length ∧ ∀ u ∈ ps, ∀ x ∈ u, x ∈ l := by
  induction h with
  | last _ => simp
  | @cut a b ps _ _ ih =>
    obtain ⟨h1, h2, h3⟩ := ih
    refine ⟨?_, by simp, fun u hu x hx => ?_⟩
    · have e : (a :: ps).length - 1 = (ps.length - 1) + 1 := by simp; (first | lia | omega)
      rw [e, Nat.succ_mul]
      simp only [List.map_cons, List.sum_cons, List.length_append]; (first | lia | omega)
    · rcases List.mem_cons.mp hu with rfl | hu
      · simp [hx]
      · simp [h3 u hu x hx]

section
variable {c : Cx} {A : Around} {env : Env} {σ : Sto}
theorem ev_or_str {x y : Expr} {pos : Pos} {l : List Nat} (hx : Ev c A env σ x (.str l)) (hne : l ≠ []) (hl : l.length < 2 ^ 62) {b : D} (hy : Ev c A env σ y b) : Ev c A env σ (.BoolOp .Or [x, y] pos) (.str l) := by
  have h := ev_or (pos := pos) (t := l.length != 0) hx (if_pos hl) (fun _ => hy)
  rwa [show (l.length != 0) = true from by simpa using hne] at h
theorem ev_or_none {x y : Expr} {pos : Pos} {b : D} (hx : Ev c A env σ x .none) (hy : Ev c A env σ y b) : Ev c A env σ (.BoolOp .Or [x, y] pos) b := ev_or (t := false) hx rfl fun _ => hy
end

theorem fn_cap2 (w : World) (mb : Str → Option Value) (s sep : List Nat) (hs : s.length ≤ 1000) (hp : sep.length ≤ 100) (hne : sep ≠ []) (ha : ∀ x ∈ s, x < 128) (hk : ∀ x ∈ sep, x < 256) : Fn (cx2 w mb) 1 22 [.str s, .str sep] (.str (capF2 s sep)) := by
  refine fn_introD (xs := ["s", "sep"]) [] [] (fun _ => .nil) rfl rfl rfl rfl rfl rfl rfl rfl ?_ rfl (by decide +kernel) rfl rfl rfl ?_
  · intro st vals hX h
    obtain ⟨_, _, rfl⟩ := len2 h; exact binds_K hX rfl rfl rfl rfl rfl
  intro A L hA
  obtain ⟨h1, h2, h3⟩ := (splitF_spec s sep hne hk).weight
  have hl := splitF_length s sep hne hk
  have hmul : (splitF s sep).length * sep.length ≤ 1001 * 100 := Nat.mul_le_mul (by first | lia | omega) hp
  refine ex_return (ev_join_map (sep := sep) (ls := splitF s sep) hA.handled rfl rfl rfl rfl (ev_or_str (by walk_at "mev") hne (by first | lia | omega) (by walk_at "mev")) (evf_split (by walk_at "mev") (by walk_at "mev") hne (by first | lia | omega)) (fun u hu x hx => ha x (h3 u hu x hx)) (by first | lia | omega) (by first | lia | omega)) rfl

theorem fn_cap1 (w : World) (mb : Str → Option Value) (s : List Nat) (hs : s.length ≤ 1000) (ha : ∀ x ∈ s, x < 128) : Fn (cx2 w mb) 1 22 [.str s] (.str (capF1 s)) := by
  refine fn_introD (xs := ["s", "sep"]) [Value.none] [D.none] (fun _ => .cons .none .nil) rfl rfl rfl rfl rfl rfl rfl rfl ?_ rfl (by decide +kernel) rfl rfl rfl ?_
  · intro st vals hX h
    obtain ⟨_, rfl⟩ := len1 h; exact binds_K hX rfl rfl rfl rfl rfl
  intro A L hA
  obtain ⟨h1, h2, h3⟩ := wordsL_weight s
  refine ex_return (ev_join_map (sep := [32]) (ls := wordsL s) hA.handled rfl rfl rfl rfl (ev_or_none (by walk_at "mev") (by walk_at "mev")) (evf_words1 (by walk_at "mev") (by walk_at "mev") (by first | lia | omega)) (fun u hu x hx => ha x (h3 u hu x hx)) (by simp; (first | lia | omega)) (by first | lia | omega)) rfl
end
section
set_option maxRecDepth 100000
theorem clipAt_nat (n : Nat) {i : Int} (h : 0 ≤ i) : clipAt n i = min i.toNat n := by
  obtain ⟨k, rfl⟩ := Int.eq_ofNat_of_zero_le h
  unfold clipAt
  rw [if_neg (Int.not_lt.mpr h)]
  rcases Nat.le_total k n with h | h
  · rw [Int.min_eq_left (Int.ofNat_le.mpr h), Int.max_eq_right (Int.natCast_nonneg k), Int.toNat_natCast, Nat.min_eq_left h]
  · rw [Int.min_eq_right (Int.ofNat_le.mpr h), Int.max_eq_right (Int.natCast_nonneg n), Int.toNat_natCast, Int.toNat_natCast, Nat.min_eq_right h]
theorem sliceL_nn {α : Type} (l : List α) {i j : Int} (hi : 0 ≤ i) (hj : 0 ≤ j) : sliceL l (some i) (some j) = (l.take j.toNat).drop i.toNat := by
  simp only [sliceL, clipL]
  rw [clipAt_nat _ hi, clipAt_nat _ hj, List.drop_take]
  rcases Nat.le_or_le i.toNat l.length with h | h
  · rw [Nat.min_eq_left h]
    rcases Nat.le_or_le j.toNat l.length with h2 | h2
    · rw [Nat.min_eq_left h2]
    · rw [Nat.min_eq_right h2, List.take_of_length_le (by simp), List.take_of_length_le (by simp; (first | lia | omega))]
  · rw [Nat.min_eq_right h]; simp [List.drop_of_length_le h]
theorem sliceL_0n {α : Type} (l : List α) {j : Int} (hj : 0 ≤ j) : sliceL l none (some j) = l.take j.toNat := by
  simp only [sliceL, clipL]
  rw [clipAt_nat _ hj]
  simp
theorem sliceL_n0 {α : Type} (l : List α) {i : Int} (hi : 0 ≤ i) : sliceL l (some i) none = l.drop i.toNat := by
  simp only [sliceL, clipL]
  rw [clipAt_nat _ hi]
  rcases Nat.le_or_le i.toNat l.length with h | h
  · rw [Nat.min_eq_left h, List.take_of_length_le (by simp)]
  · rw [Nat.min_eq_right h]; simp [List.drop_of_length_le h]

noncomputable def cutG (mark : List Nat) : Nat → List Nat → Bool → List Nat
  | 0, _, _ => []
  | _ + 1, [], _ => []
  | n + 1, x :: r, first => if (x :: r).take mark.length = mark then mark ++ cutG mark n ((x :: r).drop mark.length) true else (if first then up1 x else lo1 x) :: cutG mark n r false
noncomputable def cutF (l mark : List Nat) : List Nat := cutG mark l.length l true

theorem cutG_fuel (mark : List Nat) (hm : mark ≠ []) : ∀ (n m : Nat) (r : List Nat) (b : Bool), r.length ≤ n → r.length ≤ m → cutG mark n r b = cutG mark m r b
  | 0, m, r, b, hn, _ => by
    have : r = [] := List.eq_nil_of_length_eq_zero (by first | lia | omega)
    subst this; cases m <;> rfl
  | n + 1, 0, r, b, _, h => by
    have : r = [] := List.eq_nil_of_length_eq_zero (by first | lia | omega)
    subst this; rfl
  | n + 1, m + 1, [], b, _, _ => rfl
  | n + 1, m + 1, x :: r, b, h1, h2 => by
    have hp := List.length_pos_iff.mpr hm
    simp only [List.length_cons] at h1 h2
    unfold cutG
    split
    · rw [cutG_fuel mark hm n m _ true (by simp; (first | lia | omega)) (by simp; (first | lia | omega))]
    · rw [cutG_fuel mark hm n m r false (by first | lia | omega) (by first | lia | omega)]

theorem cutG_len (mark : List Nat) : ∀ (n : Nat) (r : List Nat) (b : Bool), (cutG mark n r b).length ≤ r.length
  | 0, r, b => by simp [cutG]
  | n + 1, [], b => by simp [cutG]
  | n + 1, x :: r, b => by
    unfold cutG
    split
    · rename_i h
      have hl : mark.length ≤ (x :: r).length := by rw [← h, List.length_take]; exact Nat.min_le_right _ _
      have := cutG_len mark n ((x :: r).drop mark.length) true
      simp only [List.length_append, List.length_drop] at this ⊢
      (first | lia | omega)
    · have := cutG_len mark n r false
      simp; (first | lia | omega)

structure CutJ (l mark : List Nat) (n : Nat) (σ : Sto) (told : List Nat) (k : Nat) (first : Bool) : Prop where
  en : n = l.length - k
  hk : k ≤ l.length
  hc : told ++ cutG mark l.length (l.drop k) first = cutF l mark
  es : σ = [("stretch", .val (.str l)), ("mark", .val (.str mark)), ("told", .val (.str told)), ("k", .val (.int k)), ("first", .val (.bool first))]

theorem fn_cut (w : World) (mb : Str → Option Value) (l mark : List Nat) (hl : l.length ≤ 1000) (hm : mark.length ≤ 100) (hne : mark ≠ []) (ha : ∀ x ∈ l, x < 128) : Fn (cx2 w mb) 1 43 [.str l, .str mark] (.str (cutF l mark)) := by
  have hSL := sizeLine_val
  have hmp := List.length_pos_iff.mpr hne
  refine fn_intro (xs := ["stretch", "mark"]) rfl rfl rfl rfl rfl rfl rfl rfl ?_ rfl (by decide +kernel) rfl rfl rfl ?_
  · intro vals h
    obtain ⟨_, _, rfl⟩ := len2 h; exact rfl
  intro A L hA
  refine ex_assign_tup (xs := ["told", "k", "first"]) (ds := [.str [], .int 0, .bool true]) (by walk_at "mev") hA.handled (.cons stores_name (.inl rfl) (.cons stores_name (.inl rfl) (.cons stores_name (.inl rfl) .nil))) rfl (by walk_at "mset") ?_
  refine ex_while (J := fun n σ => ∃ (told : List Nat) (k : Nat) (first : Bool), CutJ l mark n σ told k first) (n := l.length)
    (K := fun σ => σ = [("stretch", .val (.str l)), ("mark", .val (.str mark)), ("told", .val (.str (cutF l mark))), ("k", .val (.int l.length)), ("first", .val (.bool true))] ∨ σ = [("stretch", .val (.str l)), ("mark", .val (.str mark)), ("told", .val (.str (cutF l mark))), ("k", .val (.int l.length)), ("first", .val (.bool false))])
    ⟨[], 0, true, rfl, Nat.zero_le _, rfl, rfl⟩ ?_ ?_
  · rintro n σ' ⟨told, k, first, en, hk, hc, es⟩
    subst en; subst es
    refine ⟨decide ((k : Int) < l.length), by walk_at "mevt", ?_, ?_⟩
    · intro hb
      simp only [decide_eq_true_eq] at hb
      have hk' : k < l.length := by first | lia | omega
      have hd : l.drop k = l[k] :: l.drop (k + 1) := List.drop_eq_getElem_cons hk'
      have hlt : told.length ≤ 1000 := by
        have := congrArg List.length hc
        have h2 : (cutF l mark).length ≤ l.length := cutG_len mark _ _ _
        rw [List.length_append] at this; (first | lia | omega)
      have hsl : sliceL l (some (k : Int)) (some ((k : Int) + mark.length)) = (l.drop k).take mark.length := by
        rw [sliceL_nn _ (by first | lia | omega) (by first | lia | omega), List.drop_take]
        congr 1; (first | lia | omega)
      refine ex_if (b := decide ((l.drop k).take mark.length = mark)) (N1 := fun σ2 => ∃ m, m < l.length - k ∧ ∃ (told : List Nat) (k : Nat) (first : Bool), CutJ l mark m σ2 told k first) (by rw [← hsl]; walk_at "mevt") ?_ ?_ ?_
      · intro he
        simp only [decide_eq_true_eq] at he
        have hlen : k + mark.length ≤ l.length := by
          have := congrArg List.length he
          simp only [List.length_take, List.length_drop] at this; (first | lia | omega)
        refine ex_assign_swap (names := [Str.ofString "told", Str.ofString "k", Str.ofString "first"]) (xs := ["first", "k", "told"]) (ds := [.str (told ++ mark), .int ((k : Int) + mark.length), .bool true]) (by walk_at "mev") hA.handled rfl (.cons stores_bind (.inl rfl) (.cons stores_bind (.inl rfl) (.cons stores_bind (.inl rfl) .nil))) rfl rfl (by walk_at "mset") ?_
        refine ex_nil ⟨l.length - (k + mark.length), by first | lia | omega, told ++ mark, k + mark.length, true, rfl, hlen, ?_, rfl⟩
        rw [← hc]
        obtain ⟨n0, hn0⟩ : ∃ n0, l.length = n0 + 1 := ⟨l.length - 1, by first | lia | omega⟩
        have hstep : cutG mark l.length (l.drop k) first = mark ++ cutG mark n0 ((l.drop k).drop mark.length) true := by
          rw [hn0, hd, cutG]; rw [if_pos (by rw [← hd]; exact he)]
        rw [hstep, List.append_assoc, List.drop_drop]
        congr 2
        exact cutG_fuel mark hne _ _ _ _ (by simp) (by simp; (first | lia | omega))
      · intro he
        simp only [decide_eq_false_iff_not] at he
        have hx : l[k] < 128 := ha _ (List.getElem_mem hk')
        have hx1 : ∀ x ∈ [l[k]], x < 128 := by intro x h; rw [List.mem_singleton.mp h]; exact hx
        have hix : (seqIndex? (k : Int) l.length).bind (l[·]?) = some l[k] := item_at rfl hk'
        refine ex_assign_swap (names := [Str.ofString "told", Str.ofString "k", Str.ofString "first"]) (xs := ["first", "k", "told"]) (ds := [.str (told ++ if first then [l[k]].map up1 else [l[k]].map lo1), .int ((k : Int) + 1), .bool false])
          (ev_tuple (evl_cons (ev_binop (by walk_at "mev") (ev_ifexp_str (q := first) (by walk_at "mevt") (fun _ => ev_upper (ev_item_str (i := k) (by walk_at "mev") (by walk_at "mev") hix (by first | lia | omega)) hx1 (by simp; (first | lia | omega))) (fun _ => ev_lower (ev_item_str (i := k) (by walk_at "mev") (by walk_at "mev") hix (by first | lia | omega)) hx1 (by simp; (first | lia | omega)))) (op_add_str (by cases first <;> simp <;> (first | lia | omega)))) (evl_cons (by walk_at "mev") (evl_cons (by walk_at "mev") evl_nil)))) hA.handled rfl (.cons stores_bind (.inl rfl) (.cons stores_bind (.inl rfl) (.cons stores_bind (.inl rfl) .nil))) rfl rfl (by walk_at "mset") ?_
        refine ex_nil ⟨l.length - (k + 1), by first | lia | omega, told ++ (if first then [l[k]].map up1 else [l[k]].map lo1), k + 1, false, rfl, by first | lia | omega, ?_, rfl⟩
        rw [← hc]
        obtain ⟨n0, hn0⟩ : ∃ n0, l.length = n0 + 1 := ⟨l.length - 1, by first | lia | omega⟩
        have hstep : cutG mark l.length (l.drop k) first = (if first then up1 l[k] else lo1 l[k]) :: cutG mark n0 (l.drop (k + 1)) false := by
          conv => lhs; rw [hn0, hd, cutG]
          rw [if_neg (by rw [← hd]; exact he)]
        rw [hstep, cutG_fuel mark hne n0 l.length (l.drop (k + 1)) false (by simp; (first | lia | omega)) (by simp)]
        cases first <;> simp
      · exact fun σ2 h => ex_nil h
    · intro hb
      simp only [decide_eq_false_iff_not] at hb
      have hk' : k = l.length := by first | lia | omega
      subst hk'
      have : told = cutF l mark := by
        rw [← hc, List.drop_of_length_le (by first | lia | omega)]
        cases l.length <;> simp [cutG]
      rw [this]
      cases first
      · exact .inr rfl
      · exact .inl rfl
  · rintro σ' (rfl | rfl)
    · exact ex_return (by walk_at "mev") rfl
    · exact ex_return (by walk_at "mev") rfl
end
section
set_option maxRecDepth 100000

noncomputable abbrev Trip := Int × Int × Int
noncomputable def T3 (t : Trip) : D := .tup [.int t.1, .int t.2.1, .int t.2.2]
noncomputable def P3 (t : Trip) : PyData := .tuple [.int t.1, .int t.2.1, .int t.2.2]

section
variable {c : Cx} {A : Around} {env : Env} {σ : Sto}

theorem det_trip (t : Trip) : Det c (T3 t) := by
  intro P hf v d' h h'
  obtain ⟨a, us, n, rfl, hp, RL⟩ := (show Rep c P v (.tup [.int t.1, .int t.2.1, .int t.2.2]) from h).tup_inv
  clear h
  cases h' with
  | tup k r' =>
    have e := hf _ _ _ hp k
    injection e with _ _ e _
    injection e with e _
    obtain rfl : us = _ := by simpa using e
    clear hp k e
    obtain ⟨_, _, rfl, R1, RL⟩ := RL.cons_inv
    obtain ⟨_, _, rfl, R2, RL⟩ := RL.cons_inv
    obtain ⟨_, _, rfl, R3, RL⟩ := RL.cons_inv
    obtain rfl := RL.nil_inv
    cases r' with
    | cons q1 r' => cases r' with
      | cons q2 r' => cases r' with
        | cons q3 r' =>
          cases r'
          rw [← det_int _ P hf _ _ R1 q1, ← det_int _ P hf _ _ R2 q2, ← det_int _ P hf _ _ R3 q3]; rfl
  | list k r' => have e := hf _ _ _ hp k; injection e with e; injection e with e; exact absurd e (by decide)
  | dict k r' => have e := hf _ _ _ hp k; injection e with e; injection e with e; exact absurd e (by decide)
theorem det_trips (ts : List Trip) : ∀ d ∈ ts.map T3, Det c d := by
  intro d hd; obtain ⟨i, _, rfl⟩ := List.mem_map.mp hd; exact det_trip i

theorem reads_ints {P : Facts} {h : Heap} : ∀ {vs : List Value} {ns : List Int}, RepL c P vs (ns.map D.int) → ReadsAll h vs (ns.map PyData.int) [] := by
  intro vs ns
  induction ns generalizing vs with
  | nil => intro hr; obtain rfl := hr.nil_inv; exact .nil
  | cons n ns ih =>
    intro hr
    obtain ⟨_, _, rfl, R, RL⟩ := hr.cons_inv
    obtain ⟨t, rfl⟩ := R.int_inv
    exact ReadsAll.cons (as := []) (bs := []) (.int n t) (ih RL)
theorem reads_trip {P : Facts} {h : Heap} (ok : ∀ a o, P a o → h.get? a = some o) {v : Value} {t : Trip} (R : Rep c P v (T3 t)) : Reads h v (P3 t) [] := by
  obtain ⟨a, vs, n, rfl, hp, RL⟩ := R.tup_inv
  have := reads_ints (c := c) (h := h) (ns := [t.1, t.2.1, t.2.2]) RL
  exact .tuple (ok _ _ hp) rfl rfl (by simpa using this)
theorem reads_trips {P : Facts} {h : Heap} (ok : ∀ a o, P a o → h.get? a = some o) : ∀ {vs : List Value} {ts : List Trip}, RepL c P vs (ts.map T3) → ReadsAll h vs (ts.map P3) [] := by
  intro vs ts
  induction ts generalizing vs with
  | nil => intro hr; obtain rfl := hr.nil_inv; exact .nil
  | cons t ts ih =>
    intro hr
    obtain ⟨_, _, rfl, R, RL⟩ := hr.cons_inv
    exact ReadsAll.cons (as := []) (bs := []) (reads_trip ok R) (ih RL)
theorem reads_list {P : Facts} {h : Heap} (ok : ∀ a o, P a o → h.get? a = some o) {v : Value} {ds : List D} {xs : List PyData} (R : Rep c P v (.list ds)) (H : ∀ vs, RepL c P vs ds → ReadsAll h vs xs []) : ∃ as, Reads h v (.list xs) as := by
  cases R with
  | list hp RL => exact ⟨_, .list (ok _ _ hp) rfl rfl (by simpa using H _ RL)⟩

theorem lay_ints : ∀ ns : List Int, PyData.canLayAll0 (ns.map PyData.int) = true
  | [] => rfl
  | n :: ns => by rw [List.map_cons, PyData.canLayAll0, lay_ints ns]; rfl
theorem lay_trips : ∀ ts : List Trip, PyData.canLayAll0 (ts.map P3) = true
  | [] => rfl
  | n :: ns => by rw [List.map_cons, PyData.canLayAll0, lay_trips ns]; rfl
theorem deep_ints : ∀ ns : List Int, PyData.depthAll (ns.map PyData.int) = 0
  | [] => rfl
  | n :: ns => by rw [List.map_cons, PyData.depthAll, deep_ints ns]; rfl
theorem deep_trips : ∀ ts : List Trip, PyData.depthAll (ts.map P3) ≤ 1
  | [] => Nat.zero_le _
  | n :: ns => by rw [List.map_cons, PyData.depthAll]; exact Nat.max_le.mpr ⟨Nat.le_refl _, deep_trips ns⟩
theorem eqv_ints : ∀ ns ms : List Int, PyData.eqvAll (ns.map PyData.int) (ms.map PyData.int) = decide (ns = ms)
  | [], [] => rfl
  | [], _ :: _ => by simp [PyData.eqvAll]
  | _ :: _, [] => by simp [PyData.eqvAll]
  | n :: ns, m :: ms => by
    simp only [List.map_cons, PyData.eqvAll, PyData.eqv, eqv_ints ns ms]
    by_cases h1 : n = m <;> by_cases h2 : ns = ms <;> simp [h1, h2]
theorem eqv_trip (s t : Trip) : PyData.eqv (P3 s) (P3 t) = decide (s = t) := by
  have := eqv_ints [s.1, s.2.1, s.2.2] [t.1, t.2.1, t.2.2]
  simp only [List.map_cons, List.map_nil] at this
  simp only [P3, PyData.eqv, this]
  obtain ⟨a, b, d⟩ := s
  obtain ⟨a', b', d'⟩ := t
  simp
theorem eqv_trips : ∀ ns ms : List Trip, PyData.eqvAll (ns.map P3) (ms.map P3) = decide (ns = ms)
  | [], [] => rfl
  | [], _ :: _ => by simp [PyData.eqvAll]
  | _ :: _, [] => by simp [PyData.eqvAll]
  | n :: ns, m :: ms => by
    simp only [List.map_cons, PyData.eqvAll, eqv_trip, eqv_trips ns ms]
    by_cases h1 : n = m <;> by_cases h2 : ns = ms <;> simp [h1, h2]
theorem cmp_eq {P : Facts} {s : Shared} {u v : Value} {xs ys : List PyData} (hu : A.units + 10 < cLine) (ru : ∃ as, Reads s.heap u (.list xs) as) (rv : ∃ as, Reads s.heap v (.list ys) as) (hx : PyData.canLayAll0 xs = true) (hy : PyData.canLayAll0 ys = true) (hd : PyData.depthAll xs ≤ 5)
    {Q : Value → Shared → Prop} {E : Value → Shared → Prop} (q : Q (.bool (PyData.eqvAll xs ys)) s) : wpAny c.M A (compareOp .Eq u v) Q E s := by
  obtain ⟨as, ru⟩ := ru
  obtain ⟨bs, rv⟩ := rv
  exact SeqAt.compareEq_reads ru rv hx hy (by have : (PyData.list xs).depth = PyData.depthAll xs + 1 := rfl; (first | lia | omega)) q
theorem cmp_ne {P : Facts} {s : Shared} {u v : Value} {xs ys : List PyData} (hu : A.units + 10 < cLine) (ru : ∃ as, Reads s.heap u (.list xs) as) (rv : ∃ as, Reads s.heap v (.list ys) as) (hx : PyData.canLayAll0 xs = true) (hy : PyData.canLayAll0 ys = true) (hd : PyData.depthAll xs ≤ 5)
    {Q : Value → Shared → Prop} {E : Value → Shared → Prop} (q : Q (.bool (!PyData.eqvAll xs ys)) s) : wpAny c.M A (compareOp .NotEq u v) Q E s := by
  obtain ⟨as, ru⟩ := ru
  obtain ⟨bs, rv⟩ := rv
  exact SeqAt.compareNe_reads ru rv hx hy (by have : (PyData.list xs).depth = PyData.depthAll xs + 1 := rfl; (first | lia | omega)) q

theorem op_eq_ints {k : Nat} (hA : AOk k A) {ns ms : List Int} : Op2 c A (compareOp .Eq) (.list (ns.map D.int)) (.list (ms.map D.int)) (.bool (decide (ns = ms))) := by
  intro P s u v ok Ru Rv Q E q
  refine cmp_eq (P := P) (by have := hA.units; (first | lia | omega)) (reads_list ok Ru fun _ => reads_ints) (reads_list ok Rv fun _ => reads_ints) (lay_ints _) (lay_ints _) (by rw [deep_ints]; (first | lia | omega)) ?_
  rw [eqv_ints]; exact q _ _ s.toks P (Step.refl ok) (.bool _)
theorem op_ne_ints {k : Nat} (hA : AOk k A) {ns ms : List Int} : Op2 c A (compareOp .NotEq) (.list (ns.map D.int)) (.list (ms.map D.int)) (.bool (!decide (ns = ms))) := by
  intro P s u v ok Ru Rv Q E q
  refine cmp_ne (P := P) (by have := hA.units; (first | lia | omega)) (reads_list ok Ru fun _ => reads_ints) (reads_list ok Rv fun _ => reads_ints) (lay_ints _) (lay_ints _) (by rw [deep_ints]; (first | lia | omega)) ?_
  rw [eqv_ints]; exact q _ _ s.toks P (Step.refl ok) (.bool _)
theorem op_ne_trips {k : Nat} (hA : AOk k A) {ns ms : List Trip} : Op2 c A (compareOp .NotEq) (.list (ns.map T3)) (.list (ms.map T3)) (.bool (!decide (ns = ms))) := by
  intro P s u v ok Ru Rv Q E q
  refine cmp_ne (P := P) (by have := hA.units; (first | lia | omega)) (reads_list ok Ru fun _ => reads_trips ok) (reads_list ok Rv fun _ => reads_trips ok) (lay_trips _) (lay_trips _) (by have := deep_trips ns; (first | lia | omega)) ?_
  rw [eqv_trips]; exact q _ _ s.toks P (Step.refl ok) (.bool _)
theorem op_in_ints {k : Nat} (hA : AOk k A) {n : Int} {ms : List Int} : Op2 c A (compareOp .In) (.int n) (.list (ms.map D.int)) (.bool (decide (n ∈ ms))) := by
  intro P s u v ok Ru Rv Q E q
  cases Ru with
  | int _ t =>
    obtain ⟨as, rv⟩ := reads_list ok Rv fun _ => reads_ints
    refine SeqAt.in_list_reads rv (.int n t) (lay_ints _) rfl (by rw [deep_ints]; have := hA.units; (first | lia | omega)) ?_
    have e : ((ms.map PyData.int).any fun y => PyData.eqv y (.int n)) = decide (n ∈ ms) := by
      rw [Bool.eq_iff_iff]
      simp only [List.any_eq_true, List.mem_map, decide_eq_true_eq]
      constructor
      · rintro ⟨_, ⟨m, hm, rfl⟩, h⟩
        simp [PyData.eqv] at h
        exact h ▸ hm
      · intro h; exact ⟨_, ⟨n, h, rfl⟩, by simp [PyData.eqv]⟩
    rw [e]; exact q _ _ s.toks P (Step.refl ok) (.bool _)
theorem op_notin_trips {k : Nat} (hA : AOk k A) {t : Trip} {ts : List Trip} : Op2 c A (compareOp .NotIn) (T3 t) (.list (ts.map T3)) (.bool (!decide (t ∈ ts))) := by
  intro P s u v ok Ru Rv Q E q
  obtain ⟨as, rv⟩ := reads_list ok Rv fun _ => reads_trips ok
  refine SeqAt.notIn_list_reads rv (reads_trip ok Ru) (lay_trips _) rfl (by have := deep_trips ts; have := hA.units; (first | lia | omega)) ?_
  have e : ((ts.map P3).any fun y => PyData.eqv y (P3 t)) = decide (t ∈ ts) := by
    rw [Bool.eq_iff_iff]
    simp only [List.any_eq_true, List.mem_map, decide_eq_true_eq]
    constructor
    · rintro ⟨_, ⟨m, hm, rfl⟩, h⟩
      rw [eqv_trip, decide_eq_true_eq] at h
      exact h ▸ hm
    · intro h; exact ⟨_, ⟨t, h, rfl⟩, by simp [eqv_trip]⟩
  rw [e]; exact q _ _ s.toks P (Step.refl ok) (.bool _)
end
end
section
set_option maxRecDepth 100000
noncomputable def rng (a : Int) (n : Nat) : List Int := (List.range n).map fun (i : Nat) => a + i
theorem rangeD_rng (a : Int) (n : Nat) : rangeD a 1 n = (rng a n).map D.int := by
  unfold rangeD rng; rw [List.map_map]; apply List.map_congr_left; intro i _; simp
noncomputable def onInt (p : Int → Bool) : D → Bool
  | .int k => p k
  | _ => false
theorem filter_onInt (p : Int → Bool) : ∀ ns : List Int, ((ns.map D.int).filter (onInt p)).map id = (ns.filter p).map D.int
  | [] => rfl
  | n :: ns => by
    have ih := filter_onInt p ns
    rw [List.map_id] at ih ⊢
    rw [List.map_cons, List.filter_cons, List.filter_cons, ih]
    show (if p n = true then _ else _) = _
    split <;> simp
theorem mem_rng {a k : Int} {n : Nat} : k ∈ rng a n ↔ a ≤ k ∧ k < a + n := by
  unfold rng
  simp only [List.mem_map, List.mem_range]
  constructor
  · rintro ⟨i, h, rfl⟩; (first | lia | omega)
  · rintro ⟨h1, h2⟩; exact ⟨(k - a).toNat, by first | lia | omega, by first | lia | omega⟩

noncomputable def primeF (word : List Nat) : Bool := decide ((rng 1 (word.length - 1)).filter (fun k => !decide (word < word.drop k.toNat)) = [])

theorem fn_twice (w : World) (mb : Str → Option Value) (half st : List Nat) (h1 : half.length < 1000) (h2 : st.length < 1000) : Fn (cx2 w mb) 2 50 [.str half, .str st] (.bool (matchF (half ++ [46, 46, 46] ++ half) st)) := by
  have hSL := sizeLine_val
  refine fn_intro (xs := ["half", "stretch"]) rfl rfl rfl rfl rfl rfl rfl rfl ?_ rfl (by decide +kernel) rfl rfl rfl ?_
  · intro vals h
    obtain ⟨_, _, rfl⟩ := len2 h; exact rfl
  intro A L hA
  exact ex_return (ev_call (f := 29) rfl rfl rfl rfl (by walk_at "mevl") (fn_match w mb _ _ (by simp; (first | lia | omega)) (by first | lia | omega)) hA (.inr ⟨_, _, rfl⟩) (by decide +kernel)) rfl

theorem fn_prime (w : World) (mb : Str → Option Value) (word : List Nat) (hl : word.length ≤ 1000) : Fn (cx2 w mb) 1 62 [.str word] (.bool (primeF word)) := by
  have hSL := sizeLine_val
  refine fn_intro (xs := ["word"]) rfl rfl rfl rfl rfl rfl rfl rfl ?_ rfl (by decide +kernel) rfl rfl rfl ?_
  · intro vals h
    obtain ⟨_, rfl⟩ := len1 h; exact rfl
  intro A L hA
  have hr : ∀ n : Nat, rangeD 1 1 (((n : Int) - 1).toNat) = (rng 1 (n - 1)).map D.int := by intro n; rw [rangeD_rng]; congr 2; (first | lia | omega)
  refine ex_return (ev_cmp (a := .list (((rng 1 (word.length - 1)).filter (fun k => !decide (word < word.drop k.toNat))).map D.int)) (b := .list (([] : List Int).map D.int)) ?_ (by walk_at "mev") (op_eq_ints hA)) rfl
  rw [← filter_onInt, ← hr]
  refine ev_listcomp (σc := [("word", .val (.str word))]) (cl := [(Str.ofString "word", L + 1)]) (onInt fun k => !decide (word < word.drop k.toNat)) id (det_range _ _ _) (evi_range2 hA.handled rfl rfl (by walk_at "mev") (by walk_at "mev") (by first | lia | omega) (by first | lia | omega)) ⟨by walk_at "msub", ?_, ?_⟩ ?_ ?_ ?_ ?_ rfl ?_ rfl ?_ rfl
  · intro y d h; simp at h
  · intro p hp; rw [List.mem_singleton.mp hp]; exact ⟨rfl, rfl, rfl⟩
  · intro C d hd
    rw [hr] at hd
    obtain ⟨k, hk, rfl⟩ := List.mem_map.mp hd
    have hk' := mem_rng.mp hk
    show EvT _ _ _ _ _ (!decide (word < word.drop k.toNat))
    rw [← sliceL_n0 word (show 0 ≤ k by first | lia | omega)]
    walk_at "mevt"
  · intro C d hd _
    walk_at "mev"
  · intro d hd
    rw [hr] at hd
    obtain ⟨k, hk, rfl⟩ := List.mem_map.mp hd
    trivial
  · rw [hr]; simp [rng]; (first | lia | omega)
  · decide +kernel
  · decide +kernel
end
section
set_option maxRecDepth 100000
noncomputable def goL (t : List Nat) (p : Nat) : Nat → Nat
  | 0 => 0
  | i + 1 => if t[i]? = t[i + p]? then goL t p i else i + 1
noncomputable def goR (t : List Nat) (p : Nat) : Nat → Nat → Nat
  | 0, j => j
  | n + 1, j => if t[j]? = t[j - p]? then goR t p n (j + 1) else j
theorem goL_le (t : List Nat) (p : Nat) : ∀ i, goL t p i ≤ i
  | 0 => Nat.le_refl _
  | i + 1 => by unfold goL; split; exact Nat.le_succ_of_le (goL_le t p i); exact Nat.le_refl _
theorem goR_le (t : List Nat) (p : Nat) : ∀ n j, j ≤ goR t p n j ∧ goR t p n j ≤ j + n
  | 0, j => ⟨Nat.le_refl _, Nat.le_refl _⟩
  | n + 1, j => by unfold goR; split; have := goR_le t p n (j + 1); (first | lia | omega); (first | lia | omega)
noncomputable def ledF (t : List Nat) (i j : Nat) : Trip := ((goL t (j - i) i : Nat), (goR t (j - i) (t.length - j) j : Nat), ((j - i : Nat) : Int))

theorem fn_led (w : World) (mb : Str → Option Value) (t : List Nat) (i j : Nat) (hl : t.length ≤ 1000) (hij : i < j) (hj : j ≤ t.length) : Fn (cx2 w mb) 1 69 [.str t, .int i, .int j] (T3 (ledF t i j)) := by
  have hSL := sizeLine_val
  refine fn_intro (xs := ["text", "i", "j"]) rfl rfl rfl rfl rfl rfl rfl rfl ?_ rfl (by decide +kernel) rfl rfl rfl ?_
  · intro vals h
    obtain ⟨_, _, _, rfl⟩ := len3 h; exact rfl
  intro A L hA
  refine ex_assign (d := .int ((j - i : Nat) : Int)) (by rw [Int.ofNat_sub (by first | lia | omega)]; walk_at "mev") (.inl rfl) (by walk_at "mset") ?_
  unfold ledF
  have hp1 : 1 ≤ j - i := by first | lia | omega
  have hpl : i + (j - i) ≤ t.length := by first | lia | omega
  have hpj : j - i ≤ j := by first | lia | omega
  generalize j - i = p at hp1 hpl hpj
  refine ex_while (J := fun n σ => n ≤ i ∧ goL t p n = goL t p i ∧ σ = [("text", .val (.str t)), ("i", .val (.int n)), ("j", .val (.int j)), ("p", .val (.int p))]) (n := i) ⟨Nat.le_refl _, rfl, rfl⟩ (fun σ => σ = [("text", .val (.str t)), ("i", .val (.int (goL t p i : Nat))), ("j", .val (.int j)), ("p", .val (.int p))]) ?_ ?_
  · rintro n σ' ⟨hn, hg, rfl⟩
    refine ⟨decide ((n : Int) > 0) && decide (t[n - 1]? = t[n - 1 + p]?), ?_, ?_, ?_⟩
    · refine evt_and (by walk_at "mevt") fun hb => ?_
      simp only [decide_eq_true_eq] at hb
      have h1 : n - 1 < t.length := by first | lia | omega
      have h2 : n - 1 + p < t.length := by first | lia | omega
      have e : decide (t[n - 1]? = t[n - 1 + p]?) = decide ([t[n - 1]] = [t[n - 1 + p]]) := by rw [List.getElem?_eq_getElem h1, List.getElem?_eq_getElem h2]; simp
      rw [e]
      exact evt_cmp (ev_item_str (l := t) (i := (n : Int) - 1) (by walk_at "mev") (by walk_at "mev") (item_at (by first | lia | omega) h1) (by first | lia | omega)) (ev_item_str (l := t) (i := (n : Int) - 1 + p) (by walk_at "mev") (by walk_at "mev") (item_at (by first | lia | omega) h2) (by first | lia | omega)) op_eq_str
    · intro hb
      simp only [Bool.and_eq_true, decide_eq_true_eq] at hb
      obtain ⟨m, rfl⟩ : ∃ m, n = m + 1 := ⟨n - 1, by first | lia | omega⟩
      refine ex_aug (a := .int ((m + 1 : Nat) : Int)) (d := .int m) (by walk_at "mmem") (by walk_at "mev") ?_ (.inl rfl) (by walk_at "mset") (ex_nil ⟨m, by first | lia | omega, by first | lia | omega, ?_, rfl⟩)
      · have := op_isub_int (c := cx2 w mb) (A := A) (a := ((m + 1 : Nat) : Int)) (b := 1)
        rwa [show ((m + 1 : Nat) : Int) - 1 = m from by first | lia | omega] at this
      · rw [← hg, goL, if_pos (by simpa using hb.2)]
    · intro hb
      rw [← hg]
      cases n with
      | zero => rfl
      | succ m =>
        rw [goL, if_neg]
        simpa using hb
  · rintro σ' rfl
    have hgl := goL_le t p i
    refine ex_while (J := fun n σ => ∃ k : Nat, n = t.length - k ∧ j ≤ k ∧ k ≤ t.length ∧ goR t p n k = goR t p (t.length - j) j ∧ σ = [("text", .val (.str t)), ("i", .val (.int (goL t p i : Nat))), ("j", .val (.int k)), ("p", .val (.int p))]) (n := t.length - j) ⟨j, rfl, Nat.le_refl _, hj, rfl, rfl⟩ (fun σ => σ = [("text", .val (.str t)), ("i", .val (.int (goL t p i : Nat))), ("j", .val (.int (goR t p (t.length - j) j : Nat))), ("p", .val (.int p))]) ?_ ?_
    · rintro n σ' ⟨k, rfl, hjk, hk, hg, rfl⟩
      refine ⟨decide ((k : Int) < t.length) && decide (t[k]? = t[k - p]?), ?_, ?_, ?_⟩
      · refine evt_and (by walk_at "mevt") fun hb => ?_
        simp only [decide_eq_true_eq] at hb
        have h1 : k < t.length := by first | lia | omega
        have h2 : k - p < t.length := by first | lia | omega
        have e : decide (t[k]? = t[k - p]?) = decide ([t[k]] = [t[k - p]]) := by rw [List.getElem?_eq_getElem h1, List.getElem?_eq_getElem h2]; simp
        rw [e]
        exact evt_cmp (ev_item_str (l := t) (i := (k : Int)) (by walk_at "mev") (by walk_at "mev") (item_at rfl h1) (by first | lia | omega)) (ev_item_str (l := t) (i := (k : Int) - p) (by walk_at "mev") (by walk_at "mev") (item_at (by first | lia | omega) h2) (by first | lia | omega)) op_eq_str
      · intro hb
        simp only [Bool.and_eq_true, decide_eq_true_eq] at hb
        refine ex_aug (a := .int (k : Int)) (d := .int ((k + 1 : Nat) : Int)) (by walk_at "mmem") (by walk_at "mev") op_iadd_int (.inl rfl) (by walk_at "mset") (ex_nil ⟨t.length - (k + 1), by first | lia | omega, k + 1, rfl, by first | lia | omega, by first | lia | omega, ?_, rfl⟩)
        rw [← hg, show t.length - k = (t.length - (k + 1)) + 1 from by first | lia | omega, goR, if_pos hb.2]
      · intro hb
        rw [← hg]
        rcases Nat.lt_or_ge k t.length with h | h
        · rw [show t.length - k = (t.length - (k + 1)) + 1 from by first | lia | omega, goR, if_neg]
          simp only [Bool.and_eq_false_iff, decide_eq_false_iff_not] at hb
          rcases hb with hb | hb
          · (first | lia | omega)
          · exact hb
        · rw [show t.length - k = 0 from by first | lia | omega, goR]
    · rintro σ' rfl
      exact ex_return (by walk_at "mev") rfl
end
section
set_option maxRecDepth 100000

theorem list_fillsI : fillsInplaceSlot (.type "list") "add" true = pure false := by
  unfold fillsInplaceSlot
  show (typeLookup (.type "list") (dunderI "add") >>= fun fi => pure (fi.isSome && !isSeqSlot fi)) = pure false
  rw [F.slot_list_iadd.lookup]; kernel_rfl
theorem list_seqI : seqSlot? (.type "list") (dunderI "add") = pure (some (.builtin "list.__iadd__")) := by
  unfold seqSlot?
  rw [F.slot_list_iadd.lookup]; kernel_rfl

section
variable {c : Cx} {A : Around} {env : Env} {σ : Sto} {rest : List Stmt} {N : Sto → Prop} {R : D → Prop}

theorem iadd_lists {s : Shared} {l b : Addr} {us vs : List Value} {n k : Nat} {Q : Value → Shared → Prop} {E : Value → Shared → Prop} (hl : s.heap.get? l = some (listO us n)) (hb : s.heap.get? b = some (listO vs k)) (hsz : us.length + vs.length ≤ 1000000)
    (q : Q (.ref l) { s with heap := s.heap.update l (Obj.mapSeq fun x => x ++ vs.toArray) }) : wpAny c.M A (inplaceOp .Add (.ref l) (.ref b)) Q E s := by
  have hT : s.TypeIs (.ref l) "list" := ⟨_, hl, rfl⟩
  have hU : s.TypeIs (.ref b) "list" := ⟨_, hb, rfl⟩
  have hSL := sizeLine_val
  unfold inplaceOp
  refine wpAny_holding (wpAny_bind (wpAny_typeOf hT (wpAny_bind (wpAny_of_eq list_fillsI ?_))))
  show wpAny c.M A (if false = true then _ else _) Q E s
  rw [if_neg Bool.false_ne_true]
  refine wpAny_bind (wpAny_binaryOp1_none (nm := "add") hT hU noFill_list_add ?_)
  refine wpAny_bind (wpAny_of_eq list_seqI (wpAny_bind (wpAny_rule ?_)))
  refine call_meets F.slot_list_iadd hT F.entry_list_iadd (F.args_list_iadd_2 _ _) (AutoSeq1.list___iadd___list_list_0 l us.toArray n b vs.toArray k ?_ (by simp; (first | lia | omega)) (by simp; (first | lia | omega))) ⟨hl, hb, q⟩
  simp [Builtin.List.listTooLong, hSL]
  intro _
  (first | lia | omega)

theorem evf_list {es : List Expr} {ds : List D} {pos : Pos} (h : EvL c A env σ pos es ds) (hl : ds.length ≤ sizeLine := by exact Nat.le_of_ble_eq_true rfl) : EvF c A env σ (.List es pos) (.list ds) := by
  intro P s G Q E q
  refine wpAny_List (h P s G _ E fun vs h1 t1 P1 S1 R1 => ⟨by rw [R1.length]; exact hl, ?_⟩)
  have S2 : Step P1 P1 h1 (h1.push (listO vs 0)) := Step.heap S1.ok fun b o e => Heap.get?_push_of_some _ e
  refine q _ _ _ P1 (S1.trans S2) ?_ (fun o ho => ?_) ⟨vs, 0, Heap.get?_push_size _ rfl, R1⟩
  · cases z : s.heap.get? h1.objs.size with
    | none => rfl
    | some o => have := S1.ext _ _ z; rw [fresh_none] at this; cases this
  · have := S1.ok _ _ ho; rw [fresh_none] at this; cases this

theorem op_add_list {a b : List D} (h : a.length + b.length ≤ sizeLine) : Op2 c A (binaryOp .Add) (.list a) (.list b) (.list (a ++ b)) := by
  intro P s u v ok Ru Rv Q E q
  obtain ⟨x, us, n, rfl, hp, RL⟩ := Ru.list_inv
  obtain ⟨y, vs, k, rfl, hp2, RL2⟩ := Rv.list_inv
  refine PySem.P.add_list (items := us.toArray) (items2 := vs.toArray) (ok _ _ hp) (ok _ _ hp2) ?_ (by simp [RL.length, RL2.length]; exact h)
  have S2 := push_step (o := listO (us ++ vs) 0) ok
  have e : (us.toArray ++ vs.toArray) = (us ++ vs).toArray := by simp
  rw [e]
  exact q _ _ s.toks _ S2 (.list (.inr ⟨rfl, rfl⟩) ((RL.append RL2).mono S2.sub))

theorem ev_max {e : Expr} {np pos : Pos} {ns : List Int} {m : Int} (hh : A.handled = none) (hk : env.kindOf (Str.ofString "max") = some .globalImplicit) (hg : c.mg (Str.ofString "max") = none)
    (h : Ev c A env σ e (.list (ns.map D.int))) (hm : m ∈ ns) (hmax : ∀ a ∈ ns, a ≤ m) (he : starEach [e] env = [(false, eval e env)] := by rfl) : Ev c A env σ (.Call (.Name (Str.ofString "max") np) [e] [] pos) (.int m) := by
  refine ev_call_builtin hk hg Boot.«max» (by decide +kernel) (evl_cons h evl_nil he) (.inr ⟨_, _, he⟩) (by rw [he]; rfl) (by decide +kernel) ?_
  intro P s vs ok T RL Q E q
  have hInv := RL.cons_inv; clear RL; obtain ⟨_, _, rfl, R, RL⟩ := hInv
  obtain rfl := RL.nil_inv; clear RL
  obtain ⟨a, us, n, rfl, hp, RL⟩ := R.list_inv
  obtain ⟨xs, e1, e2⟩ : ∃ xs : List (Int × Tok), us = xs.map (fun p => Value.int p.1 p.2) ∧ xs.map (·.1) = ns := by
    clear hm hmax hp q h R
    induction ns generalizing us with
    | nil => cases RL; exact ⟨[], rfl, rfl⟩
    | cons k ns ih =>
      have hInv := RL.cons_inv; clear RL; obtain ⟨_, _, rfl, R1, RL⟩ := hInv
      obtain ⟨xs, rfl, rfl⟩ := ih _ RL
      obtain ⟨t, rfl⟩ := R1.int_inv
      exact ⟨(k, t) :: xs, rfl, rfl⟩
  have hne : 0 < ns.length := List.length_pos_of_mem hm
  have hl : s.heap.IsList a (intItems xs.toArray) := by
    have := isList_of ok hp
    rwa [e1, show (xs.map fun p => Value.int p.1 p.2).toArray = intItems xs.toArray from by simp [intItems]] at this
  have hxl : xs.length = ns.length := by rw [← e2]; simp
  refine max_intList hh hl (by simp; (first | lia | omega)) fun v h' tk hv hk => ?_
  obtain ⟨t, rfl⟩ := intItems_at hv
  obtain ⟨h1, h2⟩ := argBest_gt (numAt xs.toArray) (xs.toArray.size - 1)
  have hnum : ∀ j, numAt xs.toArray j = ns.getD j 0 := by intro j; rw [numAt_eq]; simp [e2]
  have hb : numAt xs.toArray (argBest (fun i j => decide (numAt xs.toArray i > numAt xs.toArray j)) (xs.toArray.size - 1)) = m := by
    generalize argBest (fun i j => decide (numAt xs.toArray i > numAt xs.toArray j)) (xs.toArray.size - 1) = best at h1 h2
    simp only [List.size_toArray, hxl] at h1 h2
    obtain ⟨j, hj, hjm⟩ := List.mem_iff_getElem.mp hm
    have hx := h2 j (by first | lia | omega)
    rw [hnum, hnum] at hx
    rw [hnum]
    have hbl : best < ns.length := by first | lia | omega
    have e3 : ns.getD best 0 = ns[best] := by simp [hbl]
    have e4 : ns.getD j 0 = m := by simp [hj, hjm]
    rw [e4, e3] at hx
    rw [e3]
    have := hmax ns[best] (List.getElem_mem hbl)
    (first | lia | omega)
  rw [hb]
  exact q _ _ _ P (Step.heap ok hk) (.int _ _)

theorem evt_cmp_own {l : Expr} {x : String} {p pos : Pos} {op : CmpOp} {a : D} {ds : List D} {b : Bool} (hl : Ev c A env σ l a) (hx : (x, Slot.own (.list ds)) ∈ σ) (H : Op2 c A (compareOp op) a (.list ds) (.bool b)) (hd : ((Str.ofString x) == ("__debug__" : Str)) = false := by decide +kernel) (hb : behindInMarks op (.Name (Str.ofString x) p) = false := by rfl) :
    EvT c A env σ (.Compare l [op] [.Name (Str.ofString x) p] pos) b := by
  intro P s G Q E k
  refine wpAny_isTrue_Compare1 (hl.val G fun u h1 t1 P1 S1 G1 R1 => ?_) hb
  obtain ⟨ad, V, hnP, vs, n, ho, RL⟩ := G1.owns _ _ hx
  refine load_own G1 V hd ?_
  let P2 : Facts := fun b o => P1 b o ∨ (b = ad ∧ o = listO vs n)
  have hs : ∀ b o, P1 b o → P2 b o := fun _ _ h => .inl h
  refine H P2 _ u (.ref ad) (fun b o h => ?_) (R1.mono hs) (.list (.inr ⟨rfl, rfl⟩) (RL.mono hs)) _ E fun r h3 t3 P3 S3 R3 => ?_
  · rcases h with h | ⟨rfl, rfl⟩
    · exact G1.ok _ _ h
    · exact ho
  · obtain rfl := R3.bool_inv
    exact wpAny_truthy_bool (k h3 t3 P1 (S1.trans (Step.heap S1.ok S3.ext)))

theorem del_del (σ : Sto) (x : String) : del (del σ x) x = del σ x := by
  induction σ with
  | nil => rfl
  | cons p r ih =>
    obtain ⟨y, u⟩ := p
    simp only [del]
    split
    · exact ih
    · rename_i h; simp only [del, if_neg h, ih]
theorem set_set (σ : Sto) (x : String) (u v : Slot) : set (set σ x u) x v = set σ x v := by
  induction σ with
  | nil => simp [set, del]
  | cons p r ih =>
    obtain ⟨y, w⟩ := p
    simp only [set]
    split
    · simp only [set, if_true, del_del]
    · rename_i h; simp only [set, if_neg h, ih]
theorem mem_set_self (σ : Sto) (x : String) (u : Slot) : (x, u) ∈ set σ x u := by
  induction σ with
  | nil => exact .head _
  | cons p r ih =>
    obtain ⟨y, w⟩ := p
    simp only [set]
    split
    · exact .head _
    · exact .tail _ ih

theorem ex_iadd_own {x : String} {e : Expr} {p pos : Pos} {ds es : List D} {σ' : Sto} (hx : (x, Slot.own (.list ds)) ∈ σ) (he : Ev c A env σ e (.list es)) (hs : StoreOk env x) (hlen : ds.length + es.length ≤ 1000000)
    (hσ : set σ x (.own (.list (ds ++ es))) = σ') (h : Ex c A env σ' rest N R) : Ex c A env σ (.AugAssign (.Name (Str.ofString x) p) .Add e pos :: rest) N R := by
  subst hσ
  refine ex_seq (N1 := fun σ' => σ' = set σ x (.own (.list (ds ++ es)))) (fun s₀ P₀ P s F Q E kn kr => ?_) (fun σ' e => e ▸ h)
  obtain ⟨ad, V, hnP, us, n, ho, RL⟩ := F.good.owns _ _ hx
  have go : ∀ Q' : Value → Shared → Prop, Q' (.ref ad) s → wpAny c.M A (loadName env (Str.ofString x)) Q' E s := by
    intro Q' q
    rcases V with ⟨h1, m, h2, h3⟩ | ⟨h1, a, h2, h3⟩
    · exact wpAny_loadName_local F.good.eok.kind h1 h2 h3 q
    · exact wpAny_loadName_cell F.good.eok.kind h1 h2 h3 q
  refine wpAny_AugAssign_Name (go _ (he.val F.good fun u h1 t1 P1 S1 G1 R1 => ?_))
  obtain ⟨b, vs, k, rfl, hp, RL2⟩ := R1.list_inv
  have ho1 : h1.get? ad = some (listO us n) := S1.ext _ _ ho
  refine iadd_lists ho1 (S1.ok _ _ hp) (by rw [RL.length, RL2.length]; (first | lia | omega)) ?_
  have hself := Heap.get?_update_self (Obj.mapSeq fun x => x ++ vs.toArray) ho1 rfl
  have F1 := F.step (tk := t1) S1
  have F2 := F1.mutate (tk := t1) (d' := .list (ds ++ es)) hx (V.keeps S1.ext) (h' := h1.update ad (Obj.mapSeq fun x => x ++ vs.toArray)) (fun b o hb e => (Heap.get?_update_other _ _ (fun h => hb h.symm)).trans e)
    ⟨us ++ vs, _, by
      rw [hself]
      simp only [Obj.mapSeq, listO]
      congr 2
      simp
      rfl, (RL.mono S1.sub).append RL2⟩
  obtain ⟨a', V', hnP', O'⟩ := F2.good.owns x _ (mem_set_self _ _ _)
  have V2 : VarIs env (h1.update ad (Obj.mapSeq fun x => x ++ vs.toArray)) (Str.ofString x) (.ref ad) := by
    obtain ⟨_, haL⟩ := F.ownF x _ ad hx V
    have up : ∀ b o, b ≠ ad → s.heap.get? b = some o → (h1.update ad (Obj.mapSeq fun x => x ++ vs.toArray)).get? b = some o := fun b o hb e => (Heap.get?_update_other _ _ (fun h => hb h.symm)).trans (S1.ext _ _ e)
    rcases V with ⟨k1, m, k2, k3⟩ | ⟨k1, a, k2, k3⟩
    · exact .inl ⟨k1, m, k2.at' fun o e => up _ o (fun h => haL h.symm) e, k3⟩
    · have hne : a ≠ ad := cell_ne_data (d := .list ds) k3 ⟨us, n, ho, RL⟩
      obtain ⟨o, ho', hd'⟩ := k3
      exact .inr ⟨k1, a, k2, o, up _ o hne ho', hd'⟩
  have := V'.det V2; cases this
  obtain ⟨ha0, haL⟩ := F2.ownF x _ ad (mem_set_self _ _ _) V2
  refine F2.store (u := .own (.list (ds ++ es))) hs ⟨ad, rfl, hnP', O', ha0, haL, fun y d' hy hm b W e => ?_⟩ fun h' tk F' => ?_
  · subst e
    exact hy (F2.ownA y x _ _ _ hm (mem_set_self _ _ _) W V2)
  · rw [set_set] at F'
    exact kn _ P1 h' tk rfl S1.sub F'
end
end
section
set_option maxRecDepth 100000
noncomputable def topI (p : Nat → Bool) (k : Nat) : Nat → Nat
  | 0 => k
  | d + 1 => if p (k + d + 1) then k + d + 1 else topI p k d
theorem topI_spec (p : Nat → Bool) (k : Nat) : ∀ d, (∃ j, k < j ∧ j ≤ k + d ∧ p j = true) → (k < topI p k d ∧ topI p k d ≤ k + d ∧ p (topI p k d) = true) ∧ ∀ j, j ≤ k + d → p j = true → k < j → j ≤ topI p k d
  | 0, h => by obtain ⟨j, h1, h2, _⟩ := h; (first | lia | omega)
  | d + 1, h => by
    unfold topI
    by_cases hp : p (k + d + 1) = true
    · rw [if_pos hp]
      exact ⟨⟨by first | lia | omega, by first | lia | omega, hp⟩, fun j hj _ _ => by first | lia | omega⟩
    · rw [if_neg hp]
      have h' : ∃ j, k < j ∧ j ≤ k + d ∧ p j = true := by
        obtain ⟨j, h1, h2, h3⟩ := h
        refine ⟨j, h1, ?_, h3⟩
        rcases Nat.lt_or_ge j (k + d + 1) with h4 | h4
        · (first | lia | omega)
        · have : j = k + d + 1 := by first | lia | omega
          rw [this] at h3; exact absurd h3 hp
      obtain ⟨⟨a, b, c⟩, e⟩ := topI_spec p k d h'
      refine ⟨⟨a, by first | lia | omega, c⟩, fun j hj hpj hk => e j ?_ hpj hk⟩
      rcases Nat.lt_or_ge j (k + d + 1) with h4 | h4
      · (first | lia | omega)
      · have : j = k + d + 1 := by first | lia | omega
        rw [this] at hpj; exact absurd hpj hp

noncomputable def lastF (order : List Nat) (k : Nat) : Nat := topI (fun j => primeF ((order.take j).drop k)) k (order.length - k)
noncomputable def byStep (text order : List Nat) (found : List Trip) (k : Nat) : List Trip :=
  if (ledF text k (lastF order k)).2.1 - (ledF text k (lastF order k)).1 ≥ 2 * (ledF text k (lastF order k)).2.2 ∧ ledF text k (lastF order k) ∉ found then found ++ [ledF text k (lastF order k)] else found
noncomputable def byF (text order : List Nat) : List Trip := (List.range text.length).foldl (byStep text order) []

theorem primeF_one (l : List Nat) (h : l.length ≤ 1) : primeF l = true := by
  unfold primeF
  rw [show l.length - 1 = 0 from by first | lia | omega]; rfl
theorem lastF_spec (order : List Nat) (k : Nat) (hk : k < order.length) : (k < lastF order k ∧ lastF order k ≤ order.length ∧ primeF ((order.take (lastF order k)).drop k) = true) ∧ ∀ j, j ≤ order.length → primeF ((order.take j).drop k) = true → k < j → j ≤ lastF order k := by
  have h := topI_spec (fun j => primeF ((order.take j).drop k)) k (order.length - k) ⟨k + 1, by first | lia | omega, by first | lia | omega, primeF_one _ (by simp; (first | lia | omega))⟩
  rw [show k + (order.length - k) = order.length from by first | lia | omega] at h
  exact h
theorem byF_len (text order : List Nat) : ∀ (n : Nat) , ((List.range n).foldl (byStep text order) []).length ≤ n := by
  intro n
  induction n with
  | zero => simp
  | succ n ih =>
    rw [List.range_succ, List.foldl_append, List.foldl_cons, List.foldl_nil]
    generalize (List.range n).foldl (byStep text order) [] = found at ih
    unfold byStep
    split
    · simp; (first | lia | omega)
    · (first | lia | omega)

theorem fn_by (w : World) (mb : Str → Option Value) (text order : List Nat) (hl : text.length ≤ 1000) (ho : order.length = text.length) : Fn (cx2 w mb) 2 74 [.str text, .str order] (.list ((byF text order).map T3)) := by
  have hSL := sizeLine_val
  refine fn_intro (xs := ["text", "order"]) rfl rfl rfl rfl rfl rfl rfl rfl ?_ rfl (by decide +kernel) rfl rfl rfl ?_
  · intro vals h
    obtain ⟨_, _, rfl⟩ := len2 h; exact rfl
  intro A L hA
  refine ex_assign_own (d := .list []) (evf_list evl_nil) (.inl rfl) (by walk_at "mset") ?_
  refine ex_for (J := fun i σ => σ = [("text", .val (.str text)), ("order", .val (.str order)), ("found", .own (.list (((List.range i).foldl (byStep text order) []).map T3)))]) (f := fun d σ => set σ "k" (.val d)) (evi_range1 hA.handled rfl rfl (b := text.length) (by walk_at "mev") (by first | lia | omega)) (fun d _ => binds_name (by (first | exact Or.inl rfl | exact Or.inr ⟨rfl, rfl⟩))) rfl ?_ ?_
  · rintro i d σ' hd rfl
    obtain ⟨hi, rfl⟩ := rangeD_get hd
    have hi' : i < text.length := by first | lia | omega
    rw [List.range_succ, List.foldl_append, List.foldl_cons, List.foldl_nil]
    have hfl := byF_len text order i
    generalize (List.range i).foldl (byStep text order) [] = found at hfl
    refine ex_conv (show Mine.set _ "k" _ = _ by walk_at "mset") ?_
    rw [show (0 + (i : Int) * 1) = (i : Int) from by first | lia | omega]
    obtain ⟨⟨l1, l2, l3⟩, l4⟩ := lastF_spec order i (by first | lia | omega)
    unfold byStep
    generalize lastF order i = last at l1 l2 l3 l4
    refine ex_assign (d := .int last) (ev_max hA.handled rfl rfl (ns := (rng ((i : Int) + 1) (text.length - i)).filter fun j => primeF ((order.take j.toNat).drop i)) ?_ ?_ ?_) (by (first | exact Or.inl rfl | exact Or.inr ⟨rfl, rfl⟩)) (by walk_at "mset") ?_
    · have hr : rangeD ((i : Int) + 1) 1 (((text.length : Int) + 1 - ((i : Int) + 1)).toNat) = (rng ((i : Int) + 1) (text.length - i)).map D.int := by rw [rangeD_rng]; congr 2; (first | lia | omega)
      rw [← filter_onInt, ← hr]
      refine ev_listcomp (σc := [("order", .val (.str order)), ("k", .val (.int i))]) (onInt fun j => primeF ((order.take j.toNat).drop i)) id (det_range _ _ _) (evi_range2 hA.handled rfl rfl (by walk_at "mev") (by walk_at "mev") (by first | lia | omega) (by first | lia | omega)) ⟨by walk_at "msub", ?_, ?_⟩ ?_ ?_ ?_ ?_ rfl ?_ rfl ?_ rfl
      · intro y d h; simp at h
      · intro p hp
        simp only [List.mem_cons, List.not_mem_nil, or_false] at hp
        rcases hp with rfl | rfl
        · exact ⟨rfl, rfl, rfl⟩
        · exact ⟨rfl, rfl, rfl⟩
      · intro C d hd
        rw [hr] at hd
        obtain ⟨j, hj, rfl⟩ := List.mem_map.mp hd
        have hj' := mem_rng.mp hj
        show EvT _ _ _ _ _ (primeF ((order.take j.toNat).drop i))
        have hsl := sliceL_nn order (i := (i : Int)) (j := j) (by first | lia | omega) (by first | lia | omega)
        rw [show (i : Int).toNat = i from by first | lia | omega] at hsl
        rw [← hsl]
        refine evt_of_ev (ev_call (f := 62) rfl rfl rfl rfl (by walk_at "mevl") (fn_prime w mb _ ?_) hA (.inr ⟨_, _, rfl⟩) (by decide +kernel)) rfl
        have := sliceL_length_le order (some (i : Int)) (some j)
        (first | lia | omega)
      · intro C d hd _
        walk_at "mev"
      · intro d hd
        rw [hr] at hd
        obtain ⟨j, hj, rfl⟩ := List.mem_map.mp hd
        trivial
      · rw [hr]; simp [rng]; (first | lia | omega)
      · decide +kernel
      · decide +kernel
    · rw [List.mem_filter]
      exact ⟨mem_rng.mpr (by first | lia | omega), by simpa using l3⟩
    · intro a ha
      rw [List.mem_filter, mem_rng] at ha
      obtain ⟨⟨h1, h2⟩, h3⟩ := ha
      have := l4 a.toNat (by first | lia | omega) h3 (by first | lia | omega)
      (first | lia | omega)
    have hbnd : ∀ t : Trip, t = ledF text i last → (0 ≤ t.1 ∧ t.1 ≤ 1000) ∧ (0 ≤ t.2.1 ∧ t.2.1 ≤ 2000) ∧ (0 ≤ t.2.2 ∧ t.2.2 ≤ 1000) := by
      rintro t rfl
      unfold ledF
      have := goL_le text (last - i) i
      have := goR_le text (last - i) (text.length - last) last
      simp only
      (first | lia | omega)
    refine ex_assign (d := T3 (ledF text i last)) (ev_call (f := 69) rfl rfl rfl rfl (by walk_at "mevl") (fn_led w mb text i last hl l1 (by first | lia | omega)) hA (.inr ⟨_, _, rfl⟩) (by decide +kernel)) (by (first | exact Or.inl rfl | exact Or.inr ⟨rfl, rfl⟩)) (by walk_at "mset") ?_
    generalize ledF text i last = run at hbnd
    obtain ⟨⟨b1, b2⟩, ⟨b3, b4⟩, b5, b6⟩ := hbnd run rfl
    refine ex_if (b := decide (run.2.1 - run.1 ≥ 2 * run.2.2) && !decide (run ∈ found)) (N1 := fun σ' => σ' = [("text", .val (.str text)), ("order", .val (.str order)), ("found", .own (.list ((if run.2.1 - run.1 ≥ 2 * run.2.2 ∧ run ∉ found then found ++ [run] else found).map T3))), ("k", .val (.int i)), ("last", .val (.int last)), ("run", .val (T3 run))])
      (evt_and (evt_cmp (ev_binop (ev_item_tup (i := 1) (j := 1) (ds := [.int run.1, .int run.2.1, .int run.2.2]) (by walk_at "mev") (by walk_at "mev") rfl rfl (by first | lia | omega)) (ev_item_tup (i := 0) (j := 0) (ds := [.int run.1, .int run.2.1, .int run.2.2]) (by walk_at "mev") (by walk_at "mev") rfl rfl (by first | lia | omega)) op_sub_int)
        (ev_binop (by walk_at "mev") (ev_item_tup (i := 2) (j := 2) (ds := [.int run.1, .int run.2.1, .int run.2.2]) (by walk_at "mev") (by walk_at "mev") rfl rfl (by first | lia | omega)) (op_mul_int ?_)) op_ge_int) fun _ => evt_cmp_own (by walk_at "mev") (by walk_at "mmem") (op_notin_trips hA)) ?_ ?_ ?_
    · exact IntMulOk.of_left (by decide)
    · intro hb
      simp only [Bool.and_eq_true, decide_eq_true_eq, Bool.not_eq_true', decide_eq_false_iff_not] at hb
      refine ex_append (d := T3 run) (by walk_at "mmem") (by walk_at "mev") (by simp; (first | lia | omega)) (by walk_at "mset") (ex_nil ?_)
      rw [if_pos hb, List.map_append]; rfl
    · intro hb
      refine ex_nil ?_
      rw [if_neg]
      rintro ⟨h1, h2⟩
      simp [h1, h2] at hb
    · rintro σ' rfl
      exact ex_end (by walk_at "msub") rfl
  · rintro σ' rfl
    refine ex_freeze (x := "found") (by walk_at "mmem") (by walk_at "mset") (ex_return (by walk_at "mev") ?_)
    rw [rangeD_length]
    unfold byF
    simp
end
section
set_option maxRecDepth 100000
section
variable {c : Cx} {A : Around} {env : Env} {σ : Sto} {rest : List Stmt} {N : Sto → Prop} {R : D → Prop}

theorem own_keepAt {P : Facts} {h h' : Heap} {a : Addr} {d : D} (O : OwnObj c P h a d) (k : ∀ o, h.get? a = some o → h'.get? a = some o) : OwnObj c P h' a d := by
  cases d with
  | list ds => obtain ⟨vs, n, ho, RL⟩ := O; exact ⟨vs, n, k _ ho, RL⟩
  | dict kvs => obtain ⟨vs, n, ho, RL⟩ := O; exact ⟨vs, n, k _ ho, RL⟩
  | _ => exact O.elim

theorem ex_assign_two {x y : String} {elts : List Expr} {k k2 : Nat} {tp pos p1 p2 p3 : Pos} {σ' : Sto} (hh : A.handled = none) (hxy : x ≠ y) (hw : swappedStores [.Tuple elts k tp] (.Tuple [.List [] p1, .List [] p2] k2 p3) env = pure (some [Str.ofString x, Str.ofString y]))
    (hx : StoreOk env x) (hy : StoreOk env y) (hσ : set (set σ y (.own (.list []))) x (.own (.list [])) = σ') (h : Ex c A env σ' rest N R)
    (hs : swapsWithSole [.Tuple elts k tp] (.Tuple [.List [] p1, .List [] p2] k2 p3) pos.line env = pure false := by rfl) :
    Ex c A env σ (.Assign [.Tuple elts k tp] (.Tuple [.List [] p1, .List [] p2] k2 p3) pos :: rest) N R := by
  subst hσ
  refine ex_seq (N1 := fun σ' => σ' = set (set σ y (.own (.list []))) x (.own (.list []))) (fun s₀ P₀ P s F Q E kn kr => ?_) (fun σ' e => e ▸ h)
  have hE : ∀ p, EvF c A env σ (.List [] p) (.list []) := fun p => evf_list evl_nil
  refine Assign_Tuple_swapped (wpAny_Tuple (wpAny_items_cons (hE p1 P s F.good _ E fun a h1 t1 P1 S1 hn1 hP1 O1 => wpAny_items_cons (hE p2 P1 _ (F.good.step (tk := t1) S1) _ E fun b h2 t2 P2 S2 hn2 hP2 O2 => wpAny_items_nil ⟨by rw [sizeLine_val]; exact Nat.le_of_ble_eq_true rfl, ?_⟩)))) hs hw
  have hab : a ≠ b := by
    rintro rfl
    obtain ⟨vs, n, ho, _⟩ := O1
    have hn2' : h1.get? a = none := hn2
    rw [ho] at hn2'; cases hn2'
  refine wpAny_unpackItems_tuple (items := [Value.ref a, Value.ref b].toArray) hh ⟨_, Heap.get?_push_size _ rfl, rfl, 0, rfl⟩ fun h3 he3 => ?_
  have ext3 : ∀ d o, h2.get? d = some o → h3.get? d = some o := fun d o e => he3 d o (fun q => by
    have := Heap.lt_size (Heap.get?_push_of_some (tupO [Value.ref a, Value.ref b] 0) e)
    rw [q] at this; exact absurd this (Nat.lt_irrefl _)) (Heap.get?_push_of_some _ e)
  have hna2 : ∀ o, ¬ P2 a o := fun o ho => by
    rcases S2.new _ _ ho with q | q
    · exact hP1 o q
    · obtain ⟨vs, n, hoo, _⟩ := O1
      have q' : h1.get? a = none := q
      rw [hoo] at q'; cases q'
  have O1' : OwnObj c P2 h3 a (.list []) := by
    obtain ⟨vs, n, ho, RL⟩ := O1
    exact ⟨vs, n, ext3 _ _ (S2.ext _ _ ho), RL.mono S2.sub⟩
  have O2' : OwnObj c P2 h3 b (.list []) := own_keepAt O2 fun o e => ext3 _ _ e
  have Sall : Step P P2 s.heap h3 := (S1.trans S2).trans (Step.heap S2.ok ext3)
  have hb0 : s.heap.get? b = none := by
    cases z : s.heap.get? b with
    | none => rfl
    | some o => have hn2' : h1.get? b = none := hn2; rw [S1.ext _ _ z] at hn2'; cases hn2'
  have F1 := F.step (tk := t2) Sall
  refine aio_cons (wpAny_bindName (F1.storeV (u := .own (.list [])) hy (F.ownSlot (tk := t2) Sall hb0 hP2 O2') fun h4 t4 kp vk vy F4 => ?_))
  obtain ⟨a0, haL, _⟩ : s₀.heap.get? a = none ∧ a ≠ env.locals ∧ True := by
    obtain ⟨_, e, _, _, h1, h2, _⟩ := F.ownSlot (tk := t2) (x := x) Sall hn1 hna2 O1'
    cases e; exact ⟨h1, h2, trivial⟩
  have hac : ∀ z d, env.cells.lookup z = some d → a ≠ d := by
    rintro z d hz rfl
    obtain ⟨⟨v, o, ho, _⟩, _⟩ := F.cell z a hz
    have hn1' : s.heap.get? a = none := hn1
    rw [ho] at hn1'; cases hn1'
  have hslot : SlotIs c env s₀ P2 { s with heap := h4, toks := t4 } (set σ y (.own (.list []))) x (.ref a) (.own (.list [])) := by
    refine ⟨a, rfl, hna2, own_keepAt O1' fun o e => kp a o haL hac e, a0, haL, fun z d hz hm g V e => ?_⟩
    subst e
    rcases mem_set hm with ⟨rfl, _⟩ | ⟨hne, hm⟩
    · obtain rfl := Value.ref.inj (V.det vy)
      exact hab rfl
    · obtain ⟨g', V', _, O'⟩ := F.good.owns z d hm
      obtain rfl := Value.ref.inj (V.det (vk z _ hne (V'.keeps Sall.ext)))
      obtain ⟨o, ho, _⟩ := O'.some
      have hn1' : s.heap.get? g = none := hn1
      rw [ho] at hn1'; cases hn1'
  exact aio_cons (wpAny_bindName (F4.store (u := .own (.list [])) hx hslot fun h5 t5 F5 => aio_nil (kn _ P2 h5 t5 rfl Sall.sub F5)))
end
end
section
set_option maxRecDepth 100000
noncomputable abbrev Ans := List Nat × Int × List Nat
noncomputable def A3 (a : Ans) : D := .tup [.str a.1, .int a.2.1, .str a.2.2]
noncomputable def repL (l : List Nat) (n : Nat) : List Nat := (List.replicate n l).flatten
noncomputable def spellF (st : List Nat) (p : Nat) : List Nat := if p % 2 = 1 then st.map up1 else st
noncomputable def ansF (st : List Nat) (p : Nat) : List Nat := capF2 (spellF st p) ((spellF st p).take p)
noncomputable def duF (st : List Nat) (p : Nat) : List Nat := repL ((spellF st p).take p) (st.length / p) ++ ((st.take (st.length % p)).take 1).map up1 ++ (st.take (st.length % p)).drop 1
noncomputable def leastG (st : List Nat) (q : Nat) : Nat → Nat
  | 0 => 0
  | t + 1 => if ansF st (q - t) = duF st (q - t) then q - t else leastG st q t
noncomputable def ansG (st : List Nat) (q : Nat) : Nat → List Ans
  | 0 => []
  | t + 1 => ansG st q t ++ [(spellF st (q - t), ((q - t : Nat) : Int), ansF st (q - t))]
noncomputable def subL (l : List Nat) (a b : Nat) : List Nat := (l.take b).drop a
noncomputable def twiceF (half st : List Nat) : Bool := matchF (half ++ [46, 46, 46] ++ half) st
noncomputable def stretchF (text : List Nat) (i j : Nat) : List Nat := subL text i j
noncomputable def leastF (text : List Nat) (i j : Nat) : Nat := leastG (subL text i j) ((j - i) / 2) ((j - i) / 2)
noncomputable def aheadF (text : List Nat) (i p : Nat) : Bool := decide (i > 0) && twiceF (subL text (i - 1 + p) (i - 1 + 2 * p)) (subL text (i - 1) (i - 1 + 2 * p))
noncomputable def behindF (text : List Nat) (j p : Nat) : Bool := decide (j < text.length) && twiceF (subL text (j + 1 - 2 * p) (j + 1 - p)) (subL text (j + 1 - 2 * p) (j + 1))
noncomputable def runHere (text : List Nat) (i j : Nat) : List Trip :=
  if leastF text i j > 0 ∧ aheadF text i (leastF text i j) = false ∧ behindF text j (leastF text i j) = false then [((i : Int), (j : Int), (leastF text i j : Int))] else []
noncomputable def runsJ (text : List Nat) (i : Nat) : Nat → List Trip
  | 0 => []
  | t + 1 => runsJ text i t ++ runHere text i (i + 2 + t)
noncomputable def ansJ (text : List Nat) (i : Nat) : Nat → List Ans
  | 0 => []
  | t + 1 => ansJ text i t ++ ansG (subL text i (i + 2 + t)) ((2 + t) / 2) ((2 + t) / 2)
noncomputable def runsI (text : List Nat) : Nat → List Trip
  | 0 => []
  | i + 1 => runsI text i ++ runsJ text i (text.length + 1 - (i + 2))
noncomputable def ansI (text : List Nat) : Nat → List Ans
  | 0 => []
  | i + 1 => ansI text i ++ ansJ text i (text.length + 1 - (i + 2))

theorem ansG_len (st : List Nat) (q : Nat) : ∀ t, (ansG st q t).length = t
  | 0 => rfl
  | t + 1 => by simp [ansG, ansG_len st q t]
theorem runHere_len (text : List Nat) (i j : Nat) : (runHere text i j).length ≤ 1 := by unfold runHere; split <;> simp
theorem runsJ_len (text : List Nat) (i : Nat) : ∀ t, (runsJ text i t).length ≤ t
  | 0 => by simp [runsJ]
  | t + 1 => by have := runsJ_len text i t; have := runHere_len text i (i + 2 + t); simp [runsJ]; (first | lia | omega)
theorem ansJ_len (text : List Nat) (i : Nat) : ∀ t, t ≤ 100 → (ansJ text i t).length ≤ 100 * t
  | 0, _ => by simp [ansJ]
  | t + 1, h => by have := ansJ_len text i t (by first | lia | omega); simp only [ansJ, List.length_append, ansG_len]; (first | lia | omega)
theorem runsI_len (text : List Nat) (h : text.length ≤ 90) : ∀ i, (runsI text i).length ≤ 100 * i
  | 0 => by simp [runsI]
  | i + 1 => by have := runsI_len text h i; have := runsJ_len text i (text.length + 1 - (i + 2)); simp only [runsI, List.length_append]; (first | lia | omega)
theorem ansI_len (text : List Nat) (h : text.length ≤ 90) : ∀ i, (ansI text i).length ≤ 10000 * i
  | 0 => by simp [ansI]
  | i + 1 => by have := ansI_len text h i; have := ansJ_len text i (text.length + 1 - (i + 2)) (by first | lia | omega); simp only [ansI, List.length_append]; (first | lia | omega)
theorem repL_length (l : List Nat) (n : Nat) : (repL l n).length = n * l.length := by simp [repL]
theorem up1_lt : ∀ x, x < 128 → up1 x < 128 := by decide +kernel
theorem subL_length (l : List Nat) (a b : Nat) (h : b ≤ l.length) : (subL l a b).length = b - a := by
  unfold subL; rw [List.length_drop, List.length_take]; (first | lia | omega)
theorem mem_subL {l : List Nat} {a b x : Nat} (h : x ∈ subL l a b) : x ∈ l := List.mem_of_mem_take (List.mem_of_mem_drop h)
theorem subL_len_le (l : List Nat) (a b : Nat) : (subL l a b).length ≤ l.length := by
  unfold subL; rw [List.length_drop, List.length_take]; exact Nat.le_trans (Nat.sub_le _ _) (Nat.min_le_right _ _)
theorem subL_slice' (l : List Nat) {i j : Int} {a b : Nat} (hi : i = a) (hj : j = b) : sliceL l (some i) (some j) = subL l a b := by
  subst hi; subst hj
  rw [sliceL_nn _ (Int.natCast_nonneg _) (Int.natCast_nonneg _)]; rfl
theorem subL_slice (l : List Nat) {i j : Int} (hi : 0 ≤ i) (hj : 0 ≤ j) : sliceL l (some i) (some j) = subL l i.toNat j.toNat := sliceL_nn l hi hj
end
section
set_option maxRecDepth 100000
section
variable {c : Cx} {A : Around}
theorem op_fdiv_nat {a b : Nat} (hb : 0 < b) (hb2 : b < 1000000) : Op2 c A (binaryOp .FloorDiv) (.int (a : Int)) (.int (b : Int)) (.int ((a / b : Nat) : Int)) := by
  have h := op_floordiv (c := c) (A := A) (a := (a : Int)) (b := (b : Int)) (by first | lia | omega) (PyProof.noPylong_of_log2 (by
    rw [Int.natAbs_natCast]
    have : b.log2 ≤ b := Nat.log2_le_self b
    have h2 : b.log2 < 20 := (Nat.log2_lt (by first | lia | omega)).mpr (by first | lia | omega)
    (first | lia | omega)))
  rwa [show ((a : Int).fdiv b) = ((a / b : Nat) : Int) from by rw [Int.fdiv_eq_ediv_of_nonneg _ (by first | lia | omega)]; simp] at h
theorem op_mod_nat {a b : Nat} (hb : 0 < b) : Op2 c A (binaryOp .Mod) (.int (a : Int)) (.int (b : Int)) (.int ((a % b : Nat) : Int)) := by
  have h := op_mod (c := c) (A := A) (a := (a : Int)) (b := (b : Int)) (by first | lia | omega)
  rwa [show ((a : Int).fmod b) = ((a % b : Nat) : Int) from by rw [Int.fmod_eq_emod_of_nonneg _ (by first | lia | omega)]; simp] at h
end

set_option maxHeartbeats 1000000 in
theorem fn_runs (w : World) (mb : Str → Option Value) (text : List Nat) (hl : text.length ≤ 80) (ha : ∀ x ∈ text, x < 128) : Fn (cx2 w mb) 3 57 [.str text] (.tup [.list ((runsI text text.length).map T3), .list ((ansI text text.length).map A3)]) := by
  have hSL := sizeLine_val
  refine fn_intro (xs := ["text"]) rfl rfl rfl rfl rfl rfl rfl rfl ?_ rfl (by decide +kernel) rfl rfl rfl ?_
  · intro vals h
    obtain ⟨_, rfl⟩ := len1 h; exact rfl
  intro A L hA
  refine ex_assign_two (x := "runs") (y := "answers") hA.handled (by decide) rfl (.inl rfl) (.inl rfl) (by walk_at "mset") ?_
  refine ex_for (J := fun i σ => σ = [("text", .val (.str text)), ("answers", .own (.list ((ansI text i).map A3))), ("runs", .own (.list ((runsI text i).map T3)))]) (f := fun d σ => set σ "i" (.val d)) (evi_range1 hA.handled rfl rfl (b := text.length) (by walk_at "mev") (by first | lia | omega)) (fun d _ => binds_name (.inl rfl)) rfl ?_ ?_
  · rintro i d σ' hd rfl
    obtain ⟨hi, rfl⟩ := rangeD_get hd
    have hi' : i < text.length := by first | lia | omega
    refine ex_conv (show Mine.set _ "i" _ = _ by walk_at "mset") ?_
    rw [show (0 + (i : Int) * 1) = (i : Int) from by first | lia | omega]
    refine ex_for (J := fun t σ => σ = [("text", .val (.str text)), ("answers", .own (.list ((ansI text i ++ ansJ text i t).map A3))), ("runs", .own (.list ((runsI text i ++ runsJ text i t).map T3))), ("i", .val (.int i))]) (f := fun d σ => set σ "j" (.val d)) (evi_range2 hA.handled rfl rfl (a := (i : Int) + 2) (b := (text.length : Int) + 1) (by walk_at "mev") (by walk_at "mev") (by first | lia | omega) (by first | lia | omega)) (fun d _ => binds_name (.inl rfl)) (by simp [ansJ, runsJ]) ?_ ?_
    · rintro t d σ' hd rfl
      obtain ⟨ht, rfl⟩ := rangeD_get hd
      refine ex_conv (show Mine.set _ "j" _ = _ by walk_at "mset") ?_
      rw [show ((i : Int) + 2 + (t : Int) * 1) = ((i + 2 + t : Nat) : Int) from by first | lia | omega]
      have hj : i + 2 + t ≤ text.length := by first | lia | omega
      have hst : (subL text i (i + 2 + t)).length = 2 + t := by rw [subL_length _ _ _ hj]; (first | lia | omega)
      have hlA : (ansI text i ++ ansJ text i t).length ≤ 2000000 := by
        have := ansI_len text (by first | lia | omega) i
        have := ansJ_len text i t (by first | lia | omega)
        simp only [List.length_append]; (first | lia | omega)
      have hlR : (runsI text i ++ runsJ text i t).length ≤ 2000000 := by
        have := runsI_len text (by first | lia | omega) i
        have := runsJ_len text i t
        simp only [List.length_append]; (first | lia | omega)
      have hsa : ∀ x ∈ subL text i (i + 2 + t), x < 128 := fun x hx => ha x (mem_subL hx)
      have hsl : sliceL text (some (i : Int)) (some ((i + 2 + t : Nat) : Int)) = subL text i (i + 2 + t) := subL_slice' _ rfl rfl
      refine ex_assign_swap (names := [Str.ofString "stretch", Str.ofString "least"]) (xs := ["least", "stretch"]) (ds := [.str (subL text i (i + 2 + t)), .int 0]) (by rw [← hsl]; walk_at "mev") hA.handled rfl (.cons stores_bind (.inl rfl) (.cons stores_bind (.inl rfl) .nil)) rfl rfl (by walk_at "mset") ?_
      have hansJ : ansJ text i (t + 1) = ansJ text i t ++ ansG (subL text i (i + 2 + t)) ((2 + t) / 2) ((2 + t) / 2) := rfl
      have hrunJ : runsJ text i (t + 1) = runsJ text i t ++ runHere text i (i + 2 + t) := rfl
      have hrH : runHere text i (i + 2 + t) = if leastG (subL text i (i + 2 + t)) ((2 + t) / 2) ((2 + t) / 2) > 0 ∧ aheadF text i (leastG (subL text i (i + 2 + t)) ((2 + t) / 2) ((2 + t) / 2)) = false ∧ behindF text (i + 2 + t) (leastG (subL text i (i + 2 + t)) ((2 + t) / 2) ((2 + t) / 2)) = false then [((i : Int), ((i + 2 + t : Nat) : Int), (leastG (subL text i (i + 2 + t)) ((2 + t) / 2) ((2 + t) / 2) : Int))] else [] := by
        unfold runHere leastF
        rw [show i + 2 + t - i = 2 + t from by first | lia | omega]
      rw [hansJ, hrunJ, hrH, ← List.append_assoc, ← List.append_assoc]
      clear hansJ hrunJ hrH
      generalize ansI text i ++ ansJ text i t = base at hlA
      generalize runsI text i ++ runsJ text i t = runs0 at hlR
      generalize hstq : subL text i (i + 2 + t) = st at hst hsa
      have hji : ∀ σ : Sto, (("i", Slot.val (.int i)) ∈ σ) → (("j", Slot.val (.int ((i + 2 + t : Nat) : Int))) ∈ σ) → True := fun _ _ _ => trivial
      refine ex_for (J := fun u σ => σ = [("text", .val (.str text)), ("answers", .own (.list ((base ++ ansG st ((2 + t) / 2) u).map A3))), ("runs", .own (.list (runs0.map T3))), ("i", .val (.int i)), ("j", .val (.int ((i + 2 + t : Nat) : Int))), ("least", .val (.int (leastG st ((2 + t) / 2) u : Nat))), ("stretch", .val (.str st))])
        (f := fun d σ => set σ "p" (.val d)) (evi_range3 hA.handled rfl rfl (a := ((2 + t) / 2 : Nat)) (b := 0) (ev_binop (a := .int ((2 + t : Nat) : Int)) ?_ (by walk_at "mev") (op_fdiv_nat (by first | lia | omega) (by first | lia | omega))) (by walk_at "mev") (by walk_at "mev") (by first | lia | omega) (by first | lia | omega)) (fun d _ => binds_name (.inl rfl)) (by simp [ansG, leastG]) ?_ ?_
      · rw [show ((2 + t : Nat) : Int) = ((i + 2 + t : Nat) : Int) - (i : Int) from by first | lia | omega]; walk_at "mev"
      · rintro u d σ' hd rfl
        obtain ⟨hu, rfl⟩ := rangeD_get hd
        have hq : u < (2 + t) / 2 := by first | lia | omega
        rw [ansG, leastG]
        refine ex_conv (show Mine.set _ "p" _ = _ by walk_at "mset") ?_
        rw [show (((2 + t) / 2 : Nat) : Int) + (u : Int) * (-1) = (((2 + t) / 2 - u : Nat) : Int) from by first | lia | omega]
        have hp1 : 1 ≤ (2 + t) / 2 - u := by first | lia | omega
        have hp2 : (2 + t) / 2 - u ≤ 2 + t := by first | lia | omega
        have hla := ansG_len st ((2 + t) / 2) u
        generalize (2 + t) / 2 - u = p at hp1 hp2
        generalize ansG st ((2 + t) / 2) u = ans0 at hla
        generalize leastG st ((2 + t) / 2) u = least0
        have hsp : spellF st p = if decide (((p % 2 : Nat) : Int) = 1) then st.map up1 else st := by
          unfold spellF
          by_cases h : p % 2 = 1
          · simp [h]
          · rw [if_neg h, if_neg]; simp; (first | lia | omega)
        have hspl : (spellF st p).length = 2 + t := by unfold spellF; split <;> simp [hst]
        have hspa : ∀ x ∈ spellF st p, x < 128 := by
          unfold spellF; split
          · intro x hx; obtain ⟨y, hy, rfl⟩ := List.mem_map.mp hx; exact up1_lt y (hsa y hy)
          · exact hsa
        refine ex_assign (d := .str (spellF st p)) (by rw [hsp]; exact ev_ifexp_str (evt_cmp (ev_binop (by walk_at "mev") (by walk_at "mev") (op_mod_nat (by first | lia | omega))) (by walk_at "mev") op_eq_int) (fun _ => ev_upper (by walk_at "mev") hsa (by first | lia | omega)) (fun _ => by walk_at "mev")) (.inl rfl) (by walk_at "mset") ?_
        have hcut : sliceL (spellF st p) none (some (p : Int)) = (spellF st p).take p := by rw [sliceL_0n _ (by first | lia | omega)]; rfl
        have htl : ((spellF st p).take p).length = p := by rw [List.length_take, hspl]; (first | lia | omega)
        refine ex_assign (d := .str (ansF st p)) (ev_call (f := 22) (ds := [.str (spellF st p), .str ((spellF st p).take p)]) rfl rfl rfl rfl (by rw [← hcut]; walk_at "mevl") (fn_cap2 w mb _ _ (by first | lia | omega) (by first | lia | omega) (by intro h; rw [h] at htl; simp at htl; (first | lia | omega)) hspa (fun x hx => by have := hspa x (List.mem_of_mem_take hx); (first | lia | omega))) (hA.le (by first | lia | omega)) (.inr ⟨_, _, rfl⟩) (by decide +kernel)) (.inl rfl) (by walk_at "mset") ?_
        refine ex_append (d := A3 (spellF st p, (p : Int), ansF st p)) (by walk_at "mmem") (by walk_at "mev") (by rw [List.length_map, List.length_append, hSL]; (first | lia | omega)) (by walk_at "mset") ?_
        have hrest : sliceL st none (some (((2 + t) % p : Nat) : Int)) = st.take ((2 + t) % p) := by rw [sliceL_0n _ (by first | lia | omega)]; rfl
        have hE : ((2 + t : Nat) : Int) = ((i + 2 + t : Nat) : Int) - (i : Int) := by first | lia | omega
        refine ex_assign (d := .str (st.take ((2 + t) % p))) (by rw [← hrest]; exact ev_slice_str (by walk_at "mev") evo_none (evo_some (ev_binop (a := .int ((2 + t : Nat) : Int)) (by rw [hE]; walk_at "mev") (by walk_at "mev") (op_mod_nat (by first | lia | omega)))) (by first | lia | omega)) (.inl rfl) (by walk_at "mset") ?_
        have hrl : (st.take ((2 + t) % p)).length ≤ 2 + t := by rw [List.length_take]; (first | lia | omega)
        have hr1 : sliceL (st.take ((2 + t) % p)) none (some 1) = (st.take ((2 + t) % p)).take 1 := by rw [sliceL_0n _ (by first | lia | omega)]; rfl
        have hr2 : sliceL (st.take ((2 + t) % p)) (some 1) none = (st.take ((2 + t) % p)).drop 1 := by rw [sliceL_n0 _ (by first | lia | omega)]; rfl
        have hra : ∀ x ∈ (st.take ((2 + t) % p)).take 1, x < 128 := fun x hx => hsa x (List.mem_of_mem_take (List.mem_of_mem_take hx))
        have hdu : duF st p = (List.replicate (((2 + t) / p : Nat) : Int).toNat ((spellF st p).take p)).flatten ++ ((st.take ((2 + t) % p)).take 1).map up1 ++ (st.take ((2 + t) % p)).drop 1 := by
          unfold duF repL; rw [hst]; rfl
        have hdl : (List.replicate (((2 + t) / p : Nat) : Int).toNat ((spellF st p).take p)).flatten.length ≤ 2 + t := by
          simp only [List.length_flatten, List.map_replicate, List.sum_replicate_nat, htl, Int.toNat_natCast]
          exact Nat.div_mul_le_self _ _
        have hqb : (2 + t) / p ≤ 2 + t := Nat.div_le_self _ _
        have htk1 : ((st.take ((2 + t) % p)).take 1).length ≤ 1 := by rw [List.length_take]; (first | lia | omega)
        have hdr1 : ((st.take ((2 + t) % p)).drop 1).length ≤ 2 + t := by rw [List.length_drop]; (first | lia | omega)
        refine ex_if (b := decide (ansF st p = duF st p)) (N1 := fun σ' => ∀ x ∈ ([("text", .val (.str text)), ("answers", .own (.list ((base ++ (ans0 ++ [(spellF st p, (p : Int), ansF st p)])).map A3))), ("runs", .own (.list (runs0.map T3))), ("i", .val (.int i)), ("j", .val (.int ((i + 2 + t : Nat) : Int))), ("least", .val (.int ((if ansF st p = duF st p then p else least0 : Nat) : Int))), ("stretch", .val (.str st))] : Sto), x ∈ σ') ?_ ?_ ?_ ?_
        · rw [hdu]
          refine evt_cmp (by walk_at "mev") (ev_binop (ev_binop (ev_binop (a := .str ((spellF st p).take p)) (b := .int (((2 + t) / p : Nat) : Int)) (by rw [← hcut]; walk_at "mev") (ev_binop (a := .int ((2 + t : Nat) : Int)) (by rw [hE]; walk_at "mev") (by walk_at "mev") (op_fdiv_nat (by first | lia | omega) (by first | lia | omega))) (op_mul_str (Int.le_trans (by decide) (Int.natCast_nonneg _)) (Int.ofNat_le.mpr (Nat.le_trans hqb (by first | lia | omega : 2 + t ≤ 1000))) (by first | lia | omega)))
            (ev_upper (l := (st.take ((2 + t) % p)).take 1) (by rw [← hr1]; walk_at "mev") hra (by first | lia | omega)) (op_add_str (by rw [List.length_map]; (first | lia | omega)))) (by rw [← hr2]; walk_at "mev") (op_add_str (by rw [List.length_append, List.length_map]; (first | lia | omega)))) op_eq_str
        · intro hb
          simp only [decide_eq_true_eq] at hb
          refine ex_assign (d := .int (p : Int)) (by walk_at "mev") (.inl rfl) (by walk_at "mset") (ex_nil ?_)
          rw [if_pos hb]
          simp only [List.map_append, List.map_cons, List.map_nil, List.append_assoc]
          walk_at "msub"
        · intro hb
          simp only [decide_eq_false_iff_not] at hb
          refine ex_nil ?_
          rw [if_neg hb]
          simp only [List.map_append, List.map_cons, List.map_nil, List.append_assoc]
          walk_at "msub"
        · intro σ' hσ
          exact ex_end hσ rfl
      · rintro σ' rfl
        rw [rangeD_length, show ((((2 + t) / 2 : Nat) : Int) - 0).toNat = (2 + t) / 2 from by first | lia | omega]
        have hlb : leastG st ((2 + t) / 2) ((2 + t) / 2) ≤ (2 + t) / 2 := by
          have : ∀ u, leastG st ((2 + t) / 2) u ≤ (2 + t) / 2 := by
            intro u
            induction u with
            | zero => simp [leastG]
            | succ u ih => unfold leastG; split <;> (first | lia | omega)
          exact this _
        generalize leastG st ((2 + t) / 2) ((2 + t) / 2) = least at hlb
        generalize hANS : base ++ ansG st ((2 + t) / 2) ((2 + t) / 2) = answ
        refine ex_if (b := decide ((least : Int) > 0)) (N1 := fun σ' => ∀ x ∈ ([("text", .val (.str text)), ("answers", .own (.list (answ.map A3))), ("runs", .own (.list ((runs0 ++ if least > 0 ∧ aheadF text i least = false ∧ behindF text (i + 2 + t) least = false then [((i : Int), ((i + 2 + t : Nat) : Int), (least : Int))] else []).map T3))), ("i", .val (.int i))] : Sto), x ∈ σ') (by walk_at "mevt") ?_ ?_ ?_
        · intro hb
          simp only [decide_eq_true_eq] at hb
          have hah : aheadF text i least = (decide ((i : Int) > 0) && twiceF (subL text (i - 1 + least) (i - 1 + 2 * least)) (subL text (i - 1) (i - 1 + 2 * least))) := by
            unfold aheadF; congr 1; simp
          have hbe : behindF text (i + 2 + t) least = (decide (((i + 2 + t : Nat) : Int) < text.length) && twiceF (subL text (i + 2 + t + 1 - 2 * least) (i + 2 + t + 1 - least)) (subL text (i + 2 + t + 1 - 2 * least) (i + 2 + t + 1))) := by
            unfold behindF; congr 1; simp; (first | lia | omega)
          have hsb : ∀ a b, (subL text a b).length < 1000 := fun a b => Nat.lt_of_le_of_lt (Nat.le_trans (subL_len_le text a b) hl) (by decide)
          refine ex_assign (d := .bool (aheadF text i least)) ?_ (.inl rfl) (by walk_at "mset") ?_
          · rw [hah]
            refine ev_and_bool (by walk_at "mev") fun hc => ?_
            simp only [decide_eq_true_eq] at hc
            have e1 : sliceL text (some ((i : Int) - 1 + least)) (some ((i : Int) - 1 + 2 * least)) = subL text (i - 1 + least) (i - 1 + 2 * least) := by
              exact subL_slice' _ (by first | lia | omega) (by first | lia | omega)
            have e2 : sliceL text (some ((i : Int) - 1)) (some ((i : Int) - 1 + 2 * least)) = subL text (i - 1) (i - 1 + 2 * least) := by
              exact subL_slice' _ (by first | lia | omega) (by first | lia | omega)
            exact ev_call (f := 50) (ds := [.str (subL text (i - 1 + least) (i - 1 + 2 * least)), .str (subL text (i - 1) (i - 1 + 2 * least))]) rfl rfl rfl rfl (by rw [← e1, ← e2]; walk_at "mevl") (fn_twice w mb _ _ (hsb _ _) (hsb _ _)) hA (.inr ⟨_, _, rfl⟩) (by decide +kernel)
          refine ex_assign (d := .bool (behindF text (i + 2 + t) least)) ?_ (.inl rfl) (by walk_at "mset") ?_
          · rw [hbe]
            refine ev_and_bool (by walk_at "mev") fun hc => ?_
            simp only [decide_eq_true_eq] at hc
            have e1 : sliceL text (some (((i + 2 + t : Nat) : Int) + 1 - 2 * least)) (some (((i + 2 + t : Nat) : Int) + 1 - least)) = subL text (i + 2 + t + 1 - 2 * least) (i + 2 + t + 1 - least) := by
              exact subL_slice' _ (by first | lia | omega) (by first | lia | omega)
            have e2 : sliceL text (some (((i + 2 + t : Nat) : Int) + 1 - 2 * least)) (some (((i + 2 + t : Nat) : Int) + 1)) = subL text (i + 2 + t + 1 - 2 * least) (i + 2 + t + 1) := by
              exact subL_slice' _ (by first | lia | omega) (by first | lia | omega)
            exact ev_call (f := 50) (ds := [.str (subL text (i + 2 + t + 1 - 2 * least) (i + 2 + t + 1 - least)), .str (subL text (i + 2 + t + 1 - 2 * least) (i + 2 + t + 1))]) rfl rfl rfl rfl (by rw [← e1, ← e2]; walk_at "mevl") (fn_twice w mb _ _ (hsb _ _) (hsb _ _)) hA (.inr ⟨_, _, rfl⟩) (by decide +kernel)
          refine ex_if (b := (aheadF text i least == false) && (behindF text (i + 2 + t) least == false)) (N1 := fun σ' => ∀ x ∈ ([("text", .val (.str text)), ("answers", .own (.list (answ.map A3))), ("runs", .own (.list ((runs0 ++ if least > 0 ∧ aheadF text i least = false ∧ behindF text (i + 2 + t) least = false then [((i : Int), ((i + 2 + t : Nat) : Int), (least : Int))] else []).map T3))), ("i", .val (.int i))] : Sto), x ∈ σ') (by walk_at "mevt") ?_ ?_ ?_
          · intro hc
            simp only [Bool.and_eq_true, beq_iff_eq] at hc
            refine ex_append (d := T3 ((i : Int), ((i + 2 + t : Nat) : Int), (least : Int))) (by walk_at "mmem") (by walk_at "mev") (by rw [List.length_map, hSL]; (first | lia | omega)) (by walk_at "mset") (ex_nil ?_)
            rw [if_pos ⟨by first | lia | omega, hc.1, hc.2⟩, List.map_append]
            walk_at "msub"
          · intro hc
            refine ex_nil ?_
            rw [if_neg, List.append_nil]
            · walk_at "msub"
            · rintro ⟨_, h1, h2⟩
              rw [h1, h2] at hc; simp at hc
          · intro σ' hσ
            exact ex_end (fun x hx => hσ x hx) (fun x hx => hx)
        · intro hb
          simp only [decide_eq_false_iff_not] at hb
          refine ex_nil ?_
          rw [if_neg (by first | lia | omega), List.append_nil]
          walk_at "msub"
        · intro σ' hσ
          exact ex_end hσ rfl
    · rintro σ' rfl
      rw [rangeD_length, show ((text.length : Int) + 1 - ((i : Int) + 2)).toNat = text.length + 1 - (i + 2) from by first | lia | omega]
      exact ex_end (by walk_at "msub") rfl
  · rintro σ' rfl
    rw [rangeD_length, show ((text.length : Int)).toNat = text.length from by first | lia | omega]
    refine ex_freeze (x := "runs") (by walk_at "mmem") (by walk_at "mset") (ex_freeze (x := "answers") (by walk_at "mmem") (by walk_at "mset") (ex_return (by walk_at "mev") rfl))
end
section
set_option maxRecDepth 100000

noncomputable def Does {α : Type} (lt : Nat → Nat → Bool) (N : Nat) : KasT α → (α → Prop) → Prop
  | .ret a, Q => Q a
  | .ask i j k, Q => i < N ∧ j < N ∧ Does lt N (k (lt i j)) Q
theorem Does.bind {α β : Type} {lt : Nat → Nat → Bool} {N : Nat} {f : α → KasT β} {Q : β → Prop} : ∀ {t : KasT α}, Does lt N t (fun a => Does lt N (f a) Q) → Does lt N (t.bind f) Q
  | .ret _, h => h
  | .ask _ _ _, ⟨h1, h2, h⟩ => ⟨h1, h2, Does.bind h⟩
theorem Does.mono {α : Type} {lt : Nat → Nat → Bool} {N : Nat} {Q Q' : α → Prop} (hq : ∀ a, Q a → Q' a) : ∀ {t : KasT α}, Does lt N t Q → Does lt N t Q'
  | .ret _, h => hq _ h
  | .ask _ _ _, ⟨h1, h2, h⟩ => ⟨h1, h2, Does.mono hq h⟩
theorem Does.wp {α : Type} {lt : Nat → Nat → Bool} {N : Nat} {cmp : Nat → Nat → (Bool → Shared → Prop) → Shared → Prop} {Inv : Shared → Prop} (hc : ∀ i j C s, i < N → j < N → Inv s → (∀ s', Inv s' → C (lt i j) s') → cmp i j C s) {Q : α → Prop} {G : α → Shared → Prop} (hq : ∀ a s, Inv s → Q a → G a s) :
    ∀ {t : KasT α} {s : Shared}, Inv s → Does lt N t Q → t.kasWp cmp G s
  | .ret _, _, hi, h => hq _ _ hi h
  | .ask _ _ k, _, hi, ⟨h1, h2, h⟩ => hc _ _ _ _ h1 h2 hi fun s' hi' => Does.wp (t := k _) hc hq hi' h

section
variable {c : Nat → Int} {N : Nat} {p : Array Nat}
noncomputable def kc (c : Nat → Int) (p : Array Nat) (i : Nat) : Int := c (p.getD i 0)
noncomputable def PP (N : Nat) (p : Array Nat) : Prop := p.toList.Perm (List.range N)
noncomputable def Inj (c : Nat → Int) (N : Nat) : Prop := ∀ a b, a < N → b < N → c a = c b → a = b
noncomputable def Asc (c : Nat → Int) (p : Array Nat) (m : Nat) : Prop := ∀ i, i + 1 < m → kc c p i < kc c p (i + 1)
noncomputable def Dsc (c : Nat → Int) (p : Array Nat) (m : Nat) : Prop := ∀ i, i + 1 < m → kc c p (i + 1) < kc c p i
noncomputable abbrev ltc (c : Nat → Int) (i j : Nat) : Bool := decide (c i < c j)

theorem PP.size (h : PP N p) : p.size = N := by have := h.length_eq; simpa using this
theorem PP.lt (h : PP N p) (hN : 0 < N) (i : Nat) : p.getD i 0 < N := by
  by_cases hi : i < p.size
  · have : p.getD i 0 ∈ p.toList := by simp [Array.getD, hi]
    have := h.mem_iff.mp this
    simpa using this
  · simp [Array.getD, hi]; exact hN
theorem PP.ne (h : PP N p) (hc : Inj c N) {i j : Nat} (hi : i < N) (hj : j < N) (hij : i ≠ j) : kc c p i ≠ kc c p j := by
  intro e
  have hN : 0 < N := by first | lia | omega
  have e2 := hc _ _ (h.lt hN i) (h.lt hN j) e
  have hs := h.size
  have hnd : p.toList.Nodup := h.nodup_iff.mpr List.nodup_range
  have hi' : i < p.toList.length := by simp; (first | lia | omega)
  have hj' : j < p.toList.length := by simp; (first | lia | omega)
  have e3 : p.toList[i] = p.toList[j] := by
    simp only [Array.getD, hs, hi, hj, dif_pos] at e2
    simpa using e2
  exact hij ((List.getElem_inj hnd).mp e3)
theorem Asc.all {m : Nat} (h : Asc c p m) : ∀ {i j : Nat}, i < j → j < m → kc c p i < kc c p j := by
  intro i j hij hj
  induction j with
  | zero => (first | lia | omega)
  | succ j ih =>
    rcases Nat.lt_or_ge i j with h1 | h1
    · exact Int.lt_trans (ih h1 (by first | lia | omega)) (h j hj)
    · have : i = j := by first | lia | omega
      subst this; exact h i hj

theorem does_asc (hp : PP N p) (hc : Inj c N) : ∀ (f n : Nat), 1 ≤ n → n + f ≤ N → Asc c p n → Does (ltc c) N (kas_asc p f n) (fun m => n ≤ m ∧ m ≤ n + f ∧ Asc c p m ∧ (m < n + f → kc c p m < kc c p (m - 1)))
  | 0, n, _, _, ha => ⟨Nat.le_refl _, Nat.le_refl _, ha, fun h => by first | lia | omega⟩
  | f + 1, n, h1, h2, ha => by
    refine ⟨hp.lt (by first | lia | omega) _, hp.lt (by first | lia | omega) _, ?_⟩
    by_cases hlt : c (p.getD n 0) < c (p.getD (n - 1) 0)
    · rw [show ltc c (p.getD n 0) (p.getD (n - 1) 0) = true from decide_eq_true hlt]
      exact ⟨Nat.le_refl _, by first | lia | omega, ha, fun _ => hlt⟩
    · rw [show ltc c (p.getD n 0) (p.getD (n - 1) 0) = false from decide_eq_false hlt]
      have hne := hp.ne hc (i := n) (j := n - 1) (by first | lia | omega) (by first | lia | omega) (by first | lia | omega)
      have ha' : Asc c p (n + 1) := by
        intro i hi
        rcases Nat.lt_or_ge (i + 1) n with h | h
        · exact ha i h
        · have : i = n - 1 := by first | lia | omega
          subst this
          have e : n - 1 + 1 = n := by first | lia | omega
          rw [e]
          unfold kc at hne ⊢
          (first | lia | omega)
      refine (does_asc hp hc f (n + 1) (by first | lia | omega) (by first | lia | omega) ha').mono fun m hm => ?_
      obtain ⟨a, b, d, e⟩ := hm
      exact ⟨by first | lia | omega, by first | lia | omega, d, fun h => e (by first | lia | omega)⟩

theorem does_desc (hp : PP N p) (hc : Inj c N) : ∀ (f n : Nat), 2 ≤ n → n + f ≤ N → Dsc c p n → Does (ltc c) N (kas_desc f p n 0) (fun r => r.1 = p ∧ n ≤ r.2.1 ∧ r.2.1 ≤ n + f ∧ Dsc c p r.2.1 ∧ r.2.2 = 0)
  | 0, n, _, _, ha => ⟨rfl, Nat.le_refl _, Nat.le_refl _, ha, rfl⟩
  | f + 1, n, h1, h2, ha => by
    refine ⟨hp.lt (by first | lia | omega) _, hp.lt (by first | lia | omega) _, ?_⟩
    have hne := hp.ne hc (i := n) (j := n - 1) (by first | lia | omega) (by first | lia | omega) (by first | lia | omega)
    by_cases hlt : c (p.getD n 0) < c (p.getD (n - 1) 0)
    · rw [show ltc c (p.getD n 0) (p.getD (n - 1) 0) = true from decide_eq_true hlt]
      have ha' : Dsc c p (n + 1) := by
        intro i hi
        rcases Nat.lt_or_ge (i + 1) n with h | h
        · exact ha i h
        · have : i = n - 1 := by first | lia | omega
          subst this
          have e : n - 1 + 1 = n := by first | lia | omega
          rw [e]; exact hlt
      refine (does_desc hp hc f (n + 1) (by first | lia | omega) (by first | lia | omega) ha').mono fun r hr => ?_
      obtain ⟨a, b, d, e⟩ := hr
      exact ⟨a, by first | lia | omega, by first | lia | omega, e⟩
    · rw [show ltc c (p.getD n 0) (p.getD (n - 1) 0) = false from decide_eq_false hlt]
      refine ⟨hp.lt (by first | lia | omega) _, hp.lt (by first | lia | omega) _, ?_⟩
      have hgt : c (p.getD (n - 1) 0) < c (p.getD n 0) := by unfold kc at hne; (first | lia | omega)
      rw [show ltc c (p.getD (n - 1) 0) (p.getD n 0) = true from decide_eq_true hgt]
      exact ⟨rfl, Nat.le_refl _, by show n ≤ n + (f + 1); (first | lia | omega), ha, rfl⟩

theorem getD_opt (q : Array Nat) (i : Nat) : q.getD i 0 = (q[i]?).getD 0 := by
  by_cases h : i < q.size <;> simp [Array.getD, h]
theorem rev_kc (hp : PP N p) {m : Nat} (hm : m ≤ N) (k : Nat) : kc c (kas_rev p 0 m) k = if k < m then kc c p (m - 1 - k) else kc c p k := by
  unfold kc kas_rev
  rw [getD_opt, getElem?_mirror_all (by rw [hp.size]; exact hm)]
  by_cases h : k < m
  · rw [if_pos ⟨Nat.zero_le _, h⟩, if_pos h, getD_opt]; congr 2; congr 1; (first | lia | omega)
  · rw [if_neg (by first | lia | omega), if_neg h, getD_opt]
theorem PP.rev (hp : PP N p) (i j : Nat) : PP N (kas_rev p i j) := by
  unfold PP kas_rev
  exact (Array.perm_iff_toList_perm.mp (mirror_perm p i j _)).trans hp
theorem PP.bub (hp : PP N p) (i j : Nat) : PP N (bubble p i j) := by
  unfold PP
  exact (Array.perm_iff_toList_perm.mp (bubble_perm p i j)).trans hp

theorem does_count (hp : PP N p) (hc : Inj c N) (hN : 1 ≤ N) : Does (ltc c) N (kas_count N p) (fun r => PP N r.2 ∧ 1 ≤ r.1 ∧ r.1 ≤ N ∧ Asc c r.2 r.1) := by
  unfold kas_count
  refine Does.bind ((does_asc hp hc (N - 1) 1 (Nat.le_refl _) (by first | lia | omega) (fun i hi => by first | lia | omega)).mono fun n hn => ?_)
  obtain ⟨h1, h2, h3, h4⟩ := hn
  by_cases hz : n = N
  · rw [if_pos (by simp [hz])]
    exact ⟨hp, h1, by first | lia | omega, h3⟩
  · rw [if_neg (by simp [hz])]
    by_cases hg : n > 1
    · rw [if_pos hg]
      refine ⟨hp.lt (by first | lia | omega) _, hp.lt (by first | lia | omega) _, ?_⟩
      have hlt : c (p.getD 0 0) < c (p.getD (n - 1) 0) := h3.all (i := 0) (j := n - 1) (by first | lia | omega) (by first | lia | omega)
      rw [show ltc c (p.getD 0 0) (p.getD (n - 1) 0) = true from decide_eq_true hlt]
      exact ⟨hp, h1, by first | lia | omega, h3⟩
    · rw [if_neg hg]
      have hn1 : n = 1 := by first | lia | omega
      subst hn1
      unfold kas_descPart
      have hd : Dsc c p 2 := by
        intro i hi
        have : i = 0 := by first | lia | omega
        subst this; exact h4 (by first | lia | omega)
      refine Does.bind ((does_desc hp hc (N - (1 + 1)) (1 + 1) (by first | lia | omega) (by first | lia | omega) hd).mono fun r hr => ?_)
      obtain ⟨q, m, z⟩ := r
      obtain ⟨rfl, a, b, d, rfl⟩ := hr
      simp only [Nat.lt_irrefl, gt_iff_lt, if_false] at *
      unfold kas_tail3
      have ha : Asc c (kas_rev q 0 m) m := by
        intro i hi
        rw [rev_kc hp (by first | lia | omega), rev_kc hp (by first | lia | omega), if_pos (by first | lia | omega), if_pos hi]
        have := d (m - 1 - (i + 1)) (by first | lia | omega)
        rwa [show m - 1 - (i + 1) + 1 = m - 1 - i from by first | lia | omega] at this
      refine Does.bind ((does_asc (hp.rev 0 m) hc (N - m) m (by first | lia | omega) (by first | lia | omega) ha).mono fun k hk => ?_)
      exact ⟨hp.rev 0 m, by first | lia | omega, by first | lia | omega, hk.2.2.1⟩

theorem does_place (hp : PP N p) (hc : Inj c N) {k : Nat} (hk : k < N) (ha : Asc c p k) : ∀ (f l r : Nat), l ≤ r → r ≤ k → r - l ≤ f → (∀ i, i < l → kc c p i < kc c p k) → (∀ i, r ≤ i → i < k → kc c p k < kc c p i) →
    Does (ltc c) N (kas_place p k f l r) (fun l => l ≤ k ∧ (∀ i, i < l → kc c p i < kc c p k) ∧ ∀ i, l ≤ i → i < k → kc c p k < kc c p i)
  | 0, l, r, h1, h2, h3, hl, hr => by
    have : l = r := by first | lia | omega
    subst this; exact ⟨h2, hl, hr⟩
  | f + 1, l, r, h1, h2, h3, hl, hr => by
    unfold kas_place
    by_cases hz : l ≥ r
    · rw [if_pos hz]
      have : l = r := by first | lia | omega
      subst this; exact ⟨h2, hl, hr⟩
    · rw [if_neg hz]
      refine ⟨hp.lt (by first | lia | omega) _, hp.lt (by first | lia | omega) _, ?_⟩
      have hmid : (l + r) / 2 < r := by first | lia | omega
      have hmid2 : l ≤ (l + r) / 2 := by first | lia | omega
      generalize (l + r) / 2 = mid at hmid hmid2
      by_cases hlt : c (p.getD k 0) < c (p.getD mid 0)
      · rw [show ltc c (p.getD k 0) (p.getD mid 0) = true from decide_eq_true hlt]
        refine does_place hp hc hk ha f l mid (by first | lia | omega) (by first | lia | omega) (by first | lia | omega) hl fun i hi hik => ?_
        rcases Nat.lt_or_ge mid i with h | h
        · exact Int.lt_trans hlt (ha.all h hik)
        · have : i = mid := by first | lia | omega
          subst this; exact hlt
      · rw [show ltc c (p.getD k 0) (p.getD mid 0) = false from decide_eq_false hlt]
        refine does_place hp hc hk ha f (mid + 1) r (by first | lia | omega) (by first | lia | omega) (by first | lia | omega) (fun i hi => ?_) hr
        have hne := hp.ne hc (i := mid) (j := k) (by first | lia | omega) hk (by first | lia | omega)
        have hm : kc c p mid < kc c p k := by unfold kc at hne ⊢; (first | lia | omega)
        rcases Nat.lt_or_ge i mid with h | h
        · exact Int.lt_trans (ha.all h (by first | lia | omega)) hm
        · have : i = mid := by first | lia | omega
          subst this; exact hm

theorem does_bin (hc : Inj c N) : ∀ (f : Nat) (p : Array Nat) (k : Nat), PP N p → k + f = N → 1 ≤ k → Asc c p k → Does (ltc c) N (kas_bin f p k) (fun q => PP N q ∧ Asc c q N)
  | 0, p, k, hp, hk, _, ha => by
    have : k = N := by first | lia | omega
    subst this; exact ⟨hp, ha⟩
  | f + 1, p, k, hp, hk, h1, ha => by
    unfold kas_bin
    refine Does.bind ((does_place hp hc (by first | lia | omega) ha k 0 k (by first | lia | omega) (by first | lia | omega) (by first | lia | omega) (fun i hi => by first | lia | omega) (fun i _ hi => by first | lia | omega)).mono fun l hl => ?_)
    obtain ⟨h2, h3, h4⟩ := hl
    refine does_bin hc f _ (k + 1) (hp.bub _ _) (by first | lia | omega) (by first | lia | omega) fun i hi => ?_
    have kb : ∀ j, kc c (bubble p k (k - l)) j = if j = l then kc c p k else if l < j ∧ j ≤ k then kc c p (j - 1) else kc c p j := by
      intro j
      unfold kc
      rw [getD_opt, getElem?_bubble (by rw [hp.size]; (first | lia | omega)) (k - l) (by first | lia | omega), show k - (k - l) = l from by first | lia | omega]
      by_cases h5 : j = l
      · rw [if_pos h5, if_pos h5, getD_opt]
      · rw [if_neg h5, if_neg h5]
        by_cases h6 : l < j ∧ j ≤ k
        · rw [if_pos h6, if_pos h6, getD_opt]
        · rw [if_neg h6, if_neg h6, getD_opt]
    rw [kb, kb]
    rcases Nat.lt_trichotomy i l with h5 | h5 | h5
    · rw [if_neg (by first | lia | omega), if_neg (by first | lia | omega)]
      rcases Nat.lt_or_ge (i + 1) l with h6 | h6
      · rw [if_neg (by first | lia | omega), if_neg (by first | lia | omega)]
        exact ha.all (by first | lia | omega) (by first | lia | omega)
      · rw [if_pos (by first | lia | omega)]; exact h3 i h5
    · rw [if_pos h5, if_neg (by first | lia | omega), if_pos (by first | lia | omega)]
      have := h4 i (by first | lia | omega) (by first | lia | omega)
      simpa using this
    · rw [if_neg (by first | lia | omega), if_pos (by first | lia | omega), if_neg (by first | lia | omega), if_pos (by first | lia | omega)]
      have := ha.all (i := i - 1) (j := i) (by first | lia | omega) (by first | lia | omega)
      simpa using this

theorem does_sort (hc : Inj c N) (hN : 1 ≤ N) : Does (ltc c) N (kas_sort N) (fun q => PP N q ∧ Asc c q N) := by
  unfold kas_sort
  have hp : PP N (List.toArray (List.range N)) := by unfold PP; simp
  refine Does.bind ((does_count hp hc hN).mono fun r hr => ?_)
  obtain ⟨h1, h2, h3, h4⟩ := hr
  by_cases hz : r.1 < N
  · rw [if_pos hz, Nat.max_eq_left h2]
    exact does_bin hc _ _ _ h1 (by first | lia | omega) h2 h4
  · rw [if_neg hz]
    have : r.1 = N := by first | lia | omega
    exact ⟨h1, this ▸ h4⟩
end
end
section
set_option maxRecDepth 100000
section
variable {cx : Cx} {A : Around} {s : Shared} {E : Value → Shared → Prop}

theorem my_list_sort {a : Addr} {vs : List Value} {n : Nat} {c : Nat → Int} {P : PySem.Fin → Shared → Prop} (ho : s.heap.get? a = some (listO vs n)) (h2 : 2 ≤ vs.length) (h64 : vs.length < 64) (hinj : Inj c vs.length)
    (hkind : ∀ h', (∀ b o, b ≠ a → s.heap.get? b = some o → h'.get? b = some o) → ∀ Q : SortKind → Shared → Prop, Q (tuples' true) { s with heap := h' } → wpAny cx.M A (keyKind' vs.toArray) Q (fun _ _ => False) { s with heap := h' })
    (hlt : ∀ h' tk i j C, (∀ b o, b ≠ a → s.heap.get? b = some o → h'.get? b = some o) → i < vs.length → j < vs.length → (∀ tk', C (ltc c i j) { s with heap := h', toks := tk' }) → kas_ask cx.prog cx.w A (tuples' true) vs i j C { s with heap := h', toks := tk })
    (k : ∀ h' tk (p : Array Nat), PP vs.length p → Asc c p vs.length → (∀ b o, b ≠ a → s.heap.get? b = some o → h'.get? b = some o) → (∃ m, h'.get? a = some (listO (p.toList.map fun i => vs.getD i Value.none) m)) → P (.done (.ret .none)) { s with heap := h', toks := tk }) :
    wpAny cx.M A (Builtin.«list.sort» ⟨[.ref a], []⟩) P E s := by
  have s1 := Heap.SameBut.update s.heap a (Obj.mapSeq fun _ => (#[] : Array Value))
  obtain ⟨e1, ho1⟩ : ∃ e1, (s.heap.update a (Obj.mapSeq fun _ => (#[] : Array Value))).get? a = some (seqObj "list" #[] e1) := ⟨_, get?_update_seq ho fun _ => #[]⟩
  rw [list_sort_plain]
  refine wpAny_bind (listItems_at ho rfl ?_)
  refine wpAny_bind (listUpdate_at ho rfl ?_ (by rw [List.size_toArray, sizeLine_eq]; (first | lia | omega)) (Nat.zero_le _))
  refine wpAny_bind (seqEpoch_at ho1 rfl ?_)
  refine wpAny_bind (wpAny_newTuple ?_ (by show vs.length ≤ _; rw [sizeLine_eq]; (first | lia | omega)))
  refine wpAny_bind (wpAny_newList ?_ (Nat.zero_le _))
  refine wpAny_holding ?_
  have keep : ∀ b o, b ≠ a → s.heap.get? b = some o → (((s.heap.update a (Obj.mapSeq fun _ => (#[] : Array Value))).push (seqObj "tuple" vs.toArray 0)).push (seqObj "list" #[] 0)).get? b = some o := fun b o hb e =>
    Heap.get?_push_of_some _ (Heap.get?_push_of_some _ (s1.extBut b o hb e))
  have hoa : (((s.heap.update a (Obj.mapSeq fun _ => (#[] : Array Value))).push (seqObj "tuple" vs.toArray 0)).push (seqObj "list" #[] 0)).get? a = some (seqObj "list" #[] e1) :=
    Heap.get?_push_of_some _ (Heap.get?_push_of_some _ ho1)
  show wpAny cx.M A _ P E { s with heap := ((s.heap.update a (Obj.mapSeq fun _ => (#[] : Array Value))).push (seqObj "tuple" vs.toArray 0)).push (seqObj "list" #[] 0) }
  generalize ((s.heap.update a (Obj.mapSeq fun _ => (#[] : Array Value))).push (seqObj "tuple" vs.toArray 0)).push (seqObj "list" #[] 0) = h3 at keep hoa
  dsimp only
  have hn2 : ¬ vs.toArray.size < 2 := by rw [List.size_toArray]; (first | lia | omega)
  rw [if_neg hn2, if_neg hn2]
  refine wpAny_bind (wpAny_mono (hkind h3 keep (fun κ s0 => κ = tuples' true ∧ s0 = { s with heap := h3 }) ⟨rfl, rfl⟩) ?_ fun _ _ x => x.elim)
  rintro κ s0 ⟨rfl, rfl⟩
  have hask : (kas_sort vs.length).kasWp (kas_ask cx.prog cx.w A (tuples' true) vs) (fun p s' => (PP vs.length p ∧ Asc c p vs.length) ∧ ∃ tk, s' = { s with heap := h3, toks := tk }) { s with heap := h3 } := by
    refine Does.wp (lt := ltc c) (N := vs.length) (Inv := fun s' => ∃ tk, s' = { s with heap := h3, toks := tk }) (Q := fun q => PP vs.length q ∧ Asc c q vs.length) ?_ ?_ ⟨s.toks, rfl⟩ (does_sort hinj (by first | lia | omega))
    · rintro i j C s' hi hj ⟨tk, rfl⟩ hC
      exact hlt h3 tk i j C keep hi hj fun tk' => hC _ ⟨tk', rfl⟩
    · intro p s' hs hq
      exact ⟨hq, hs⟩
  refine wpAny_bind (wpAny_mono (kat_run (Q := fun st' s' => ∃ p : Array Nat, p.size = vs.length ∧ arrOf st' = p.map (kas_item (vs.toArray.zip vs.toArray)) ∧ failedOf st' = none ∧ (PP vs.length p ∧ Asc c p vs.length) ∧ ∃ tk, s' = { s with heap := h3, toks := tk })
    rfl h2 h64 (fun p' st' s' a1 a2 a3 a4 => ⟨p', a1, a2, a3, a4⟩) hask) ?_ fun _ _ e => e)
  rintro ⟨⟨⟩, st'⟩ s' ⟨p, hp, har, hf, ⟨hpp, hasc⟩, tk, rfl⟩
  dsimp only
  have hout := kat_snds rfl har
  have hsz : (List.toArray (p.toList.map fun i => vs.getD i Value.none)).size = vs.length := by rw [List.size_toArray, List.length_map, Array.length_toList, hp]
  rw [hout]
  have s2 := Heap.SameBut.update h3 a (Obj.mapSeq fun _ => List.toArray (p.toList.map fun i => vs.getD i Value.none))
  obtain ⟨c2, hc2⟩ : ∃ c2, (h3.update a (Obj.mapSeq fun _ => List.toArray (p.toList.map fun i => vs.getD i Value.none))).get? a = some (seqObj "list" (List.toArray (p.toList.map fun i => vs.getD i Value.none)) c2) := ⟨_, get?_update_seq hoa fun _ => List.toArray (p.toList.map fun i => vs.getD i Value.none)⟩
  refine wpAny_bind (seqEpoch_at hoa rfl ?_)
  refine wpAny_bind (listUpdate_at hoa rfl ?_ (Nat.zero_le _) (Nat.le_trans (Nat.le_of_eq hsz) (by rw [sizeLine_eq]; (first | lia | omega))))
  rw [hf]
  simp only [bne_self_eq_false, Bool.false_eq_true, if_false]
  exact wpAny_pure (k _ tk p hpp hasc (fun b o hb e => s2.extBut b o hb (keep b o hb e)) ⟨c2, hc2⟩)

theorem my_list_sort1 {a : Addr} {vs : List Value} {n : Nat} {P : PySem.Fin → Shared → Prop} (ho : s.heap.get? a = some (listO vs n)) (h2 : vs.length < 2)
    (k : ∀ h', (∀ b o, b ≠ a → s.heap.get? b = some o → h'.get? b = some o) → (∃ m, h'.get? a = some (listO vs m)) → P (.done (.ret .none)) { s with heap := h' }) :
    wpAny cx.M A (Builtin.«list.sort» ⟨[.ref a], []⟩) P E s := by
  have s1 := Heap.SameBut.update s.heap a (Obj.mapSeq fun _ => (#[] : Array Value))
  obtain ⟨e1, ho1⟩ : ∃ e1, (s.heap.update a (Obj.mapSeq fun _ => (#[] : Array Value))).get? a = some (seqObj "list" #[] e1) := ⟨_, get?_update_seq ho fun _ => #[]⟩
  rw [list_sort_plain]
  refine wpAny_bind (listItems_at ho rfl ?_)
  refine wpAny_bind (listUpdate_at ho rfl ?_ (by rw [List.size_toArray, sizeLine_eq]; (first | lia | omega)) (Nat.zero_le _))
  refine wpAny_bind (seqEpoch_at ho1 rfl ?_)
  refine wpAny_bind (wpAny_newTuple ?_ (by show vs.length ≤ _; rw [sizeLine_eq]; (first | lia | omega)))
  refine wpAny_bind (wpAny_newList ?_ (Nat.zero_le _))
  refine wpAny_holding ?_
  have keep : ∀ b o, b ≠ a → s.heap.get? b = some o → (((s.heap.update a (Obj.mapSeq fun _ => (#[] : Array Value))).push (seqObj "tuple" vs.toArray 0)).push (seqObj "list" #[] 0)).get? b = some o := fun b o hb e =>
    Heap.get?_push_of_some _ (Heap.get?_push_of_some _ (s1.extBut b o hb e))
  have hoa : (((s.heap.update a (Obj.mapSeq fun _ => (#[] : Array Value))).push (seqObj "tuple" vs.toArray 0)).push (seqObj "list" #[] 0)).get? a = some (seqObj "list" #[] e1) :=
    Heap.get?_push_of_some _ (Heap.get?_push_of_some _ ho1)
  show wpAny cx.M A _ P E { s with heap := ((s.heap.update a (Obj.mapSeq fun _ => (#[] : Array Value))).push (seqObj "tuple" vs.toArray 0)).push (seqObj "list" #[] 0) }
  generalize ((s.heap.update a (Obj.mapSeq fun _ => (#[] : Array Value))).push (seqObj "tuple" vs.toArray 0)).push (seqObj "list" #[] 0) = h3 at keep hoa
  dsimp only
  have hn2 : vs.toArray.size < 2 := by rw [List.size_toArray]; (first | lia | omega)
  rw [if_pos hn2, if_pos hn2]
  refine wpAny_bind (wpAny_pure (wpAny_bind ?_))
  refine wpAny_pure ?_
  have hout : Array.map (fun x => x.snd) (arrOf (SortSt.mk' general' (vs.toArray.zip vs.toArray) #[] 7 none)) = vs.toArray := by
    show Array.map (fun x => x.snd) (vs.toArray.zip vs.toArray) = vs.toArray
    apply Array.toList_inj.mp
    rw [Array.toList_map, Array.toList_zip]
    exact List.map_snd_zip (by simp)
  have s2 := Heap.SameBut.update h3 a (Obj.mapSeq fun _ => vs.toArray)
  obtain ⟨c2, hc2⟩ : ∃ c2, (h3.update a (Obj.mapSeq fun _ => vs.toArray)).get? a = some (seqObj "list" vs.toArray c2) := ⟨_, get?_update_seq hoa fun _ => vs.toArray⟩
  refine wpAny_bind (seqEpoch_at hoa rfl ?_)
  rw [hout]
  refine wpAny_bind (listUpdate_at hoa rfl ?_ (Nat.zero_le _) (by rw [List.size_toArray, sizeLine_eq]; (first | lia | omega)))
  simp only [bne_self_eq_false, Bool.false_eq_true, if_false]
  exact wpAny_pure (k _ (fun b o hb e => s2.extBut b o hb (keep b o hb e)) ⟨c2, hc2⟩)

theorem my_sorted {l : Addr} {vs : List Value} {Q : Value → Shared → Prop} (hl : s.heap.IsList l vs.toArray) (hz : vs.length ≤ 1000)
    (h : ∀ D h', h'.get? D = some (listO vs 0) → s.heap.get? D = none → (∀ b o, s.heap.get? b = some o → h'.get? b = some o) →
      wpAny cx.M A.in1.in1 (Builtin.«list.sort» ⟨[.ref D], []⟩) (fun r s' => r = .done (.ret .none) ∧ Q (.ref D) s') (fun _ _ => False) { s with heap := h' }) :
    wpAny cx.M A (call (.builtin "sorted") [.ref l]) Q E s := by
  refine Calls.call_function_entry kind_sorted plain_sorted entry_sorted (args_sorted1 _) ?_
  unfold Builtin.«sorted»
  refine wpAny_bind (m := checkCount "sorted" 1 1 _) (wpAny_pure ?_)
  refine wpAny_bind (collect_list hl ?_ (by rw [sizeLine_eq]; (first | lia | omega)))
  refine wpAny_bind (wpAny_newList ?_ (by rw [sizeLine_eq]; (first | lia | omega)))
  have hsz : ((s.heap.push (seqObj "list" #[] 0)).update s.heap.objs.size (Obj.mapSeq (· ++ vs.toArray))).objs.size = s.heap.objs.size + 1 := by
    rw [Heap.size_update, size_push']
  have hoL : (((s.heap.push (seqObj "list" #[] 0)).update s.heap.objs.size (Obj.mapSeq (· ++ vs.toArray))).push (seqObj "list" vs.toArray 0)).get? (s.heap.objs.size + 1) = some (seqObj "list" vs.toArray 0) := by
    rw [← hsz]; exact Heap.get?_push_size _ rfl
  have keep : ∀ b o, s.heap.get? b = some o → (((s.heap.push (seqObj "list" #[] 0)).update s.heap.objs.size (Obj.mapSeq (· ++ vs.toArray))).push (seqObj "list" vs.toArray 0)).get? b = some o := fun b o q => by
    have hlt : b < s.heap.objs.size := Heap.lt_size q
    rw [Heap.get?_push_ne _ _ _ (by rw [hsz]; exact Nat.ne_of_lt (Nat.lt_succ_of_lt hlt)), Heap.get?_update_ne _ _ _ _ (Nat.ne_of_lt hlt), Heap.get?_push_ne _ _ _ (Nat.ne_of_lt hlt)]
    exact q
  show wpAny _ _ _ _ _ { s with heap := ((s.heap.push (seqObj "list" #[] 0)).update s.heap.objs.size (Obj.mapSeq (· ++ vs.toArray))).push (seqObj "list" vs.toArray 0) }
  rw [hsz]
  refine wpAny_bind (wpAny_holding (wpAny_call_entry slot_list_sort ⟨_, hoL, rfl⟩ entry_list_sort ?body (args_list_sort _)))
  case body =>
    refine wpAny_mono (h _ _ hoL (Heap.get?_none_of_le (Nat.le_succ _)) keep) ?_ fun _ _ x => x.elim
    rintro r s' ⟨rfl, hq⟩
    exact ⟨_, rfl, wpAny_pure ⟨_, rfl, hq⟩⟩

noncomputable def code (t : Trip) : Int := t.1 * 100000000 + t.2.1 * 10000 + t.2.2
noncomputable def InB (t : Trip) : Prop := (0 ≤ t.1 ∧ t.1 < 10000) ∧ (0 ≤ t.2.1 ∧ t.2.1 < 10000) ∧ (0 ≤ t.2.2 ∧ t.2.2 < 10000)
theorem code_inj {a b : Trip} (ha : InB a) (hb : InB b) (h : code a = code b) : a = b := by
  obtain ⟨a1, a2, a3⟩ := a; obtain ⟨b1, b2, b3⟩ := b
  simp only [InB, code] at *
  have : a1 = b1 := by first | lia | omega
  have : a2 = b2 := by first | lia | omega
  have : a3 = b3 := by first | lia | omega
  subst_vars; rfl

theorem kat_trips {P : Facts} {h : Heap} (ok : ∀ a o, P a o → h.get? a = some o) : ∀ {vs : List Value} {ts : List Trip}, RepL cx P vs (ts.map T3) → ∃ fs : List Value, KatTups h vs fs ∧ fs.length = ts.length ∧ ∀ v ∈ fs, ∃ i t, v = .int i t := by
  intro vs ts
  induction ts generalizing vs with
  | nil => intro hr; obtain rfl := hr.nil_inv; exact ⟨[], trivial, rfl, fun v h => nomatch h⟩
  | cons t ts ih =>
    intro hr
    obtain ⟨v, _, rfl, R, RL⟩ := hr.cons_inv
    obtain ⟨fs, h1, h2, h3⟩ := ih RL
    obtain ⟨a, us, n, rfl, hp, RU⟩ := R.tup_inv
    have hInv := RU.cons_inv; clear RU; obtain ⟨_, _, rfl, R1, RU⟩ := hInv
    obtain ⟨tk, rfl⟩ := R1.int_inv
    refine ⟨.int t.1 tk :: fs, ⟨⟨a, _, _, n, rfl, ok _ _ hp, rfl, rfl, rfl⟩, h1⟩, congrArg Nat.succ h2, ?_⟩
    intro v hv
    rcases List.mem_cons.mp hv with rfl | hv
    · exact ⟨_, _, rfl⟩
    · exact h3 v hv

theorem lt_trip {P : Facts} {tk : Nat} {h' : Heap} (ok : ∀ a o, P a o → h'.get? a = some o) {u v : Value} {a b : Trip} (Ru : Rep cx P u (T3 a)) (Rv : Rep cx P v (T3 b)) (ha : InB a) (hb : InB b) {C : Bool → Shared → Prop} (hC : ∀ tk', C (decide (code a < code b)) { s with heap := h', toks := tk' }) :
    wpAny cx.M A (keyLt' (tuples' true) u v) C E { s with heap := h', toks := tk } := by
  obtain ⟨a1, a2, a3⟩ := a; obtain ⟨b1, b2, b3⟩ := b
  obtain ⟨x, us, n, rfl, hp, RU⟩ := Ru.tup_inv
  obtain ⟨y, ws, k, rfl, hq, RW⟩ := Rv.tup_inv
  have hInv := RU.cons_inv; clear RU; obtain ⟨_, _, rfl, R1, RU⟩ := hInv
  have hInv := RU.cons_inv; clear RU; obtain ⟨_, _, rfl, R2, RU⟩ := hInv
  have hInv := RU.cons_inv; clear RU; obtain ⟨_, _, rfl, R3, RU⟩ := hInv
  obtain rfl := RU.nil_inv; clear RU; obtain ⟨_, rfl⟩ := R1.int_inv; obtain ⟨_, rfl⟩ := R2.int_inv; obtain ⟨_, rfl⟩ := R3.int_inv
  have hInv := RW.cons_inv; clear RW; obtain ⟨_, _, rfl, R1, RW⟩ := hInv
  have hInv := RW.cons_inv; clear RW; obtain ⟨_, _, rfl, R2, RW⟩ := hInv
  have hInv := RW.cons_inv; clear RW; obtain ⟨_, _, rfl, R3, RW⟩ := hInv
  obtain rfl := RW.nil_inv; clear RW; obtain ⟨_, rfl⟩ := R1.int_inv; obtain ⟨_, rfl⟩ := R2.int_inv; obtain ⟨_, rfl⟩ := R3.int_inv
  have hC2 : ∀ x : Bool, (x = true ↔ code (a1, a2, a3) < code (b1, b2, b3)) → C x { s with heap := h', toks := tk } := by
    intro x hx
    have : x = decide (code (a1, a2, a3) < code (b1, b2, b3)) := by rw [Bool.eq_iff_iff, hx, decide_eq_true_eq]
    rw [this]; exact hC tk
  simp only [InB, code] at ha hb hC2
  refine kat_lt (ok _ _ hp) rfl (ok _ _ hq) rfl (kat_cons (wpAny_eqBool_int (kat_go ?_ ?_)))
  · intro e1
    have e1 : a1 = b1 := by simpa using e1
    subst e1
    refine kat_yes (kat_cons (wpAny_eqBool_int (kat_go ?_ ?_)))
    · intro e2
      have e2 : a2 = b2 := by simpa using e2
      subst e2
      refine kat_yes (kat_cons (wpAny_eqBool_int (kat_go ?_ ?_)))
      · intro e3
        have e3 : a3 = b3 := by simpa using e3
        subst e3
        refine kat_yes (kat_nil ?_)
        refine hC2 _ ?_
        simp
      · intro e3
        refine kat_no (kat_one _ _ (PySem.P.lt_int ?_))
        refine hC2 _ ?_
        simp only [decide_eq_true_eq]; (first | lia | omega)
    · intro e2
      have e2 : a2 ≠ b2 := by simpa using e2
      refine kat_no (kat_one _ _ (PySem.P.lt_int ?_))
      refine hC2 _ ?_
      simp only [decide_eq_true_eq]; (first | lia | omega)
  · intro e1
    have e1 : a1 ≠ b1 := by simpa using e1
    refine kat_no (oneLt_int ?_)
    refine hC2 _ ?_
    simp only [decide_eq_true_eq]; (first | lia | omega)

theorem perm_unique {lt : Trip → Trip → Prop} (hirr : ∀ a b, lt a b → lt b a → False) : ∀ {a b : List Trip}, a.Perm b → a.Pairwise lt → b.Pairwise lt → a = b
  | [], b, hp, _, _ => by rw [hp.symm.eq_nil]
  | x :: a, b, hp, ha, hb => by
    cases b with
    | nil => exact absurd hp.eq_nil (by simp)
    | cons y b =>
      rw [List.pairwise_cons] at ha hb
      have hxy : x = y := by
        rcases List.mem_cons.mp (hp.mem_iff.mp (List.mem_cons_self ..)) with h | h
        · exact h
        · rcases List.mem_cons.mp (hp.mem_iff.mpr (List.mem_cons_self ..)) with h' | h'
          · exact h'.symm
          · exact (hirr _ _ (ha.1 _ h') (hb.1 _ h)).elim
      subst hxy
      rw [perm_unique hirr ((List.perm_cons _).mp hp) ha.2 hb.2]

theorem repL_map_getD {P : Facts} {vs : List Value} {ts : List Trip} (RL : RepL cx P vs (ts.map T3)) : ∀ (l : List Nat), (∀ i ∈ l, i < ts.length) → RepL cx P (l.map fun i => vs.getD i Value.none) ((l.map fun i => ts.getD i (0, 0, 0)).map T3)
  | [], _ => .nil
  | i :: l, h => by
    refine .cons ?_ (repL_map_getD RL l fun j hj => h j (List.mem_cons_of_mem _ hj))
    have hi := h i (List.mem_cons_self ..)
    have hd : (ts.map T3)[i]? = some (T3 (ts.getD i (0, 0, 0))) := by simp [hi]
    obtain ⟨v, hv, R⟩ := RL.get hd
    have : vs.getD i Value.none = v := by rw [List.getD_eq_getElem?_getD, hv]; rfl
    show Rep cx P (vs.getD i Value.none) _
    rw [this]; exact R

theorem sorted_out {ts out : List Trip} {p : Array Nat} (hp : PP ts.length p) (ha : Asc (fun i => code (ts.getD i (0, 0, 0))) p ts.length) (ho : out.Perm ts) (hs : out.Pairwise fun a b => code a < code b) :
    (p.toList.map fun i => ts.getD i (0, 0, 0)) = out := by
  refine perm_unique (lt := fun a b => code a < code b) (fun a b h1 h2 => by first | lia | omega) ?_ ?_ hs
  · refine List.Perm.trans (List.Perm.map _ hp) (List.Perm.trans ?_ ho.symm)
    have : (List.range ts.length).map (fun i => ts.getD i (0, 0, 0)) = ts := by
      apply List.ext_getElem?
      intro i
      rcases Nat.lt_or_ge i ts.length with h | h
      · simp [h]
      · simp [h]
    rw [this]
  · rw [List.pairwise_iff_getElem]
    intro i j hi hj hij
    simp only [List.length_map, Array.length_toList] at hi hj
    have hsz := hp.size
    have := ha.all hij (by first | lia | omega)
    simp only [kc, Array.getD] at this
    rw [dif_pos hi, dif_pos hj] at this
    simpa using this

theorem perm_small {α : Type} {a b : List α} (h : a.Perm b) (hb : b.length < 2) : a = b := by
  cases b with
  | nil => exact h.eq_nil
  | cons x r => cases r with
    | nil => exact List.perm_singleton.mp h
    | cons y r => exact absurd hb (Nat.not_lt.mpr (Nat.le_add_left 2 r.length))
theorem ev_sorted_trips {env : Env} {σ : Sto} {e : Expr} {np pos : Pos} {ts out : List Trip} (hk : env.kindOf (Str.ofString "sorted") = some .globalImplicit) (hg : cx.mg (Str.ofString "sorted") = none)
    (h : Ev cx A env σ e (.list (ts.map T3))) (hlen : ts.length < 64) (hB : ∀ t ∈ ts, InB t) (ho : out.Perm ts) (hs : out.Pairwise fun a b => code a < code b) (he : starEach [e] env = [(false, eval e env)] := by rfl) :
    Ev cx A env σ (.Call (.Name (Str.ofString "sorted") np) [e] [] pos) (.list (out.map T3)) := by
  refine ev_call_builtin hk hg Boot.«sorted» (by decide +kernel) (evl_cons h evl_nil he) (.inr ⟨_, _, he⟩) (by rw [he]; rfl) (by decide +kernel) ?_
  intro P s vs ok T RL Q E q
  have hInv := RL.cons_inv; clear RL; obtain ⟨_, _, rfl, R, RL⟩ := hInv
  obtain rfl := RL.nil_inv; clear RL
  obtain ⟨a, us, n, rfl, hp, RL⟩ := R.list_inv
  have hul : us.length = ts.length := by rw [RL.length, List.length_map]
  refine my_sorted (isList_of ok hp) (by first | lia | omega) fun D h1 hD hD0 hext => ?_
  have ok1 : ∀ b o, P b o → h1.get? b = some o := fun b o e => hext b o (ok b o e)
  have neD : ∀ b o, P b o → b ≠ D := fun b o e e' => by rw [e'] at e; have := ok _ _ e; rw [hD0] at this; cases this
  have fin : ∀ h' tk us', (∀ b o, b ≠ D → h1.get? b = some o → h'.get? b = some o) → (∃ m, h'.get? D = some (listO us' m)) → RepL cx P us' (out.map T3) → Q (.ref D) { s with heap := h', toks := tk } := by
    rintro h' tk us' hkp ⟨m, hm⟩ RL'
    have S1 : Step P (fun b x => P b x ∨ (b = D ∧ x = listO us' m)) s.heap h' := Step.more ok (fun b o e => hkp b o (fun e' => by rw [e', hD0] at e; cases e) (hext b o e)) hD0 hm
    exact q _ _ _ _ S1 (.list (.inr ⟨rfl, rfl⟩) (RL'.mono S1.sub))
  have hgd : ∀ i, i < ts.length → ts.getD i (0, 0, 0) ∈ ts := fun i hi => by
    rw [show ts.getD i (0, 0, 0) = ts[i] from by simp [hi]]; exact List.getElem_mem hi
  have hnd : ∀ i j, i < ts.length → j < ts.length → ts.getD i (0, 0, 0) = ts.getD j (0, 0, 0) → i = j := by
    intro i j hi hj e
    have hn : ts.Nodup := by
      rw [← ho.nodup_iff]
      exact hs.imp fun h e => by rw [e] at h; (first | lia | omega)
    simp only [List.getD_eq_getElem?_getD, List.getElem?_eq_getElem hi, List.getElem?_eq_getElem hj, Option.getD_some] at e
    exact (List.getElem_inj hn).mp e
  by_cases h2 : us.length < 2
  · refine my_list_sort1 hD h2 fun h' hkp hm => ⟨rfl, fin h' s.toks us hkp hm ?_⟩
    have : out = ts := by
      exact perm_small ho (by first | lia | omega)
    rw [this]; exact RL
  · refine my_list_sort (c := fun i => code (ts.getD i (0, 0, 0))) hD (by first | lia | omega) (by first | lia | omega) ?_ ?_ ?_ ?_
    · intro i j hi hj e
      rw [hul] at hi hj
      exact hnd i j hi hj (code_inj (hB _ (hgd i hi)) (hB _ (hgd j hj)) e)
    · intro h' hkp Q' hq
      obtain ⟨fs, h3, h4, h5⟩ := kat_trips (fun b o e => hkp b o (neD b o e) (ok1 b o e)) RL
      refine kat_kind (T := .type "int") h3 (by first | lia | omega) (fun v hv => ?_) rfl hq
      obtain ⟨i, t, rfl⟩ := h5 v hv
      exact Looks.of_pure rfl
    · intro h' tk i j C hkp hi hj hC
      rw [hul] at hi hj
      obtain ⟨u, hu, Ru⟩ := RL.get (k := i) (d := T3 (ts.getD i (0, 0, 0))) (by simp [hi])
      obtain ⟨v, hv, Rv⟩ := RL.get (k := j) (d := T3 (ts.getD j (0, 0, 0))) (by simp [hj])
      unfold kas_ask
      rw [show us.getD i Value.none = u from by rw [List.getD_eq_getElem?_getD, hu]; rfl, show us.getD j Value.none = v from by rw [List.getD_eq_getElem?_getD, hv]; rfl]
      exact lt_trip (fun b o e => hkp b o (neD b o e) (ok1 b o e)) Ru Rv (hB _ (hgd i hi)) (hB _ (hgd j hj)) hC
    · intro h' tk p hpp hasc hkp hm
      rw [hul] at hpp hasc
      refine ⟨rfl, fin h' tk _ hkp hm ?_⟩
      have := repL_map_getD RL p.toList fun i hi => by
        have := hpp.mem_iff.mp hi
        simpa using this
      rwa [sorted_out hpp hasc ho hs] at this
end
end
section
set_option maxRecDepth 100000

noncomputable def dput (kvs : List (List Nat × D)) (k : List Nat) (d : D) : List (List Nat × D) :=
  if kvs.any (fun kv => decide (kv.1 = k)) then kvs.map (fun kv => if kv.1 = k then (kv.1, d) else kv) else kvs ++ [(k, d)]
noncomputable def dget (kvs : List (List Nat × D)) (k : List Nat) : Option D := (kvs.find? fun kv => decide (kv.1 = k)).map (·.2)

inductive RK (c : Cx) (P : Facts) : List (Str × Value) → List (List Nat × D) → Prop
  | nil : RK c P [] []
  | cons {k : List Nat} {v : Value} {vs : List (Str × Value)} {d : D} {kvs : List (List Nat × D)} : Rep c P v d → RK c P vs kvs → RK c P ((S k, v) :: vs) ((k, d) :: kvs)

section
variable {c : Cx} {P : Facts}
theorem RK.keys {vs : List (Str × Value)} {kvs : List (List Nat × D)} (h : RK c P vs kvs) : vs.map (·.1) = (kvs.map (·.1)).map S := by
  induction h with
  | nil => rfl
  | cons R _ ih => simp [ih]
theorem nodup_S {l : List (List Nat)} : (l.map S).Nodup ↔ l.Nodup := by
  induction l with
  | nil => simp
  | cons a r ih =>
    rw [List.map_cons, List.nodup_cons, List.nodup_cons, ih]
    constructor
    · rintro ⟨h1, h2⟩; exact ⟨fun h => h1 (List.mem_map.mpr ⟨a, h, rfl⟩), h2⟩
    · rintro ⟨h1, h2⟩
      refine ⟨fun h => h1 ?_, h2⟩
      obtain ⟨b, hb, e⟩ := List.mem_map.mp h
      rwa [← S_inj.mp e]
theorem RK.get {vs : List (Str × Value)} {kvs : List (List Nat × D)} (h : RK c P vs kvs) {k : List Nat} {d : D} (hk : dget kvs k = some d) : ∃ v, valueAt vs (S k) = some v ∧ Rep c P v d := by
  induction h with
  | nil => cases hk
  | @cons k' v vs d' kvs R _ ih =>
    unfold dget at hk ih
    unfold valueAt at ih ⊢
    rw [List.find?_cons] at hk ⊢
    by_cases e : k' = k
    · subst e
      simp at hk ⊢
      subst hk; exact R
    · rw [show decide (k' = k) = false from decide_eq_false e] at hk
      rw [show decide (S k' = S k) = false from decide_eq_false fun h => e (S_inj.mp h)]
      exact ih hk
theorem pairs_of_repK {es : List DictEntry} {kvs : List (List Nat × D)} (h : RepK c P es kvs) : ∃ vs, Pairs (PySem.strKind c.prog c.w) es vs ∧ (∀ e ∈ es, ∃ k, (PySem.strKind c.prog c.w).is k e.key = true ∧ e.hash = (PySem.strKind c.prog c.w).hash k) ∧ RK c P vs kvs := by
  induction kvs generalizing es with
  | nil => cases h; exact ⟨[], .nil, by simp, .nil⟩
  | cons kv kvs ih =>
    cases h with
    | @cons k t v es d kvs R r =>
      obtain ⟨vs, h1, h2, h3⟩ := ih r
      refine ⟨(S k, v) :: vs, .cons (strKind_is _ _ _ _) rfl h1, ?_, .cons R h3⟩
      intro e he
      rcases List.mem_cons.mp he with rfl | he
      · exact ⟨S k, strKind_is _ _ _ _, rfl⟩
      · exact h2 e he
theorem repK_of_pairs {es : List DictEntry} {vs : List (Str × Value)} (h : Pairs (PySem.strKind c.prog c.w) es vs) (hk : ∀ e ∈ es, ∃ k, (PySem.strKind c.prog c.w).is k e.key = true ∧ e.hash = (PySem.strKind c.prog c.w).hash k) : ∀ {kvs : List (List Nat × D)}, RK c P vs kvs → RepK c P es kvs := by
  induction h with
  | nil => intro kvs r; cases r; exact .nil
  | @cons e kv es vs h1 h2 _ ih =>
    intro kvs r
    cases r with
    | @cons k v _ d kvs R r =>
      obtain ⟨hh, kk, ee⟩ := e
      obtain ⟨k', a1, a2⟩ := hk _ (.head _)
      obtain ⟨t, e1⟩ := Value.isStrOf_shape h1
      obtain ⟨t', e2⟩ := Value.isStrOf_shape a1
      simp only at e1 e2 h2 a2
      subst e1; subst h2
      cases e2
      subst a2
      exact .cons R (ih (fun e he => hk e (.tail _ he)) r)

theorem dictOf_of {h : Heap} {a : Addr} {es : List DictEntry} {n : Nat} {kvs : List (List Nat × D)} (ho : h.get? a = some (dictO es n)) (r : RepK c P es kvs) (hn : (kvs.map (·.1)).Nodup) : ∃ vs, h.DictOf (PySem.strKind c.prog c.w) a vs ∧ RK c P vs kvs := by
  obtain ⟨vs, h1, h2, h3⟩ := pairs_of_repK r
  refine ⟨vs, ⟨_, es.toArray, n, ho, ⟨rfl, rfl, rfl⟩, rfl, fun e he => h2 e (by simpa using he), by simpa using h1, ?_⟩, h3⟩
  rw [h3.keys]; exact nodup_S.mpr hn
theorem of_dictOf {h : Heap} {a : Addr} {vs : List (Str × Value)} {kvs : List (List Nat × D)} (hd : h.DictOf (PySem.strKind c.prog c.w) a vs) (r : RK c P vs kvs) : ∃ es n, h.get? a = some (dictO es n) ∧ RepK c P es kvs := by
  obtain ⟨o, es, ep, ho, ⟨hc, hdc, hsl⟩, hda, hk, hp, _⟩ := hd
  refine ⟨es.toList, ep, ?_, repK_of_pairs hp (fun e he => hk e (by simpa using he)) r⟩
  rw [ho]
  obtain ⟨oc, od, oda, osl⟩ := o
  simp only at hc hdc hsl hda
  subst hc; subst hdc; subst hsl; subst hda
  simp [dictO]
end

section
variable {c : Cx} {A : Around} {env : Env} {σ : Sto} {rest : List Stmt} {N : Sto → Prop} {R : D → Prop}

inductive RV (c : Cx) (P : Facts) : List (Value × Value) → List (List Nat × D) → Prop
  | nil : RV c P [] []
  | cons {k : List Nat} {t : Tok} {v : Value} {vs : List (Value × Value)} {d : D} {kvs : List (List Nat × D)} : Rep c P v d → RV c P vs kvs → RV c P ((.str (S k) t, v) :: vs) ((k, d) :: kvs)
theorem RV.carries {P : Facts} {vs : List (Value × Value)} {kvs : List (List Nat × D)} (h : RV c P vs kvs) : ∃ ws, Carries (PySem.strKind c.prog c.w) vs ws ∧ RK c P ws kvs := by
  induction h with
  | nil => exact ⟨[], trivial, .nil⟩
  | @cons k t v vs d kvs R _ ih =>
    obtain ⟨ws, h1, h2⟩ := ih
    exact ⟨(S k, v) :: ws, ⟨strKind_is _ _ _ _, rfl, h1⟩, .cons R h2⟩

noncomputable def EvP (c : Cx) (A : Around) (env : Env) (σ : Sto) (pos : Pos) (ks : List (Option Expr)) (es : List Expr) (kvs : List (List Nat × D)) : Prop :=
  ∀ (P : Facts) (s : Shared), Good c env σ P s → ∀ (Q : List (Value × Value) → Shared → Prop) (E : Value → Shared → Prop),
    (∀ vs h' tk P', Step P P' s.heap h' → RV c P' vs kvs → Q vs { s with heap := h', toks := tk }) → wpAny c.M A (evalPairs (pairTrees ks es env pos)) Q E s
theorem evp_nil {pos : Pos} : EvP c A env σ pos [] [] [] := by
  intro P s G Q E k
  exact pairTrees_nil_walk (k [] s.heap s.toks P (Step.refl G.ok) .nil)
theorem evp_cons {pos : Pos} {k e : Expr} {ks : List (Option Expr)} {es : List Expr} {l : List Nat} {d : D} {kvs : List (List Nat × D)} (hk : Ev c A env σ k (.str l)) (he : Ev c A env σ e d) (hs : EvP c A env σ pos ks es kvs) : EvP c A env σ pos (some k :: ks) (e :: es) ((l, d) :: kvs) := by
  intro P s G Q E q
  refine pairTrees_cons_walk (hk.val G fun u h1 t1 P1 S1 G1 R1 => he.val G1 fun v h2 t2 P2 S2 G2 R2 => hs P2 _ G2 _ E fun vs h3 t3 P3 S3 R3 => ?_)
  obtain ⟨_, rfl⟩ := R1.str_inv
  exact q _ h3 t3 P3 ((S1.trans S2).trans S3) (.cons (R2.mono S3.sub) R3)

theorem evf_dict {ks : List (Option Expr)} {es : List Expr} {pos : Pos} {kvs : List (List Nat × D)} (h : EvP c A env σ pos ks es kvs) (hn : (kvs.map (·.1)).Nodup) (hall : ks.all (·.isSome) = true := by rfl) (hl : ks.length = es.length := by rfl) (h0 : ks ≠ [] := by simp) (hlen : ks.length ≤ 15 := by decide) :
    EvF c A env σ (.Dict ks es pos) (.dict kvs) := by
  intro P s G Q E q
  have S0 : Step P P s.heap (s.heap.push { cls := .type "dict", data := .dict #[] }) := Step.heap G.ok fun b o e => Heap.get?_push_of_some _ e
  refine wpAny_Dict_walk (knd := PySem.strKind c.prog c.w) hall hl h0 hlen (h P _ (G.step (tk := s.toks) S0) _ E fun vs h1 t1 P1 S1 R1 => ?_)
  obtain ⟨ws, c1, c2⟩ := R1.carries
  have hws : (ws.map (·.1)).Nodup := by rw [c2.keys]; exact nodup_S.mpr hn
  have hnew : h1.DictOf (PySem.strKind c.prog c.w) s.heap.objs.size [] := by
    obtain ⟨o, es, ep, ho, r⟩ := Heap.DictOf.new (knd := PySem.strKind c.prog c.w) s.heap
    exact ⟨o, es, ep, S1.ext _ _ ho, r⟩
  have hsz : s.heap.get? s.heap.objs.size = none := fresh_none _
  have hnP : ∀ o, ¬ P1 s.heap.objs.size o := fun o ho => by
    rcases S1.new _ _ ho with x | x
    · have := G.ok _ _ x; rw [hsz] at this; cases this
    · rw [Heap.get?_push_size _ rfl] at x; cases x
  refine ⟨ws, c1, hnew, fun h' hd hs => ?_⟩
  rw [merged_nil_of_nodup _ hws] at hd
  obtain ⟨es', n', ho, RR⟩ := of_dictOf hd c2
  have ext : ∀ b o, s.heap.get? b = some o → h'.get? b = some o := fun b o e => hs.extBut b o (fun x => by rw [x, hsz] at e; cases e) (S1.ext _ _ (S0.ext _ _ e))
  refine q _ h' _ P1 ⟨ext, fun a o e => S1.sub _ _ e, fun a o e => ?_, fun a o e => hs.extBut a o (fun x => hnP o (x ▸ e)) (S1.ok _ _ e)⟩ hsz hnP ⟨es', n', ho, RR⟩
  rcases S1.new _ _ e with x | x
  · exact .inl x
  · refine .inr ?_
    cases z : s.heap.get? a with
    | none => rfl
    | some o' => have := S0.ext _ _ z; rw [this] at x; cases x

theorem ev_of_evfd {e : Expr} {kvs : List (List Nat × D)} (h : EvF c A env σ e (.dict kvs)) : Ev c A env σ e (.dict kvs) := by
  intro P s G Q E q
  refine h P s G Q E fun a h' tk P' S hn hP O => ?_
  obtain ⟨vs, n, ho, RL⟩ := O
  let P2 : Facts := fun b o => P' b o ∨ (b = a ∧ o = dictO vs n)
  have hsub : ∀ b o, P' b o → P2 b o := fun _ _ h => .inl h
  refine q _ _ _ P2 ⟨S.ext, fun b o h => hsub _ _ (S.sub _ _ h), fun b o h => ?_, fun b o h => ?_⟩ (.dict (.inr ⟨rfl, rfl⟩) (RL.mono hsub))
  · rcases h with h | ⟨rfl, rfl⟩
    · exact S.new _ _ h
    · exact .inr hn
  · rcases h with h | ⟨rfl, rfl⟩
    · exact S.ok _ _ h
    · exact ho

theorem ev_item_dict {v x : Expr} {pos : Pos} {kvs : List (List Nat × D)} {k : List Nat} {d : D} (hv : Ev c A env σ v (.dict kvs)) (hx : Ev c A env σ x (.str k)) (hn : (kvs.map (·.1)).Nodup) (hk : dget kvs k = some d)
    (hs : ∀ o i, subscripted x false o i = operate [o, i] (getItem o i) := by intro _ _; rfl) : Ev c A env σ (.Subscript v x pos) d := by
  intro P s G Q E q
  refine my_Subscript (hv.val G fun u h1 t1 P1 S1 G1 R1 => hx.val G1 fun w h2 t2 P2 S2 G2 R2 => ?_) (fun o i => ⟨_, hs o i⟩)
  obtain ⟨_, rfl⟩ := R2.str_inv
  obtain ⟨a, es, n, rfl, hp, RL⟩ := R1.dict_inv
  obtain ⟨vs, hd, hr⟩ := dictOf_of (S2.ok _ _ (S2.sub _ _ hp)) (RL.mono S2.sub) hn
  obtain ⟨y, hy, Ry⟩ := hr.get hk
  exact ⟨"dict", _, slot_dict_getitem.lookup, hd.mapOf.typeIs, wpAny_getItem_of (knd := PySem.strKind c.prog c.w) (k := S k) (strKind_is _ _ _ _) hd.mapOf hy (q y h2 _ P2 (S1.trans S2) Ry)⟩
end
end
section
set_option maxRecDepth 100000
noncomputable def turn1 (x : Nat) : Nat := if x = 39 then 98 else if x = 98 then 39 else x
noncomputable def turnF (text : List Nat) : List Nat := text.map turn1
noncomputable def orderF (text : List Nat) (j p : Nat) : List Nat := if j < text.length ∧ [text.getD (j - p) 0] < [text.getD j 0] then turnF text else text
noncomputable def placesF (text : List Nat) (i j p : Nat) : List Int := (rng ((i : Int) + 1) (j - p - i)).filter fun k => primeF (subL (orderF text j p) k.toNat (k.toNat + p))
noncomputable def plT (text : List Nat) (r : Trip) : List Int := placesF text r.1.toNat r.2.1.toNat r.2.2.toNat
noncomputable abbrev Que := List Nat × List Nat × Bool
noncomputable def Q3 (a : Que) : D := .tup [.str a.1, .str a.2.1, .bool a.2.2]
noncomputable def askA (root st : List Nat) (p : Nat) : List Que :=
  [(root ++ [46, 46, 46] ++ root, sliceL st none (some (2 * (p : Int))), true), (root ++ [46, 46, 46] ++ root, sliceL st none (some (2 * (p : Int) - 1)), false)]
noncomputable def askB (root st : List Nat) (many : Nat) : List Que :=
  [((List.replicate (many : Int).toNat (root ++ [46, 46, 46])).flatten, st, true), ((List.replicate ((many : Int) + 1).toNat (root ++ [46, 46, 46])).flatten, st, false)]
noncomputable def askC (root st : List Nat) (many p : Nat) : List Que :=
  [((List.replicate (many : Int).toNat (root ++ [46, 46, 46])).flatten ++ root, sliceL st none (some ((many : Int) * p)), false), (root, st, false), (st, st, true)]
noncomputable def askD (root st : List Nat) (many p rem : Nat) : List Que :=
  [((List.replicate (many : Int).toNat ([46, 46, 46] ++ root)).flatten, st, decide ((rem : Int) = 0)), (root ++ [46, 46, 46, 46, 46, 46] ++ root, sliceL st none (some (2 * (p : Int))), true)]
noncomputable def askE (wide st : List Nat) (times : Nat) : List Que :=
  [((List.replicate (times : Int).toNat (wide ++ [46, 46, 46])).flatten, st, true), ((List.replicate ((times : Int) + 1).toNat (wide ++ [46, 46, 46])).flatten, st, false)]
noncomputable def askedF (text : List Nat) (i j p : Nat) : List Que :=
  askA (subL text i (i + p)) (subL text i j) p ++ askB (subL text i (i + p)) (subL text i j) ((j - i) / p) ++ askC (subL text i (i + p)) (subL text i j) ((j - i) / p) p
    ++ askD (subL text i (i + p)) (subL text i j) ((j - i) / p) p ((j - i) % p) ++ askE (subL text i (i + p) ++ sliceL (subL text i (i + p)) none (some 1)) (subL text i j) ((j - i - p - 1) / (2 * p) + 1)

theorem rep_len {n : Nat} {a : List Nat} (h1 : n ≤ 22) (h2 : a.length ≤ 30) : ((List.replicate n a).flatten).length ≤ 1000 := by
  rw [List.length_flatten, List.map_replicate, List.sum_replicate_nat]
  exact Nat.le_trans (Nat.mul_le_mul h1 h2) (by decide)
theorem ask_len {root st wide : List Nat} {p many times rem : Nat} (hr : root.length ≤ 20) (hs : st.length ≤ 20) (hw : wide.length ≤ 25) (hm : many ≤ 20) (ht : times ≤ 21) :
    ∀ q ∈ askA root st p ++ askB root st many ++ askC root st many p ++ askD root st many p rem ++ askE wide st times, q.1.length < 100000 ∧ q.2.1.length < 100000 := by
  have hsc : ∀ (hi : Int), (sliceL st none (some hi)).length < 100000 := fun hi => Nat.lt_of_le_of_lt (Nat.le_trans (sliceL_length_le _ _ _) hs) (by decide)
  have hs' : st.length < 100000 := Nat.lt_of_le_of_lt hs (by decide)
  have hr' : root.length < 100000 := Nat.lt_of_le_of_lt hr (by decide)
  have h2 : ∀ w, w.length ≤ 3 + 3 → (root ++ w ++ root).length < 100000 := by intro w hw; simp only [List.length_append]; (first | lia | omega)
  have hA : ∀ (a b : List Nat) (k : Nat), a.length ≤ 25 → b.length ≤ 25 → k ≤ 22 → ((List.replicate k (a ++ [46, 46, 46])).flatten).length < 100000 ∧ ((List.replicate k (a ++ [46, 46, 46])).flatten ++ b).length < 100000 ∧ ((List.replicate k ([46, 46, 46] ++ a)).flatten).length < 100000 := by
    intro a b k h1 h2 h3
    have e1 := rep_len (n := k) (a := a ++ [46, 46, 46]) h3 (by simp; (first | lia | omega))
    have e2 := rep_len (n := k) (a := [46, 46, 46] ++ a) h3 (by simp; (first | lia | omega))
    rw [List.length_append]; (first | lia | omega)
  have hm1 : (many : Int).toNat ≤ 22 := by first | lia | omega
  have hm2 : ((many : Int) + 1).toNat ≤ 22 := by first | lia | omega
  have ht1 : (times : Int).toNat ≤ 22 := by first | lia | omega
  have ht2 : ((times : Int) + 1).toNat ≤ 22 := by first | lia | omega
  have hr5 : root.length ≤ 25 := by first | lia | omega
  intro q hq
  simp only [askA, askB, askC, askD, askE, List.mem_append, List.mem_cons, List.not_mem_nil, or_false] at hq
  have h0 : ([] : List Nat).length ≤ 25 := by decide
  rcases hq with ((((h | h) | h | h) | h | h | h) | h | h) | h | h <;> subst h
  · exact ⟨h2 [46, 46, 46] (by decide), hsc _⟩
  · exact ⟨h2 [46, 46, 46] (by decide), hsc _⟩
  · exact ⟨(hA root [] _ hr5 h0 hm1).1, hs'⟩
  · exact ⟨(hA root [] _ hr5 h0 hm2).1, hs'⟩
  · exact ⟨(hA root root _ hr5 hr5 hm1).2.1, hsc _⟩
  · exact ⟨hr', hs'⟩
  · exact ⟨hs', hs'⟩
  · exact ⟨(hA root [] _ hr5 h0 hm1).2.2, hs'⟩
  · exact ⟨h2 [46, 46, 46, 46, 46, 46] (by decide), hsc _⟩
  · exact ⟨(hA wide [] _ hw h0 ht1).1, hs'⟩
  · exact ⟨(hA wide [] _ hw h0 ht2).1, hs'⟩

structure Law2 (text : List Nat) : Prop where
  shape : ∀ r ∈ runsI text text.length, ∃ i j p : Nat, r = ((i : Int), (j : Int), (p : Int)) ∧ 1 ≤ p ∧ i + 2 * p ≤ j ∧ j ≤ text.length
  many : ∀ i j p : Nat, ((i : Int), (j : Int), (p : Int)) ∈ runsI text text.length → (j - i) / p ≤ (placesF text i j p).length + 1
  apart : (runsI text text.length).Pairwise fun r s => ∀ k ∈ plT text r, k ∉ plT text s
  asked : ∀ i j p : Nat, ((i : Int), (j : Int), (p : Int)) ∈ runsI text text.length → ∀ q ∈ askedF text i j p, matchF q.1 q.2.1 = q.2.2
  primes : (runsI text text.length).Perm (byF text text ++ (byF text (turnF text)).filter fun r => !decide (r ∈ byF text text))
  sorted : (runsI text text.length).Pairwise fun a b => code a < code b
  anss : ∀ a ∈ ansI text text.length, ∃ (st : List Nat) (p : Nat), a = (spellF st p, (p : Int), ansF st p) ∧ 1 ≤ p ∧ 2 * p ≤ st.length ∧ st.length ≤ text.length ∧ ∀ x ∈ st, x ∈ text
  cut : ∀ (st : List Nat) (p : Nat), 1 ≤ p → 2 * p ≤ st.length → (∀ x ∈ st, x ∈ text) → ansF st p = cutF (spellF st p) ((spellF st p).take p)
  last1 : capF1 ([9] ++ text ++ [10, 32] ++ text.map up1) = ((text.take 1).map up1 ++ text.drop 1) ++ [32] ++ ((text.take 1).map up1 ++ text.drop 1)
  last2 : capF2 (text ++ text.map up1) ((text.take 1).map up1) = cutF (text ++ text.map up1) ((text.take 1).map up1)

noncomputable def onTrip (p : Trip → Bool) : D → Bool
  | .tup [.int a, .int b, .int c] => p (a, b, c)
  | _ => false
theorem filter_onTrip (p : Trip → Bool) : ∀ ts : List Trip, ((ts.map T3).filter (onTrip p)).map id = (ts.filter p).map T3
  | [] => rfl
  | n :: ns => by
    have ih := filter_onTrip p ns
    rw [List.map_id] at ih ⊢
    rw [List.map_cons, List.filter_cons, List.filter_cons, ih]
    show (if p n = true then _ else _) = _
    split <;> simp
noncomputable def turnD : D → D
  | .str l => .str (l.map turn1)
  | d => d
theorem joinL_empty : ∀ (l : List Nat) (f : Nat → Nat), joinL [] (l.map fun x => [f x]) = l.map f := by
  intro l f
  induction l with
  | nil => rfl
  | cons a r ih =>
    cases r with
    | nil => rfl
    | cons b r => rw [List.map_cons, List.map_cons] at ih ⊢; rw [joinL]; simp at ih ⊢; exact ih
end
section
set_option maxRecDepth 100000
noncomputable def text2 (script : List Int) : List Nat := (script.take 10 ++ ([2, 5, 5, 0, 6, 6, 6, 5] : List Int).drop script.length).foldl textStep []

set_option maxHeartbeats 2000000 in
theorem fn_law (w : World) (mb : Str → Option Value) (script : List Int) (hs : script.length ≤ 63) (text : List Nat) (ht : text2 script = text) (hl : text.length ≤ 20) (hpos : 1 ≤ text.length) (hsg : ∀ x ∈ text, x = 39 ∨ x = 97 ∨ x = 98) (H : Law2 text) :
    Fn (cx2 w mb) 4 79 [.list (script.map D.int)] (.bool true) := by
  have hSL := sizeLine_val
  have ha : ∀ x ∈ text, x < 128 := fun x hx => by rcases hsg x hx with h | h | h <;> (first | lia | omega)
  refine fn_intro (xs := ["script"]) rfl rfl rfl rfl rfl rfl rfl rfl ?_ rfl (by decide +kernel) rfl rfl rfl ?_
  · intro vals h
    obtain ⟨_, rfl⟩ := len1 h; exact rfl
  intro A L hA
  have hA2 : AOk 2 A := hA.le (by first | lia | omega)
  have hA1 : AOk 1 A := hA.le (by first | lia | omega)
  -- text
  have hnum : sliceL (script.map D.int) none (some 10) ++ sliceL (([2, 5, 5, 0, 6, 6, 6, 5] : List Int).map D.int) (some (script.length : Int)) none = (script.take 10 ++ ([2, 5, 5, 0, 6, 6, 6, 5] : List Int).drop script.length).map D.int := by
    rw [sliceL_0n _ (by first | lia | omega), sliceL_n0 _ (by first | lia | omega), List.map_append, List.map_take, List.map_drop]; rfl
  have hnl : (script.take 10 ++ ([2, 5, 5, 0, 6, 6, 6, 5] : List Int).drop script.length).length ≤ 100 := by
    rw [List.length_append, List.length_take, List.length_drop]
    exact Nat.le_trans (Nat.add_le_add (Nat.min_le_left _ _) (Nat.sub_le _ _)) (by decide)
  refine ex_assign (d := .str text) (ev_call (f := 36) (ds := [.list ((script.take 10 ++ ([2, 5, 5, 0, 6, 6, 6, 5] : List Int).drop script.length).map D.int)]) rfl rfl rfl rfl ?_ (by rw [← ht]; exact fn_text w mb _ hnl) hA1 (.inr ⟨_, _, rfl⟩) (by decide +kernel)) (by (first | exact Or.inl rfl | exact Or.inr ⟨rfl, rfl⟩)) (by walk_at "mset") ?_
  · rw [← hnum]
    refine evl_cons (ev_binop (a := .list (sliceL (script.map D.int) none (some 10))) (b := .list (sliceL (([2, 5, 5, 0, 6, 6, 6, 5] : List Int).map D.int) (some (script.length : Int)) none)) (ev_slice_list (by walk_at "mev") (by walk_at "mevo") (by walk_at "mevo") (by walk_at "mside")) (ev_slice_list (ds := ([2, 5, 5, 0, 6, 6, 6, 5] : List Int).map D.int) (by walk_at "mev") (evo_some ?_) evo_none (by decide)) (op_add_list ?_)) evl_nil
    · exact ev_len (d := .list (script.map D.int)) rfl rfl (by walk_at "mev") (congrArg some (List.length_map _)) (by first | lia | omega)
    · have h1 := sliceL_length_le (script.map D.int) none (some 10)
      have h2 := sliceL_length_le (([2, 5, 5, 0, 6, 6, 6, 5] : List Int).map D.int) (some (script.length : Int)) none
      simp only [List.length_map, List.length_cons, List.length_nil] at h1 h2
      (first | lia | omega)
  -- turned
  refine ex_assign (d := .str (turnF text)) ?_ (by (first | exact Or.inl rfl | exact Or.inr ⟨rfl, rfl⟩)) (by walk_at "mset") ?_
  · have hj := joinL_empty text turn1
    unfold turnF
    rw [← hj]
    refine ev_join (by walk_at "mev") ?_ (by
      have : ∀ l : List Nat, ((l.map fun x => [turn1 x]).map (·.length)).sum = l.length := by
        intro l; induction l with
        | nil => rfl
        | cons a r ih => simp only [List.map_cons, List.sum_cons, List.length_cons, List.length_nil, ih]; (first | lia | omega)
      rw [this]; simp; (first | lia | omega))
    have hds : (text.map fun x => [turn1 x]).map D.str = ((text.map fun a => D.str [a]).filter fun _ => true).map turnD := by
      rw [List.filter_eq_self.mpr (by simp)]; simp [turnD]
    rw [hds]
    refine ev_listcomp (σc := []) (fun _ => true) turnD (det_chars _) (evi_str hA.handled (by walk_at "mev") ha) ⟨by simp, by simp, by simp⟩ ?_ ?_ ?_ ?_ rfl ?_ rfl ?_ rfl
    · intro C d hd; exact rfl
    · intro C d hd _
      obtain ⟨a, hm, rfl⟩ := List.mem_map.mp hd
      refine ev_item_dict (kvs := [([39], .str [98]), ([97], .str [97]), ([98], .str [39])]) (k := [a]) (ev_of_evfd (evf_dict (evp_cons (by walk_at "mev") (by walk_at "mev") (evp_cons (by walk_at "mev") (by walk_at "mev") (evp_cons (by walk_at "mev") (by walk_at "mev") evp_nil))) (by decide))) (by walk_at "mev") (by decide) ?_
      rcases hsg a hm with rfl | rfl | rfl <;> rfl
    · intro d hd
      obtain ⟨a, hm, rfl⟩ := List.mem_map.mp hd
      trivial
    · simp; (first | lia | omega)
    · decide +kernel
    · decide +kernel
  have hturn : (turnF text).length = text.length := by simp [turnF]
  have hta : ∀ x ∈ turnF text, x < 128 := by
    intro x hx
    obtain ⟨y, hy, rfl⟩ := List.mem_map.mp hx
    have := ha y hy
    unfold turn1; split <;> (try split) <;> (first | lia | omega)
  -- runs, answers
  refine ex_assign_tup (xs := ["runs", "answers"]) (ds := [.list ((runsI text text.length).map T3), .list ((ansI text text.length).map A3)]) (ev_call (f := 57) rfl rfl rfl rfl (by walk_at "mevl") (fn_runs w mb text (by first | lia | omega) ha) hA (.inr ⟨_, _, rfl⟩) (by decide +kernel)) hA.handled (.cons stores_name (.inl rfl) (.cons stores_name (.inl rfl) .nil)) rfl (by walk_at "mset") ?_
  have hRl := runsI_len text (by first | lia | omega) text.length
  have hAl := ansI_len text (by first | lia | omega) text.length
  obtain ⟨hShape, hMany, hApart, hAsked, hPrimes, hSorted, hAnss, hCut, hLast1, hLast2⟩ := H
  generalize runsI text text.length = runs at hRl hShape hMany hApart hAsked hPrimes hSorted
  generalize ansI text text.length = answers at hAl hAnss
  refine ex_assign (d := .list (([] : List Int).map D.int)) (ev_list evl_nil) (by (first | exact Or.inl rfl | exact Or.inr ⟨rfl, rfl⟩)) (by walk_at "mset") ?_
  -- first loop
  refine ex_for (J := fun t σ => σ = [("script", .val (.list (script.map D.int))), ("text", .val (.str text)), ("turned", .val (.str (turnF text))), ("runs", .val (.list (runs.map T3))), ("answers", .val (.list (answers.map A3))), ("owned", .val (.list (((runs.take t).flatMap (plT text)).map D.int)))])
    (f := fun d σ => match d with | .tup ds => setAll σ ["i", "j", "p"] ds | _ => σ) (evi_list hA.handled (by walk_at "mev")) ?_ rfl ?_ ?_
  · intro d hd
    obtain ⟨r, _, rfl⟩ := List.mem_map.mp hd
    exact binds_tup hA.handled (.cons stores_name (.inl rfl) (.cons stores_name (.inl rfl) (.cons stores_name (.inr ⟨rfl, rfl⟩) .nil))) rfl
  · rintro t d σ' hd rfl
    rw [List.getElem?_map] at hd
    obtain ⟨r, hr, rfl⟩ := Option.map_eq_some_iff.mp hd
    have hmem := List.mem_of_getElem? hr
    obtain ⟨i, j, p, rfl, hp1, hij, hj⟩ := hShape r hmem
    have hm := hMany i j p hmem
    have htk : runs.take (t + 1) = runs.take t ++ [((i : Int), (j : Int), (p : Int))] := by rw [List.take_add_one, hr]; rfl
    have hdis : ∀ k ∈ placesF text i j p, k ∉ (runs.take t).flatMap (plT text) := by
      intro k hk hc
      obtain ⟨s, hs1, hs2⟩ := List.mem_flatMap.mp hc
      obtain ⟨u, hu, hus⟩ := List.mem_iff_getElem.mp hs1
      rw [List.length_take] at hu
      rw [List.getElem_take] at hus
      have hrt : t < runs.length := by
        rcases Nat.lt_or_ge t runs.length with h | h
        · exact h
        · rw [List.getElem?_eq_none h] at hr; cases hr
      have := List.pairwise_iff_getElem.mp hApart u t (by first | lia | omega) hrt (by first | lia | omega)
      rw [hus] at this
      refine this k hs2 ?_
      rw [(List.getElem?_eq_some_iff.mp hr).2]
      exact hk
    have hown : (((runs.take t).flatMap (plT text))).length ≤ 1000000 := by
      have h1 : ∀ l : List Trip, (∀ r ∈ l, (plT text r).length ≤ 100) → (l.flatMap (plT text)).length ≤ 100 * l.length := by
        intro l; induction l with
        | nil => intro _; simp
        | cons a r ih =>
          intro h
          have e1 := ih fun x hx => h x (.tail _ hx)
          have e2 := h a (.head _)
          simp only [List.flatMap_cons, List.length_append, List.length_cons]; (first | lia | omega)
      have h2 := h1 (runs.take t) (fun r hr => by
        obtain ⟨i, j, p, rfl, q1, q2, q3⟩ := hShape r (List.mem_of_mem_take hr)
        unfold plT placesF
        refine Nat.le_trans (List.length_filter_le _ _) ?_
        simp [rng]; (first | lia | omega))
      have h3 : (runs.take t).length ≤ runs.length := by rw [List.length_take]; (first | lia | omega)
      (first | lia | omega)
    rw [htk, List.flatMap_append]
    rw [show ([((i : Int), (j : Int), (p : Int))] : List Trip).flatMap (plT text) = placesF text i j p from by simp [plT]]
    generalize (runs.take t).flatMap (plT text) = owned at hdis hown
    refine ex_conv (show Mine.setAll _ ["i", "j", "p"] [.int _, .int _, .int _] = _ by walk_at "mset") ?_
    have htj : ∀ x : Nat, x < text.length → (seqIndex? (x : Int) text.length).bind (text[·]?) = some (text.getD x 0) := by
      intro x hx
      rw [List.getD_eq_getElem?_getD, List.getElem?_eq_getElem hx]
      exact item_at rfl hx
    refine ex_assign (d := .str (orderF text j p)) ?_ (by (first | exact Or.inl rfl | exact Or.inr ⟨rfl, rfl⟩)) (by walk_at "mset") ?_
    · have ho : orderF text j p = if (decide ((j : Int) < text.length) && decide ([text.getD (j - p) 0] < [text.getD j 0])) = true then turnF text else text := by
        unfold orderF
        by_cases h1 : j < text.length <;> by_cases h2 : [text.getD (j - p) 0] < [text.getD j 0] <;> simp [h1, h2]
      rw [ho]
      refine ev_ifexp_str (evt_and (by walk_at "mevt") fun hb => ?_) (fun _ => by walk_at "mev") (fun _ => by walk_at "mev")
      simp only [decide_eq_true_eq] at hb
      refine evt_cmp (ev_item_str (l := text) (i := (j : Int)) (by walk_at "mev") (by walk_at "mev") (htj j (by first | lia | omega)) (by first | lia | omega)) (ev_item_str (l := text) (i := (j : Int) - p) (by walk_at "mev") (by walk_at "mev") ?_ (by first | lia | omega)) op_gt_str
      have := htj (j - p) (by first | lia | omega)
      rwa [show (((j - p : Nat)) : Int) = (j : Int) - p from by first | lia | omega] at this
    have hol : (orderF text j p).length = text.length := by unfold orderF; split <;> simp [hturn]
    have hpl : (placesF text i j p).length ≤ 100 := by
      unfold placesF
      refine Nat.le_trans (List.length_filter_le _ _) ?_
      simp [rng]; (first | lia | omega)
    refine ex_assign_comp (σc := [("order", .val (.str (orderF text j p))), ("p", .val (.int p))]) (onInt fun k => primeF (subL (orderF text j p) k.toNat (k.toNat + p))) id (det_range _ _ _) (evi_range2 hA.handled rfl rfl (a := (i : Int) + 1) (b := (j : Int) - p + 1) (by walk_at "mev") (by walk_at "mev") (by first | lia | omega) (by first | lia | omega)) ⟨by walk_at "msub", ?_, ?_⟩ ?_ ?_ ?_ ?_ rfl ?_ rfl ?_ rfl (by (first | exact Or.inl rfl | exact Or.inr ⟨rfl, rfl⟩)) rfl ?_ rfl
    · intro y d h; simp at h
    · intro q hq
      simp only [List.mem_cons, List.not_mem_nil, or_false] at hq
      rcases hq with rfl | rfl
      · exact ⟨rfl, rfl, rfl⟩
      · exact ⟨rfl, rfl, rfl⟩
    · intro C d hd
      obtain ⟨u, hu, rfl⟩ : ∃ u : Nat, u < ((j : Int) - p + 1 - ((i : Int) + 1)).toNat ∧ d = .int ((i : Int) + 1 + u * 1) := by
        obtain ⟨u, hu⟩ := List.mem_iff_getElem?.mp hd
        exact ⟨u, rangeD_get hu⟩
      show EvT _ _ _ _ _ (primeF (subL (orderF text j p) ((i : Int) + 1 + u * 1).toNat (((i : Int) + 1 + u * 1).toNat + p)))
      have hsl := subL_slice (orderF text j p) (i := (i : Int) + 1 + u * 1) (j := (i : Int) + 1 + u * 1 + p) (by first | lia | omega) (by first | lia | omega)
      rw [show ((i : Int) + 1 + u * 1 + p).toNat = ((i : Int) + 1 + u * 1).toNat + p from by first | lia | omega] at hsl
      rw [← hsl]
      refine evt_of_ev (ev_call (f := 62) rfl rfl rfl rfl (by walk_at "mevl") (fn_prime w mb _ ?_) hA1 (.inr ⟨_, _, rfl⟩) (by decide +kernel)) rfl
      have := sliceL_length_le (orderF text j p) (some ((i : Int) + 1 + u * 1)) (some ((i : Int) + 1 + u * 1 + p))
      (first | lia | omega)
    · intro C d hd _
      walk_at "mev"
    · intro d hd
      obtain ⟨u, hu⟩ := List.mem_iff_getElem?.mp hd
      obtain ⟨_, rfl⟩ := rangeD_get hu
      trivial
    · rw [rangeD_length]; (first | lia | omega)
    · decide +kernel
    · decide +kernel
    rw [show rangeD ((i : Int) + 1) 1 ((j : Int) - p + 1 - ((i : Int) + 1)).toNat = (rng ((i : Int) + 1) (j - p - i)).map D.int from by rw [rangeD_rng]; congr 2; (first | lia | omega), filter_onInt]
    rw [show (rng ((i : Int) + 1) (j - p - i)).filter (fun k => primeF (subL (orderF text j p) k.toNat (k.toNat + p))) = placesF text i j p from rfl]
    generalize placesF text i j p = places at hm hdis hpl
    have hq1 : (j - i) / p ≤ 100 := Nat.le_trans (Nat.div_le_self _ _) (by first | lia | omega)
    have hfd : decide ((places.length : Int) < (((j - i) / p : Nat) : Int) - 1) = false := by rw [decide_eq_false_iff_not]; (first | lia | omega)
    have hlp : (places.map D.int).length = places.length := List.length_map _
    refine ex_if_ret (b := decide ((places.length : Int) < (((j - i) / p : Nat) : Int) - 1) || !decide (places.filter (fun k => decide (k ∈ owned)) = [])) (evt_or (evt_cmp (ev_len (d := .list (places.map D.int)) rfl rfl (by walk_at "mev") (congrArg some hlp) (by first | lia | omega)) (ev_binop (ev_binop (a := .int ((j - i : Nat) : Int)) (by rw [Int.ofNat_sub (by first | lia | omega)]; walk_at "mev") (by walk_at "mev") (op_fdiv_nat (by first | lia | omega) (by first | lia | omega))) (by walk_at "mev") op_sub_int) op_lt_int) fun _ => evt_cmp (a := .list ((places.filter fun k => decide (k ∈ owned)).map D.int)) (b := .list (([] : List Int).map D.int)) ?_ (by walk_at "mev") (op_ne_ints hA)) ?_ ?_
    · rw [← filter_onInt]
      refine ev_listcomp (σc := [("owned", .val (.list (owned.map D.int)))]) (onInt fun k => decide (k ∈ owned)) id (det_ints _) (evi_list hA.handled (by walk_at "mev")) ⟨by walk_at "msub", ?_, ?_⟩ ?_ ?_ ?_ ?_ rfl ?_ rfl ?_ rfl
      · intro y d h; simp at h
      · intro q hq
        rw [List.mem_singleton.mp hq]; exact ⟨rfl, rfl, rfl⟩
      · intro C d hd
        obtain ⟨k, _, rfl⟩ := List.mem_map.mp hd
        show EvT _ _ _ _ _ (decide (k ∈ owned))
        exact evt_cmp (by walk_at "mev") (by walk_at "mev") (op_in_ints hA)
      · intro C d hd _
        walk_at "mev"
      · intro d hd
        obtain ⟨k, _, rfl⟩ := List.mem_map.mp hd
        trivial
      · rw [hlp]; (first | lia | omega)
      · decide +kernel
      · decide +kernel
    · intro hb
      exfalso
      have he : places.filter (fun k => decide (k ∈ owned)) = [] := by
        rw [List.filter_eq_nil_iff]; intro k hk; simpa using hdis k hk
      rw [hfd, he] at hb
      simp at hb
    intro _
    refine ex_assign (d := .list ((owned ++ places).map D.int)) (by rw [List.map_append]; exact ev_binop (by walk_at "mev") (by walk_at "mev") (op_add_list (by simp; (first | lia | omega)))) (by (first | exact Or.inl rfl | exact Or.inr ⟨rfl, rfl⟩)) (by walk_at "mset") ?_
    exact ex_end (by walk_at "msub") rfl
  rintro σ' rfl
  generalize ((runs.take (runs.map T3).length).flatMap (plT text)) = owned
  -- second loop
  refine ex_weaken (σ' := [("text", .val (.str text)), ("turned", .val (.str (turnF text))), ("runs", .val (.list (runs.map T3))), ("answers", .val (.list (answers.map A3)))]) (by walk_at "msub") ?_
  refine ex_for (J := fun t σ => σ = [("text", .val (.str text)), ("turned", .val (.str (turnF text))), ("runs", .val (.list (runs.map T3))), ("answers", .val (.list (answers.map A3)))])
    (f := fun d σ => match d with | .tup ds => setAll σ ["i", "j", "p"] ds | _ => σ) (evi_list hA.handled (by walk_at "mev")) ?_ rfl ?_ ?_
  · intro d hd
    obtain ⟨r, _, rfl⟩ := List.mem_map.mp hd
    exact binds_tup hA.handled (.cons stores_name (.inl rfl) (.cons stores_name (.inl rfl) (.cons stores_name (.inr ⟨rfl, rfl⟩) .nil))) rfl
  · rintro t d σ' hd rfl
    rw [List.getElem?_map] at hd
    obtain ⟨r, hr, rfl⟩ := Option.map_eq_some_iff.mp hd
    have hmem := List.mem_of_getElem? hr
    obtain ⟨i, j, p, rfl, hp1, hij, hj⟩ := hShape r hmem
    have hq := hAsked i j p hmem
    refine ex_conv (show Mine.setAll _ ["i", "j", "p"] [.int _, .int _, .int _] = _ by walk_at "mset") ?_
    unfold askedF at hq
    have hs1 : sliceL text (some (i : Int)) (some ((i : Int) + p)) = subL text i (i + p) := subL_slice' _ rfl rfl
    have hs2 : sliceL text (some (i : Int)) (some (j : Int)) = subL text i j := subL_slice' _ rfl rfl
    have hrl : (subL text i (i + p)).length ≤ 20 := by unfold subL; simp; (first | lia | omega)
    have hsl : (subL text i j).length ≤ 20 := by unfold subL; simp; (first | lia | omega)
    have hmb : (j - i) / p ≤ 20 := Nat.le_trans (Nat.div_le_self _ _) (by first | lia | omega)
    have htb : (j - i - p - 1) / (2 * p) + 1 ≤ 21 := by have := Nat.div_le_self (j - i - p - 1) (2 * p); (first | lia | omega)
    have hE : ((j - i : Nat) : Int) = (j : Int) - (i : Int) := by first | lia | omega
    have hE2 : ((j - i - p - 1 : Nat) : Int) = (j : Int) - (i : Int) - p - 1 := by first | lia | omega
    have hE3 : ((2 * p : Nat) : Int) = 2 * (p : Int) := by first | lia | omega
    refine ex_assign_swap (names := [Str.ofString "root", Str.ofString "many", Str.ofString "stretch"]) (xs := ["stretch", "many", "root"]) (ds := [.str (subL text i (i + p)), .int (((j - i) / p : Nat) : Int), .str (subL text i j)])
      (ev_tuple (evl_cons (by rw [← hs1]; walk_at "mev") (evl_cons (ev_binop (a := .int ((j - i : Nat) : Int)) (by rw [hE]; walk_at "mev") (by walk_at "mev") (op_fdiv_nat (by first | lia | omega) (by first | lia | omega))) (evl_cons (by rw [← hs2]; walk_at "mev") evl_nil)))) hA.handled rfl (.cons stores_bind (.inl rfl) (.cons stores_bind (.inl rfl) (.cons stores_bind (.inl rfl) .nil))) rfl rfl (by walk_at "mset") ?_
    have hB : ∀ (n : Nat) (a : List Nat), n ≤ 22 → a.length ≤ 30 → ((List.replicate n a).flatten).length ≤ 1000 := by
      intro n a h1 h2
      rw [List.length_flatten, List.map_replicate, List.sum_replicate_nat]
      exact Nat.le_trans (Nat.mul_le_mul h1 h2) (by decide)
    have hdiv : ∀ (m n : Nat), (m : Int).toNat = m := fun m _ => Int.toNat_natCast m
    generalize hroot : subL text i (i + p) = root at hq hrl
    generalize hstr : subL text i j = st at hq hsl
    generalize hmany : (j - i) / p = many at hq hmb
    generalize htimes : (j - i - p - 1) / (2 * p) + 1 = times at hq htb
    clear hMany
    have hbits : Builtin.Int.intBits (many : Int) ≤ 64 := (show ∀ m : Nat, m ≤ 20 → Builtin.Int.intBits (m : Int) ≤ 64 by decide +kernel) many hmb
    refine ex_assign_own (d := .list ((askA root st p).map Q3)) (evf_list (by walk_at "mevl")) (.inl rfl) (by walk_at "mset") ?_
    refine ex_iadd_own (es := (askB root st many).map Q3) (by walk_at "mmem") (by walk_at "mev") (.inl rfl) (by simp [askA, askB]) (by walk_at "mset") ?_
    refine ex_iadd_own (es := (askC root st many p).map Q3) (by walk_at "mmem") ?_ (.inl rfl) (by simp [askA, askB, askC]) (by walk_at "mset") ?_
    · refine ev_list (evl_cons (ev_tuple (evl_cons (ev_binop (by walk_at "mev") (by walk_at "mev") (op_add_str ?_)) (evl_cons (ev_slice_str (by walk_at "mev") evo_none (evo_some (ev_binop (by walk_at "mev") (by walk_at "mev") (op_mul_int (IntMulOk.of_left hbits)))) (by walk_at "mside")) (evl_cons (by walk_at "mev") evl_nil)))) (evl_cons (by walk_at "mev") (evl_cons (by walk_at "mev") evl_nil)))
      have := hB many (root ++ [46, 46, 46]) (by first | lia | omega) (by simp; (first | lia | omega))
      rw [Int.toNat_natCast]; (first | lia | omega)
    refine ex_iadd_own (es := (askD root st many p ((j - i) % p)).map Q3) (by walk_at "mmem") ?_ (.inl rfl) (by simp [askA, askB, askC, askD]) (by walk_at "mset") ?_
    · refine ev_list (evl_cons (ev_tuple (evl_cons (by walk_at "mev") (evl_cons (by walk_at "mev") (evl_cons (ev_cmp (ev_binop (a := .int ((j - i : Nat) : Int)) (by rw [hE]; walk_at "mev") (by walk_at "mev") (op_mod_nat (by first | lia | omega))) (by walk_at "mev") op_eq_int) evl_nil)))) (evl_cons (by walk_at "mev") evl_nil))
    refine ex_assign_swap (names := [Str.ofString "wide", Str.ofString "times"]) (xs := ["times", "wide"]) (ds := [.str (root ++ sliceL root none (some 1)), .int (times : Int)]) ?_ hA.handled rfl (.cons stores_bind (.inl rfl) (.cons stores_bind (.inl rfl) .nil)) rfl rfl (by walk_at "mset") ?_
    · refine ev_tuple (evl_cons (ev_binop (by walk_at "mev") (by walk_at "mev") (op_add_str (by have := sliceL_length_le root none (some 1); (first | lia | omega)))) (evl_cons ?_ evl_nil))
      rw [show (times : Int) = (((j - i - p - 1) / (2 * p) : Nat) : Int) + 1 from by rw [← htimes]; rfl]
      refine ev_binop (a := .int (((j - i - p - 1) / (2 * p) : Nat) : Int)) (ev_binop (a := .int ((j - i - p - 1 : Nat) : Int)) (b := .int ((2 * p : Nat) : Int)) (by rw [hE2]; walk_at "mev") (by rw [hE3]; walk_at "mev") (op_fdiv_nat (by first | lia | omega) (by first | lia | omega))) (by walk_at "mev") op_add_int
    have hwl : (root ++ sliceL root none (some 1)).length ≤ 25 := by
      rw [sliceL_0n _ (by first | lia | omega), List.length_append, List.length_take]; (first | lia | omega)
    generalize root ++ sliceL root none (some 1) = wide at hq hwl
    refine ex_iadd_own (es := (askE wide st times).map Q3) (by walk_at "mmem") (by walk_at "mev") (.inl rfl) (by simp [askA, askB, askC, askD, askE]) (by walk_at "mset") ?_
    refine ex_freeze (x := "asked") (by walk_at "mmem") (by walk_at "mset") ?_
    have hql := ask_len (p := p) (rem := (j - i) % p) hrl hsl hwl hmb htb
    simp only [← List.map_append]
    generalize askA root st p ++ askB root st many ++ askC root st many p ++ askD root st many p ((j - i) % p) ++ askE wide st times = asked at hq hql
    refine ex_weaken (σ' := [("text", .val (.str text)), ("turned", .val (.str (turnF text))), ("runs", .val (.list (runs.map T3))), ("answers", .val (.list (answers.map A3))), ("asked", .val (.list (asked.map Q3)))]) (by walk_at "msub") ?_
    refine ex_for (J := fun t σ => σ = [("text", .val (.str text)), ("turned", .val (.str (turnF text))), ("runs", .val (.list (runs.map T3))), ("answers", .val (.list (answers.map A3))), ("asked", .val (.list (asked.map Q3)))])
      (f := fun d σ => match d with | .tup ds => setAll σ ["want", "got", "due"] ds | _ => σ) (evi_list hA.handled (by walk_at "mev")) ?_ rfl ?_ ?_
    · intro d hd
      obtain ⟨r, _, rfl⟩ := List.mem_map.mp hd
      exact binds_tup hA.handled (.cons stores_name (.inl rfl) (.cons stores_name (.inl rfl) (.cons stores_name (.inl rfl) .nil))) rfl
    · rintro t d σ' hd rfl
      rw [List.getElem?_map] at hd
      obtain ⟨⟨want, got, due⟩, hr, rfl⟩ := Option.map_eq_some_iff.mp hd
      have hm := List.mem_of_getElem? hr
      have h1 := hq _ hm
      have h2 := hql _ hm
      simp only at h1 h2
      refine ex_conv (show Mine.setAll _ ["want", "got", "due"] [.str _, .str _, .bool _] = _ by walk_at "mset") ?_
      refine ex_if_ret (b := !(matchF want got == due)) (evt_cmp (ev_call (f := 29) rfl rfl rfl rfl (by walk_at "mevl") (fn_match w mb want got h2.1 h2.2) hA1 (.inr ⟨_, _, rfl⟩) (by decide +kernel)) (by walk_at "mev") op_isnot_bool) ?_ ?_
      · intro hb
        rw [h1] at hb; simp at hb
      · intro _
        exact ex_end (by walk_at "msub") rfl
    · rintro σ' rfl
      exact ex_end (by walk_at "msub") rfl
  rintro σ' rfl
  -- primes
  have hb1 := byF_len text text text.length
  have hb2 := byF_len text (turnF text) text.length
  change (byF text text).length ≤ _ at hb1
  change (byF text (turnF text)).length ≤ _ at hb2
  refine ex_assign (d := .list ((byF text text).map T3)) (ev_call (f := 74) rfl rfl rfl rfl (by walk_at "mevl") (fn_by w mb text text (by first | lia | omega) rfl) hA2 (.inr ⟨_, _, rfl⟩) (by decide +kernel)) (by (first | exact Or.inl rfl | exact Or.inr ⟨rfl, rfl⟩)) (by walk_at "mset") ?_
  generalize byF text text = by1 at hb1 hPrimes
  refine ex_assign (d := .list ((by1 ++ (byF text (turnF text)).filter fun r => !decide (r ∈ by1)).map T3)) ?_ (by (first | exact Or.inl rfl | exact Or.inr ⟨rfl, rfl⟩)) (by walk_at "mset") ?_
  · rw [List.map_append, ← filter_onTrip]
    refine ev_binop (by walk_at "mev") (ev_listcompK (ds := (byF text (turnF text)).map T3) (σc := [("primes", .val (.list (by1.map T3)))]) (onTrip fun r => !decide (r ∈ by1)) id (det_trips _) (evi_list hA.handled (ev_call (f := 74) rfl rfl rfl rfl (by walk_at "mevl") (fn_by w mb text (turnF text) (by first | lia | omega) hturn) hA2 (.inr ⟨_, _, rfl⟩) (by decide +kernel))) ⟨by walk_at "msub", ?_, ?_⟩ ?_ ?_ ?_ rfl ?_ rfl ?_ rfl) (op_add_list ?_)
    · intro y d h; simp at h
    · intro q hq
      rw [List.mem_singleton.mp hq]; exact ⟨rfl, rfl, rfl⟩
    · intro C d hd
      obtain ⟨r, _, rfl⟩ := List.mem_map.mp hd
      show EvT _ _ _ _ _ (!decide (r ∈ by1))
      exact evt_cmp (by walk_at "mev") (by walk_at "mev") (op_notin_trips hA)
    · intro C d hd _
      exact evk_name (by walk_at "mmem")
    · rw [List.length_map]; (first | lia | omega)
    · decide +kernel
    · decide +kernel
    · have := List.length_filter_le (onTrip fun r => !decide (r ∈ by1)) ((byF text (turnF text)).map T3)
      simp only [List.length_map] at this ⊢; (first | lia | omega)
  have hpl : (by1 ++ (byF text (turnF text)).filter fun r => !decide (r ∈ by1)).length < 64 := by
    have := List.length_filter_le (fun r => !decide (r ∈ by1)) (byF text (turnF text))
    rw [List.length_append]; (first | lia | omega)
  have hB : ∀ t ∈ by1 ++ (byF text (turnF text)).filter fun r => !decide (r ∈ by1), InB t := by
    intro r hr
    obtain ⟨i, j, p, rfl, q1, q2, q3⟩ := hShape r (hPrimes.mem_iff.mpr hr)
    unfold InB; simp only; (first | lia | omega)
  generalize (by1 ++ (byF text (turnF text)).filter fun r => !decide (r ∈ by1)) = primes at hPrimes hpl hB
  refine ex_if_ret (b := !decide (runs = runs)) (evt_cmp (ev_sorted_trips rfl rfl (by walk_at "mev") hpl hB hPrimes hSorted) (by walk_at "mev") (op_ne_trips hA)) ?_ ?_
  · intro hb; simp at hb
  intro _
  -- answers
  refine ex_weaken (σ' := [("text", .val (.str text)), ("answers", .val (.list (answers.map A3)))]) (by walk_at "msub") ?_
  refine ex_for (J := fun t σ => σ = [("text", .val (.str text)), ("answers", .val (.list (answers.map A3)))])
    (f := fun d σ => match d with | .tup ds => setAll σ ["spelled", "p", "answer"] ds | _ => σ) (evi_list hA.handled (by walk_at "mev")) ?_ rfl ?_ ?_
  · intro d hd
    obtain ⟨r, _, rfl⟩ := List.mem_map.mp hd
    exact binds_tup hA.handled (.cons stores_name (.inl rfl) (.cons stores_name (.inr ⟨rfl, rfl⟩) (.cons stores_name (.inl rfl) .nil))) rfl
  · rintro t d σ' hd rfl
    rw [List.getElem?_map] at hd
    obtain ⟨a, hr, rfl⟩ := Option.map_eq_some_iff.mp hd
    obtain ⟨st, p, rfl, h1, h2, h3, h4⟩ := hAnss a (List.mem_of_getElem? hr)
    have hc := hCut st p h1 h2 h4
    have hspl : (spellF st p).length = st.length := by unfold spellF; split <;> simp
    have hspa : ∀ x ∈ spellF st p, x < 128 := by
      unfold spellF; split
      · intro x hx; obtain ⟨y, hy, rfl⟩ := List.mem_map.mp hx; exact up1_lt y (ha y (h4 y hy))
      · exact fun x hx => ha x (h4 x hx)
    generalize ansF st p = ans at hc
    generalize spellF st p = sp at hc hspl hspa
    have hcut : sliceL sp none (some (p : Int)) = sp.take p := by rw [sliceL_0n _ (by first | lia | omega)]; rfl
    have htl : (sp.take p).length = p := by rw [List.length_take]; (first | lia | omega)
    refine ex_conv (show Mine.setAll _ ["spelled", "p", "answer"] [.str _, .int _, .str _] = _ by walk_at "mset") ?_
    refine ex_if_ret (b := !decide (ans = cutF sp (sp.take p))) (evt_cmp (by walk_at "mev") (ev_call (f := 43) (ds := [.str sp, .str (sp.take p)]) rfl rfl rfl rfl (by rw [← hcut]; walk_at "mevl") (fn_cut w mb sp (sp.take p) (by first | lia | omega) (by first | lia | omega) (by intro h; rw [h] at htl; simp at htl; (first | lia | omega)) hspa) hA1 (.inr ⟨_, _, rfl⟩) (by decide +kernel)) op_ne_str) ?_ ?_
    · intro hb
      rw [hc] at hb; simp at hb
    · intro _
      exact ex_end (by walk_at "msub") rfl
  rintro σ' rfl
  have hup : ∀ x ∈ text.map up1, x < 128 := by
    intro x hx; obtain ⟨y, hy, rfl⟩ := List.mem_map.mp hx; exact up1_lt y (ha y hy)
  have ht1 : sliceL text none (some 1) = text.take 1 := by rw [sliceL_0n _ (by first | lia | omega)]; rfl
  have ht2 : sliceL text (some 1) none = text.drop 1 := by rw [sliceL_n0 _ (by first | lia | omega)]; rfl
  have hta1 : ∀ x ∈ text.take 1, x < 128 := fun x hx => ha x (List.mem_of_mem_take hx)
  have htl1 : (text.take 1).length = 1 := by rw [List.length_take]; (first | lia | omega)
  have hdl1 : (text.drop 1).length ≤ 20 := by rw [List.length_drop]; (first | lia | omega)
  have hul : (text.map up1).length = text.length := List.length_map _
  refine ex_assign_swap (names := [Str.ofString "mixed", Str.ofString "mark", Str.ofString "great"]) (xs := ["great", "mark", "mixed"]) (ds := [.str (text ++ text.map up1), .str ((text.take 1).map up1), .str ((text.take 1).map up1 ++ text.drop 1)])
    (ev_tuple (evl_cons (ev_binop (by walk_at "mev") (ev_upper (by walk_at "mev") ha (by first | lia | omega)) (op_add_str (by first | lia | omega))) (evl_cons (ev_upper (l := text.take 1) (by rw [← ht1]; walk_at "mev") hta1 (by first | lia | omega)) (evl_cons (ev_binop (ev_upper (l := text.take 1) (by rw [← ht1]; walk_at "mev") hta1 (by first | lia | omega)) (by rw [← ht2]; walk_at "mev") (op_add_str (by rw [List.length_map]; (first | lia | omega)))) evl_nil)))) hA.handled rfl (.cons stores_bind (.inl rfl) (.cons stores_bind (.inl rfl) (.cons stores_bind (.inl rfl) .nil))) rfl rfl (by walk_at "mset") ?_
  have hgl : ((text.take 1).map up1 ++ text.drop 1).length ≤ 25 := by rw [List.length_append, List.length_map]; (first | lia | omega)
  have hml : ((text.take 1).map up1).length = 1 := by rw [List.length_map]; (first | lia | omega)
  have hm1 : ∀ x ∈ (text.take 1).map up1, x < 128 := by
    intro x hx; obtain ⟨y, hy, rfl⟩ := List.mem_map.mp hx; exact up1_lt y (hta1 y hy)
  generalize (text.take 1).map up1 ++ text.drop 1 = great at hLast1 hgl
  generalize (text.take 1).map up1 = mark at hLast2 hml hm1
  refine ex_if_ret (b := !decide (capF1 ([9] ++ text ++ [10, 32] ++ text.map up1) = great ++ [32] ++ great)) (evt_cmp (ev_call (f := 22) (ds := [.str ([9] ++ text ++ [10, 32] ++ text.map up1)]) rfl rfl rfl rfl (evl_cons (ev_binop (ev_binop (ev_binop (by walk_at "mev") (by walk_at "mev") (op_add_str (by simp; (first | lia | omega)))) (by walk_at "mev") (op_add_str (by simp; (first | lia | omega)))) (ev_upper (by walk_at "mev") ha (by first | lia | omega)) (op_add_str (by simp; (first | lia | omega)))) evl_nil) (fn_cap1 w mb _ (by simp; (first | lia | omega)) ?_) hA1 (.inr ⟨_, _, rfl⟩) (by decide +kernel)) (by walk_at "mev") op_ne_str) ?_ ?_
  · intro x hx
    simp only [List.mem_append, List.mem_cons, List.not_mem_nil, or_false] at hx
    rcases hx with ((h | h) | h | h) | h
    · (first | lia | omega)
    · exact ha x h
    · (first | lia | omega)
    · (first | lia | omega)
    · exact hup x h
  · intro hb
    rw [hLast1] at hb; simp at hb
  intro _
  have hmx : ∀ x ∈ text ++ text.map up1, x < 128 := by
    intro x hx
    rcases List.mem_append.mp hx with h | h
    · exact ha x h
    · exact hup x h
  have hmxl : (text ++ text.map up1).length ≤ 100 := by rw [List.length_append]; (first | lia | omega)
  have hne : mark ≠ [] := by intro h; rw [h] at hml; simp at hml
  generalize text ++ text.map up1 = mixed at hLast2 hmx hmxl
  refine ex_return (d := .bool (decide (capF2 mixed mark = cutF mixed mark))) (ev_cmp (ev_call (f := 22) rfl rfl rfl rfl (by walk_at "mevl") (fn_cap2 w mb mixed mark (by first | lia | omega) (by first | lia | omega) hne hmx (fun x hx => by have := hm1 x hx; (first | lia | omega))) hA1 (.inr ⟨_, _, rfl⟩) (by decide +kernel)) (ev_call (f := 43) rfl rfl rfl rfl (by walk_at "mevl") (fn_cut w mb mixed mark (by first | lia | omega) (by first | lia | omega) hne hmx) hA1 (.inr ⟨_, _, rfl⟩) (by decide +kernel)) op_eq_str) ?_
  rw [hLast2]; simp
end
section

structure Ord (R : Nat → Nat → Prop) : Prop where
  irr : ∀ a, ¬ R a a
  asym : ∀ a b, R a b → R b a → False
  trans : ∀ a b c, R a b → R b c → R a c
  tri : ∀ a b, R a b ∨ a = b ∨ R b a
theorem ord_lt : Ord fun a b => a < b := ⟨fun a => Nat.lt_irrefl a, fun a b h1 h2 => by first | lia | omega, fun a b c h1 h2 => by first | lia | omega, fun a b => by first | lia | omega⟩
theorem ord_gt : Ord fun a b => b < a := ⟨fun a => Nat.lt_irrefl a, fun a b h1 h2 => by first | lia | omega, fun a b c h1 h2 => by first | lia | omega, fun a b => by first | lia | omega⟩

noncomputable def Lyn (R : Nat → Nat → Prop) (u : Nat → Nat) (k m : Nat) : Prop :=
  ∀ x, k < x → x < m → ∃ d, x + d < m ∧ (∀ e, e < d → u (k + e) = u (x + e)) ∧ R (u (k + d)) (u (x + d))
noncomputable def PerI (u : Nat → Nat) (i j p : Nat) : Prop := ∀ x, i ≤ x → x + p < j → u x = u (x + p)

section
variable {R : Nat → Nat → Prop} {u : Nat → Nat} (hR : Ord R)
include hR

theorem Lyn.unbordered {k m q : Nat} (h : Lyn R u k m) (h1 : 1 ≤ q) (h2 : k + q < m) : ¬ PerI u k m q := by
  intro hp
  obtain ⟨d, d1, _, d3⟩ := h (k + q) (by first | lia | omega) h2
  have := hp (k + d) (by first | lia | omega) (by first | lia | omega)
  rw [show k + d + q = k + q + d from by first | lia | omega] at this
  rw [this] at d3
  exact hR.irr _ d3

theorem Lyn.longest {i j p k m n : Nat} (hp : PerI u i j p) (hj : j = n ∨ R (u j) (u (j - p))) (hki : i ≤ k) (hkj : k + p ≤ j) (hm : k + p < m) (hmn : m ≤ n) (hp1 : 1 ≤ p) : ¬ Lyn R u k m := by
  intro h
  obtain ⟨d, d1, d2, d3⟩ := h (k + p) (by first | lia | omega) hm
  rcases Nat.lt_or_ge (k + p + d) j with h1 | h1
  · have := hp (k + d) (by first | lia | omega) (by first | lia | omega)
    rw [show k + d + p = k + p + d from by first | lia | omega] at this
    rw [this] at d3
    exact hR.irr _ d3
  · rcases hj with h2 | h2
    · (first | lia | omega)
    · rcases Nat.lt_or_ge (j - (k + p)) d with h3 | h3
      · have := d2 _ h3
        rw [show k + (j - (k + p)) = j - p from by first | lia | omega, show k + p + (j - (k + p)) = j from by first | lia | omega] at this
        rw [this] at h2
        exact hR.irr _ h2
      · have e : d = j - (k + p) := by first | lia | omega
        subst e
        rw [show k + (j - (k + p)) = j - p from by first | lia | omega, show k + p + (j - (k + p)) = j from by first | lia | omega] at d3
        exact hR.asym _ _ h2 d3

omit hR in
theorem first_diff {f g : Nat → Nat} : ∀ n, f n ≠ g n → ∃ d, (∀ e, e < d → f e = g e) ∧ f d ≠ g d := by
  intro n
  induction n using Nat.strongRecOn with
  | ind n ih =>
    intro h
    by_cases hall : ∀ e, e < n → f e = g e
    · exact ⟨n, hall, h⟩
    · have : ∃ e, e < n ∧ f e ≠ g e := by
        apply Classical.byContradiction
        intro hc
        exact hall fun e he => Classical.byContradiction fun hne => hc ⟨e, he, hne⟩
      obtain ⟨e, he, hne⟩ := this
      exact ih e he hne

noncomputable def Less (R : Nat → Nat → Prop) (u : Nat → Nat) (x y : Nat) : Prop := ∃ d, (∀ e, e < d → u (x + e) = u (y + e)) ∧ R (u (x + d)) (u (y + d))
theorem Less.asym {x y : Nat} (h1 : Less R u x y) (h2 : Less R u y x) : False := by
  obtain ⟨d, a1, a2⟩ := h1
  obtain ⟨f, b1, b2⟩ := h2
  rcases Nat.lt_trichotomy d f with h | h | h
  · rw [b1 d h] at a2; exact hR.irr _ a2
  · subst h; exact hR.asym _ _ a2 b2
  · rw [a1 f h] at b2; exact hR.irr _ b2
theorem Less.trans {x y z : Nat} (h1 : Less R u x y) (h2 : Less R u y z) : Less R u x z := by
  obtain ⟨d, a1, a2⟩ := h1
  obtain ⟨f, b1, b2⟩ := h2
  rcases Nat.lt_trichotomy d f with h | h | h
  · exact ⟨d, fun e he => (a1 e he).trans (b1 e (by first | lia | omega)), by rw [← b1 d h]; exact a2⟩
  · subst h; exact ⟨d, fun e he => (a1 e he).trans (b1 e he), hR.trans _ _ _ a2 b2⟩
  · exact ⟨f, fun e he => (a1 e (by first | lia | omega)).trans (b1 e he), by rw [a1 f h]; exact b2⟩
theorem Less.tri {x y : Nat} (n : Nat) (h : u (x + n) ≠ u (y + n)) : Less R u x y ∨ Less R u y x := by
  obtain ⟨d, h1, h2⟩ := first_diff (f := fun e => u (x + e)) (g := fun e => u (y + e)) n h
  rcases hR.tri (u (x + d)) (u (y + d)) with h3 | h3 | h3
  · exact .inl ⟨d, h1, h3⟩
  · exact absurd h3 h2
  · exact .inr ⟨d, fun e he => (h1 e he).symm, h3⟩

theorem least_shift {a : Nat} : ∀ n, 1 ≤ n → (∀ x y, a ≤ x → x < y → y < a + n → ∃ e, u (x + e) ≠ u (y + e)) → ∃ k, a ≤ k ∧ k < a + n ∧ ∀ y, a ≤ y → y < a + n → y ≠ k → Less R u k y
  | 0, h, _ => by first | lia | omega
  | 1, _, _ => ⟨a, by first | lia | omega, by first | lia | omega, fun y h1 h2 h3 => by first | lia | omega⟩
  | n + 2, _, h => by
    obtain ⟨k, k1, k2, k3⟩ := least_shift (n + 1) (by first | lia | omega) fun x y h1 h2 h3 => h x y h1 h2 (by first | lia | omega)
    obtain ⟨e, he⟩ := h k (a + n + 1) k1 (by first | lia | omega) (by first | lia | omega)
    rcases Less.tri hR e he with h4 | h4
    · refine ⟨k, k1, by first | lia | omega, fun y y1 y2 y3 => ?_⟩
      rcases Nat.lt_or_ge y (a + (n + 1)) with h5 | h5
      · exact k3 y y1 h5 y3
      · have : y = a + n + 1 := by first | lia | omega
        subst this; exact h4
    · refine ⟨a + n + 1, by first | lia | omega, by first | lia | omega, fun y y1 y2 y3 => ?_⟩
      by_cases h5 : y = k
      · subst h5; exact h4
      · exact Less.trans hR h4 (k3 y y1 (by first | lia | omega) h5)

theorem lyn_rot {p : Nat} (hp1 : 1 ≤ p) (hU : ∀ x, u (x + p) = u x) (hmin : ∀ q, 1 ≤ q → q < p → ∃ x, u (x + q) ≠ u x) (a : Nat) : ∃ k, a ≤ k ∧ k < a + p ∧ Lyn R u k (k + p) := by
  have hUm : ∀ m x, u (x + m * p) = u x := by
    intro m
    induction m with
    | zero => intro x; simp
    | succ m ih => intro x; rw [Nat.succ_mul, ← Nat.add_assoc, hU, ih]
  have hdiff : ∀ x y, x < y → y < x + p → ∃ e, u (x + e) ≠ u (y + e) := by
    intro x y h1 h2
    obtain ⟨z, hz⟩ := hmin (y - x) (by first | lia | omega) (by first | lia | omega)
    -- z is moved behind x by whole turns
    refine ⟨z + x * p - x, ?_⟩
    have hxp : x ≤ x * p := Nat.le_mul_of_pos_right x hp1
    rw [show x + (z + x * p - x) = z + x * p from by first | lia | omega, show y + (z + x * p - x) = (z + (y - x)) + x * p from by first | lia | omega, hUm, hUm]
    exact fun h => hz h.symm
  obtain ⟨k, k1, k2, k3⟩ := least_shift hR (a := a) p hp1 fun x y h1 h2 h3 => hdiff x y h2 (by first | lia | omega)
  -- k is before every other place, by turns
  have hall : ∀ y, k < y → y < k + p → Less R u k y := by
    intro y h1 h2
    rcases Nat.lt_or_ge y (a + p) with h | h
    · exact k3 y (by first | lia | omega) h (by first | lia | omega)
    · obtain ⟨d, d1, d2⟩ := k3 (y - p) (by first | lia | omega) (by first | lia | omega) (by first | lia | omega)
      refine ⟨d, fun e he => ?_, ?_⟩
      · rw [d1 e he, show y + e = (y - p + e) + p from by first | lia | omega, hU]
      · rw [show y + d = (y - p + d) + p from by first | lia | omega, hU]; exact d2
  refine ⟨k, k1, k2, fun x h1 h2 => ?_⟩
  obtain ⟨d, d1, d2⟩ := hall x h1 h2
  rcases Nat.lt_or_ge (x + d) (k + p) with h | h
  · exact ⟨d, h, d1, d2⟩
  · exfalso
    have hs : Less R u (k + (k + p - x)) k := by
      refine ⟨d - (k + p - x), fun e he => ?_, ?_⟩
      · have := d1 (e + (k + p - x)) (by first | lia | omega)
        rw [show k + (e + (k + p - x)) = k + (k + p - x) + e from by first | lia | omega, show x + (e + (k + p - x)) = k + e + p from by first | lia | omega, hU] at this
        exact this
      · rw [show k + (k + p - x) + (d - (k + p - x)) = k + d from by first | lia | omega]
        rw [show x + d = k + (d - (k + p - x)) + p from by first | lia | omega, hU] at d2
        exact d2
    exact Less.asym hR hs (hall _ (by first | lia | omega) (by first | lia | omega))

omit hR in
theorem Lyn.shift {U : Nat → Nat} {i k m n : Nat} (hU : ∀ x, x < n → u (i + x) = U x) (hm : m ≤ n) (h : Lyn R U k m) : Lyn R u (i + k) (i + m) := by
  intro x h1 h2
  obtain ⟨y, rfl⟩ := Nat.exists_eq_add_of_le (Nat.le_of_lt (Nat.lt_of_le_of_lt (Nat.le_add_right i k) h1))
  have h3 := Nat.lt_of_add_lt_add_left h1
  obtain ⟨d, d1, d2, d3⟩ := h y h3 (Nat.lt_of_add_lt_add_left h2)
  have hy : ∀ e, e ≤ d → y + e < n := fun e he => Nat.lt_of_lt_of_le (Nat.lt_of_le_of_lt (Nat.add_le_add_left he y) d1) hm
  have hk : ∀ e, e ≤ d → k + e < n := fun e he => Nat.lt_trans (Nat.add_lt_add_right h3 e) (hy e he)
  refine ⟨d, by rw [Nat.add_assoc]; exact Nat.add_lt_add_left d1 i, fun e he => ?_, ?_⟩
  · rw [Nat.add_assoc, Nat.add_assoc, hU _ (hk e (Nat.le_of_lt he)), hU _ (hy e (Nat.le_of_lt he))]; exact d2 e he
  · rw [Nat.add_assoc, Nat.add_assoc, hU _ (hk d (Nat.le_refl d)), hU _ (hy d (Nat.le_refl d))]; exact d3

theorem lyn_in_run {i j p : Nat} (hp1 : 1 ≤ p) (hij : i + 2 * p ≤ j) (hp : PerI u i j p) (hmin : ∀ q, 1 ≤ q → q < p → ¬ PerI u i j q) {a : Nat} (ha : i ≤ a) (haj : a + 2 * p ≤ j + 1) : ∃ k, a ≤ k ∧ k < a + p ∧ Lyn R u k (k + p) := by
  let U : Nat → Nat := fun x => u (i + x % p)
  have hUu : ∀ x, i + x < j → u (i + x) = U x := by
    intro x
    induction x using Nat.strongRecOn with
    | ind x ih =>
      intro hx
      rcases Nat.lt_or_ge x p with h | h
      · show _ = u (i + x % p); rw [Nat.mod_eq_of_lt h]
      · have h1 := ih (x - p) (by first | lia | omega) (by first | lia | omega)
        have h2 := hp (i + (x - p)) (by first | lia | omega) (by first | lia | omega)
        rw [show i + (x - p) + p = i + x from by first | lia | omega] at h2
        rw [← h2, h1]
        show u (i + (x - p) % p) = u (i + x % p)
        rw [← Nat.mod_eq_sub_mod h]
  have hU : ∀ x, U (x + p) = U x := by intro x; show u (i + (x + p) % p) = u (i + x % p); rw [Nat.add_mod_right]
  have hm : ∀ q, 1 ≤ q → q < p → ∃ x, U (x + q) ≠ U x := by
    intro q q1 q2
    apply Classical.byContradiction
    intro hc
    refine hmin q q1 q2 fun x hx hxj => ?_
    have e1 := hUu (x - i) (by first | lia | omega)
    have e2 := hUu (x - i + q) (by first | lia | omega)
    rw [show i + (x - i) = x from by first | lia | omega] at e1
    rw [show i + (x - i + q) = x + q from by first | lia | omega] at e2
    rw [e1, e2]
    exact Classical.byContradiction fun hne => hc ⟨x - i, fun h => hne h.symm⟩
  obtain ⟨k, k1, k2, k3⟩ := lyn_rot hR (u := U) hp1 hU hm (a - i)
  refine ⟨i + k, by first | lia | omega, by first | lia | omega, ?_⟩
  rw [Nat.add_assoc]
  exact Lyn.shift (n := k + p) (fun x hx => hUu x (by first | lia | omega)) (Nat.le_refl _) k3
end

structure Run (u : Nat → Nat) (n i j p : Nat) : Prop where
  p1 : 1 ≤ p
  two : i + 2 * p ≤ j
  jn : j ≤ n
  per : PerI u i j p
  least : ∀ q, 1 ≤ q → q < p → ¬ PerI u i j q
  left : i = 0 ∨ u (i - 1) ≠ u (i - 1 + p)
  right : j = n ∨ u (j - p) ≠ u j

theorem Run.same {u : Nat → Nat} {n i j i' j' p k : Nat} (r : Run u n i j p) (r' : Run u n i' j' p) (h1 : i ≤ k) (h2 : k + p ≤ j) (h3 : i' ≤ k) (h4 : k + p ≤ j') : i = i' ∧ j = j' := by
  have key : ∀ {i j i' j' : Nat}, Run u n i j p → Run u n i' j' p → i ≤ k → k + p ≤ j → i' ≤ k → k + p ≤ j' → i' ≤ i ∧ j ≤ j' := by
    intro i j i' j' r r' h1 h2 h3 h4
    constructor
    · rcases Nat.lt_or_ge i i' with h | h
      · exfalso
        rcases r'.left with h5 | h5
        · (first | lia | omega)
        · exact h5 (r.per (i' - 1) (by first | lia | omega) (by first | lia | omega))
      · exact h
    · rcases Nat.lt_or_ge j' j with h | h
      · exfalso
        rcases r'.right with h5 | h5
        · have := r.jn; (first | lia | omega)
        · have := r.per (j' - p) (by first | lia | omega) (by first | lia | omega)
          rw [show j' - p + p = j' from by first | lia | omega] at this
          exact h5 this
      · exact h
  have a := key r r' h1 h2 h3 h4
  have b := key r' r h3 h4 h1 h2
  (first | lia | omega)

noncomputable def RO (b : Bool) : Nat → Nat → Prop := fun x y => if b then y < x else x < y
theorem ord_RO (b : Bool) : Ord (RO b) := by cases b; exact ord_lt; exact ord_gt
noncomputable def Own (u : Nat → Nat) (n j p : Nat) (b : Bool) : Prop := j = n ∨ RO b (u j) (u (j - p))

theorem Run.apart {u : Nat → Nat} {n i j p i' j' p' k : Nat} {b b' : Bool} (r : Run u n i j p) (r' : Run u n i' j' p') (o : Own u n j p b) (o' : Own u n j' p' b')
    (h1 : i < k) (h2 : k + p ≤ j) (h3 : i' < k) (h4 : k + p' ≤ j') (l : Lyn (RO b) u k (k + p)) (l' : Lyn (RO b') u k (k + p')) : i = i' ∧ j = j' ∧ p = p' := by
  have a1 := r.p1
  have a2 := r'.p1
  have hpp : p = p' → i = i' ∧ j = j' ∧ p = p' := by
    intro e
    subst e
    have := r.same r' (by first | lia | omega) h2 (by first | lia | omega) h4
    exact ⟨this.1, this.2, rfl⟩
  by_cases hb : b = b'
  · subst hb
    apply hpp
    rcases Nat.lt_trichotomy p p' with h | h | h
    · exact absurd l' (Lyn.longest (ord_RO b) r.per o (by first | lia | omega) h2 (by first | lia | omega) (by have := r'.jn; (first | lia | omega)) a1)
    · exact h
    · exact absurd l (Lyn.longest (ord_RO b) r'.per o' (by first | lia | omega) h4 (by first | lia | omega) (by have := r.jn; (first | lia | omega)) a2)
  · have e1 := r.per (k - 1) (by first | lia | omega) (by first | lia | omega)
    have e2 := r'.per (k - 1) (by first | lia | omega) (by first | lia | omega)
    have f : ∀ {b p}, 1 < p → Lyn (RO b) u k (k + p) → RO b (u k) (u (k - 1 + p)) := by
      intro b p hp l
      obtain ⟨d, d1, _, d3⟩ := l (k + p - 1) (by first | lia | omega) (by first | lia | omega)
      have : d = 0 := by first | lia | omega
      subst this
      rw [show k + p - 1 + 0 = k - 1 + p from by first | lia | omega] at d3
      exact d3
    have hbb : b' = !b := by cases b <;> cases b' <;> simp_all
    subst hbb
    rcases Nat.lt_or_ge 1 p with h | h
    · have g1 := f h l
      rw [← e1] at g1
      rcases Nat.lt_or_ge 1 p' with h' | h'
      · have g2 := f h' l'
        rw [← e2] at g2
        exfalso
        cases b
        · have x1 : u k < u (k - 1) := g1
          have x2 : u (k - 1) < u k := g2
          (first | lia | omega)
        · have x1 : u (k - 1) < u k := g1
          have x2 : u k < u (k - 1) := g2
          (first | lia | omega)
      · have : p' = 1 := by first | lia | omega
        subst this
        rw [show k - 1 + 1 = k from by first | lia | omega] at e2
        rw [e2] at g1
        exact absurd g1 ((ord_RO b).irr _)
    · have : p = 1 := by first | lia | omega
      subst this
      rcases Nat.lt_or_ge 1 p' with h' | h'
      · have g2 := f h' l'
        rw [← e2] at g2
        rw [show k - 1 + 1 = k from by first | lia | omega] at e1
        rw [e1] at g2
        exact absurd g2 ((ord_RO (!b)).irr _)
      · exact hpp (by first | lia | omega)
end
section
set_option maxRecDepth 100000

noncomputable def capB (first : Bool) : List Nat → List Nat
  | [] => []
  | c :: r => (if first then up1 c else lo1 c) :: r.map lo1
theorem capB_true (l : List Nat) : capB true l = capL l := by cases l <;> rfl
theorem capB_false (l : List Nat) : capB false l = l.map lo1 := by cases l <;> rfl

theorem cut_walk (mark rest : List Nat) : ∀ (a : List Nat) (n : Nat) (first : Bool), (∀ i, i < a.length → ¬ mark <+: (a ++ rest).drop i) → a.length ≤ n →
    cutG mark n (a ++ rest) first = capB first a ++ cutG mark (n - a.length) rest (if a = [] then first else false)
  | [], n, first, _, _ => by simp [capB]
  | c :: r, 0, _, _, h => by simp at h
  | c :: r, n + 1, first, hn, h => by
    have h0 := hn 0 (by simp)
    rw [List.drop_zero] at h0
    have ih := cut_walk mark rest r n false (fun i hi => by have := hn (i + 1) (by simp; (first | lia | omega)); simpa using this) (by simp at h; (first | lia | omega))
    rw [List.cons_append, cutG, if_neg (by
      intro e
      refine h0 ?_
      rw [List.prefix_iff_eq_take, List.cons_append]
      exact e.symm), ih]
    have e : (if r = [] then false else false) = false := by split <;> rfl
    rw [e, capB_false]
    simp only [capB, List.cons_append, reduceCtorEq, if_false, List.length_cons]
    congr 2
    rw [show n + 1 - (r.length + 1) = n - r.length from by first | lia | omega]

theorem cut_eq {mark : List Nat} (hm : mark ≠ []) : ∀ {s : List Nat} {ps : List (List Nat)}, SplitR mark s ps → ∀ n, s.length ≤ n → cutG mark n s true = joinL mark (ps.map capL) := by
  intro s ps h
  induction h with
  | @last l hn =>
    intro n hl
    have := cut_walk mark [] l n true (fun i _ => by rw [List.append_nil]; exact hn i) hl
    rw [List.append_nil] at this
    rw [this, capB_true]
    have e : ∀ k b, cutG mark k [] b = [] := by intro k b; cases k <;> rfl
    rw [e, List.append_nil]; rfl
  | @cut a b ps h1 h2 ih =>
    intro n hl
    simp only [List.length_append] at hl
    rw [cut_walk mark (mark ++ b) a n true h1 (by first | lia | omega), capB_true]
    have hp := List.length_pos_iff.mpr hm
    obtain ⟨x, r, hxr⟩ : ∃ x r, mark ++ b = x :: r := by
      cases mark with
      | nil => exact absurd rfl hm
      | cons x r => exact ⟨x, r ++ b, rfl⟩
    obtain ⟨k, hk⟩ : ∃ k, n - a.length = k + 1 := ⟨n - a.length - 1, by first | lia | omega⟩
    rw [hk]
    have hstep : ∀ f, cutG mark (k + 1) (mark ++ b) f = mark ++ cutG mark k b true := by
      intro f
      have h3 : (x :: r).take mark.length = mark := by rw [← hxr]; simp
      have h4 : (x :: r).drop mark.length = b := by rw [← hxr]; simp
      rw [hxr, cutG, if_pos h3, h4]
    rw [hstep, ih k (by first | lia | omega)]
    cases ps with
    | nil => cases h2
    | cons y ys =>
      simp only [List.map_cons, joinL, List.append_assoc]

theorem cap_cut (s mark : List Nat) (hm : mark ≠ []) (hk : ∀ c ∈ mark, c < 256) : capF2 s mark = cutF s mark :=
  (cut_eq hm (splitF_spec s mark hm hk) _ (Nat.le_refl _)).symm

noncomputable def Sg (x : Nat) : Prop := x = 39 ∨ x = 97 ∨ x = 98
theorem lo_up {x : Nat} (h : Sg x) : lo1 (up1 x) = x := by rcases h with rfl | rfl | rfl <;> decide +kernel
theorem lo_id {x : Nat} (h : Sg x) : lo1 x = x := by rcases h with rfl | rfl | rfl <;> decide +kernel
theorem up_up {x : Nat} (h : Sg x) : up1 (up1 x) = up1 x := by rcases h with rfl | rfl | rfl <;> decide +kernel
theorem up_sm {x : Nat} (h : Sg x) : up1 x < 128 := by rcases h with rfl | rfl | rfl <;> decide +kernel
theorem sg_sm {x : Nat} (h : Sg x) : x < 128 := by rcases h with rfl | rfl | rfl <;> decide
theorem map_lo {l : List Nat} (h : ∀ x ∈ l, Sg x) : l.map lo1 = l := by
  exact (List.map_congr_left (f := lo1) (g := id) fun x hx => lo_id (h x hx)).trans (List.map_id _)
theorem map_lo_up {l : List Nat} (h : ∀ x ∈ l, Sg x) : (l.map up1).map lo1 = l := by
  rw [List.map_map]; exact (List.map_congr_left (f := lo1 ∘ up1) (g := id) fun x hx => lo_up (h x hx)).trans (List.map_id _)

theorem words_run : ∀ (l : List Nat) (st : List (List Nat) × List Nat), (∀ x ∈ l, Unicode.isSpace x = false) → l.foldl wstep st = (st.1, st.2 ++ l)
  | [], st, _ => by simp
  | x :: r, st, h => by
    rw [List.foldl_cons]
    have hx := h x (.head _)
    have e : wstep st x = (st.1, st.2 ++ [x]) := by unfold wstep; simp [hx]
    rw [e, words_run r _ fun y hy => h y (.tail _ hy)]
    simp
theorem sg_nosp {x : Nat} (h : Sg x) : Unicode.isSpace x = false := by rcases h with rfl | rfl | rfl <;> decide +kernel
theorem up_nosp {x : Nat} (h : Sg x) : Unicode.isSpace (up1 x) = false := by rcases h with rfl | rfl | rfl <;> decide +kernel

theorem last1_ok (text : List Nat) (hs : ∀ x ∈ text, Sg x) (h1 : 1 ≤ text.length) : capF1 ([9] ++ text ++ [10, 32] ++ text.map up1) = ((text.take 1).map up1 ++ text.drop 1) ++ [32] ++ ((text.take 1).map up1 ++ text.drop 1) := by
  obtain ⟨c, r, rfl⟩ : ∃ c r, text = c :: r := by cases text with | nil => simp at h1 | cons c r => exact ⟨c, r, rfl⟩
  have hc := hs c (.head _)
  have hr : ∀ x ∈ r, Sg x := fun x hx => hs x (.tail _ hx)
  have hw : wordsL ([9] ++ (c :: r) ++ [10, 32] ++ (c :: r).map up1) = [c :: r, (c :: r).map up1] := by
    unfold wordsL
    have e9 : wstep ([], []) 9 = ([], []) := by decide +kernel
    rw [List.foldl_append, List.foldl_append, List.foldl_append]
    rw [show [9].foldl wstep ([], []) = ([], []) from e9]
    rw [words_run _ _ fun x hx => sg_nosp (hs x hx)]
    have e10 : ∀ w : List Nat, w ≠ [] → [10, 32].foldl wstep ([], w) = ([w], []) := by
      intro w hw
      have a : Unicode.isSpace 10 = true := by decide +kernel
      have b : Unicode.isSpace 32 = true := by decide +kernel
      simp [wstep, a, b, hw]
    rw [List.nil_append, e10 _ (by simp)]
    rw [words_run _ _ fun x hx => by obtain ⟨y, hy, rfl⟩ := List.mem_map.mp hx; exact up_nosp (hs y hy)]
    simp [wfin]
  unfold capF1
  rw [hw]
  simp only [List.map_cons, List.map_nil, joinL, capL, List.take_succ_cons, List.take_zero, List.drop_succ_cons, List.drop_zero]
  rw [map_lo hr, map_lo_up hr, up_up hc]
  simp
end
section
set_option maxRecDepth 100000

theorem repL_zero (r : List Nat) : repL r 0 = [] := rfl
theorem repL_succ (r : List Nat) (q : Nat) : repL r (q + 1) = r ++ repL r q := by unfold repL; rw [List.replicate_succ, List.flatten_cons]

theorem rep_get {r : List Nat} {m : Nat} (hm : m ≤ r.length) (hr : 0 < r.length) : ∀ (q x : Nat), x < q * r.length + m → (repL r q ++ r.take m)[x]? = r[x % r.length]?
  | 0, x, hx => by
    rw [repL_zero, List.nil_append, List.getElem?_take_of_lt (by first | lia | omega), Nat.mod_eq_of_lt (by first | lia | omega)]
  | q + 1, x, hx => by
    rw [Nat.succ_mul] at hx
    rw [repL_succ, List.append_assoc]
    rcases Nat.lt_or_ge x r.length with h | h
    · rw [List.getElem?_append_left h, Nat.mod_eq_of_lt h]
    · rw [List.getElem?_append_right h, rep_get hm hr q (x - r.length) (by first | lia | omega), ← Nat.mod_eq_sub_mod h]

noncomputable def PerL (p : Nat) (st : List Nat) : Prop := ∀ x, x + p < st.length → st[x]? = st[x + p]?

theorem per_iff {st : List Nat} {p : Nat} (hp : 1 ≤ p) (hl : p ≤ st.length) : st = repL (st.take p) (st.length / p) ++ st.take (st.length % p) ↔ PerL p st := by
  have hm : st.length % p < p := Nat.mod_lt _ hp
  have hrl : (st.take p).length = p := by rw [List.length_take]; (first | lia | omega)
  have htt : st.take (st.length % p) = (st.take p).take (st.length % p) := by rw [List.take_take, Nat.min_eq_left (by first | lia | omega)]
  have hdm : st.length / p * p + st.length % p = st.length := by rw [Nat.mul_comm]; exact Nat.div_add_mod _ _
  have hget : ∀ x, x < st.length → (repL (st.take p) (st.length / p) ++ st.take (st.length % p))[x]? = (st.take p)[x % p]? := by
    intro x hx
    have := rep_get (r := st.take p) (m := st.length % p) (by first | lia | omega) (by first | lia | omega) (st.length / p) x (by rw [hrl]; (first | lia | omega))
    rwa [← htt, hrl] at this
  constructor
  · intro h x hx
    have e1 : st[x]? = (st.take p)[x % p]? := by rw [← hget x (by first | lia | omega), ← h]
    have e2 : st[x + p]? = (st.take p)[(x + p) % p]? := by rw [← hget (x + p) hx, ← h]
    rw [e1, e2, Nat.add_mod_right]
  · intro h
    apply List.ext_getElem?
    intro x
    have hlen : (repL (st.take p) (st.length / p) ++ st.take (st.length % p)).length = st.length := by
      rw [List.length_append, repL_length, hrl, List.length_take]; (first | lia | omega)
    rcases Nat.lt_or_ge x st.length with hx | hx
    · rw [hget x hx, List.getElem?_take_of_lt (Nat.mod_lt _ hp)]
      induction x using Nat.strongRecOn with
      | ind x ih =>
        rcases Nat.lt_or_ge x p with h1 | h1
        · rw [Nat.mod_eq_of_lt h1]
        · have e := h (x - p) (by first | lia | omega)
          rw [show x - p + p = x from by first | lia | omega] at e
          rw [← e, ih (x - p) (by first | lia | omega) (by first | lia | omega), ← Nat.mod_eq_sub_mod h1]
    · rw [List.getElem?_eq_none hx, List.getElem?_eq_none (by rw [hlen]; exact hx)]

theorem splitR_rep {root : List Nat} {m : Nat} (hm : m < root.length) : ∀ q, SplitR root (repL root q ++ root.take m) (List.replicate q [] ++ [root.take m])
  | 0 => by
    rw [repL_zero, List.nil_append, List.replicate_zero, List.nil_append]
    refine .last fun i hi => ?_
    have := hi.length_le
    rw [List.length_drop, List.length_take] at this; (first | lia | omega)
  | q + 1 => by
    rw [repL_succ, List.append_assoc, List.replicate_succ, List.cons_append]
    exact .cut (a := []) (fun i hi => by simp at hi) (splitR_rep hm q)
theorem joinL_cons (sep x : List Nat) (r : List (List Nat)) (h : r ≠ []) : joinL sep (x :: r) = x ++ sep ++ joinL sep r := by
  cases r with
  | nil => exact absurd rfl h
  | cons y r => rfl
theorem joinL_rep (root y : List Nat) : ∀ q, joinL root (List.replicate q [] ++ [y]) = repL root q ++ y
  | 0 => by simp [joinL, repL_zero]
  | q + 1 => by
    rw [List.replicate_succ, List.cons_append, joinL_cons _ _ _ (by simp), joinL_rep root y q, repL_succ]; simp
theorem joinL_split {sep l : List Nat} {ps : List (List Nat)} (h : SplitR sep l ps) : joinL sep ps = l := by
  induction h with
  | last _ => rfl
  | @cut a b ps _ h2 ih =>
    rw [joinL_cons _ _ _ (by intro e; subst e; cases h2), ih, List.append_assoc]
theorem lo_lo : ∀ x, x < 128 → lo1 (lo1 x) = lo1 x := by decide +kernel
theorem lo_up' : ∀ x, x < 128 → lo1 (up1 x) = lo1 x := by decide +kernel
theorem lo_cap (l : List Nat) (h : ∀ x ∈ l, x < 128) : (capL l).map lo1 = l.map lo1 := by
  cases l with
  | nil => rfl
  | cons c r =>
    simp only [capL, List.map_cons, List.map_map]
    rw [lo_up' c (h c (.head _))]
    congr 1
    exact List.map_congr_left fun x hx => lo_lo x (h x (.tail _ hx))
theorem lo_join (sep : List Nat) : ∀ (ps : List (List Nat)), (joinL sep ps).map lo1 = joinL (sep.map lo1) (ps.map fun l => l.map lo1)
  | [] => rfl
  | [x] => rfl
  | x :: y :: r => by
    have ih := lo_join sep (y :: r)
    rw [joinL_cons _ _ _ (by simp), List.map_append, List.map_append, ih]; rfl
theorem lo_rep (r : List Nat) : ∀ q, (repL r q).map lo1 = repL (r.map lo1) q
  | 0 => rfl
  | q + 1 => by rw [repL_succ, repL_succ, List.map_append, lo_rep r q]

section
variable {st : List Nat} {p : Nat}
theorem spell_len : (spellF st p).length = st.length := by unfold spellF; split <;> simp
theorem spell_lo (hs : ∀ x ∈ st, Sg x) : (spellF st p).map lo1 = st := by
  unfold spellF; split
  · exact map_lo_up hs
  · exact map_lo hs
theorem spell_sm (hs : ∀ x ∈ st, Sg x) : ∀ x ∈ spellF st p, x < 128 := by
  unfold spellF; split
  · intro x hx; obtain ⟨y, hy, rfl⟩ := List.mem_map.mp hx; exact up_sm (hs y hy)
  · exact fun x hx => sg_sm (hs x hx)
theorem spell_per (h : PerL p st) : PerL p (spellF st p) := by
  unfold spellF; split
  · intro x hx
    rw [List.length_map] at hx
    rw [List.getElem?_map, List.getElem?_map, h x hx]
  · exact h
theorem ans_cut (hs : ∀ x ∈ st, Sg x) (hp : 1 ≤ p) (hl : p ≤ st.length) : ansF st p = cutF (spellF st p) ((spellF st p).take p) := by
  refine cap_cut _ _ ?_ fun c hc => ?_
  · intro e
    have := congrArg List.length e
    rw [List.length_take, spell_len, List.length_nil] at this; (first | lia | omega)
  · have := spell_sm (p := p) hs c (List.mem_of_mem_take hc); (first | lia | omega)

theorem ans_du (hs : ∀ x ∈ st, Sg x) (hp : 1 ≤ p) (hl : p ≤ st.length) : ansF st p = duF st p ↔ PerL p st := by
  have hm : st.length % p < p := Nat.mod_lt _ hp
  have hrl : ((spellF st p).take p).length = p := by rw [List.length_take, spell_len]; (first | lia | omega)
  have hne : (spellF st p).take p ≠ [] := by intro e; rw [e] at hrl; simp at hrl; (first | lia | omega)
  have hk : ∀ c ∈ (spellF st p).take p, c < 256 := fun c hc => by have := spell_sm (p := p) hs c (List.mem_of_mem_take hc); (first | lia | omega)
  have hsp := splitF_spec (spellF st p) ((spellF st p).take p) hne hk
  constructor
  · intro h
    have e1 : (ansF st p).map lo1 = st := by
      unfold ansF capF2
      rw [lo_join, List.map_map]
      have : (splitF (spellF st p) ((spellF st p).take p)).map ((fun l => l.map lo1) ∘ capL) = (splitF (spellF st p) ((spellF st p).take p)).map fun l => l.map lo1 := by
        refine List.map_congr_left fun l hl => lo_cap l fun x hx => ?_
        exact spell_sm (p := p) hs x (hsp.weight.2.2 l hl x hx)
      rw [this, ← lo_join, joinL_split hsp, spell_lo hs]
    have e2 : (duF st p).map lo1 = repL (st.take p) (st.length / p) ++ st.take (st.length % p) := by
      unfold duF
      rw [List.map_append, List.map_append, lo_rep, List.map_take, spell_lo hs]
      rw [map_lo_up (fun x hx => hs x (List.mem_of_mem_take (List.mem_of_mem_take hx))), map_lo (fun x hx => hs x (List.mem_of_mem_take (List.mem_of_mem_drop hx)))]
      rw [List.append_assoc, List.take_append_drop]
    rw [h] at e1
    exact (per_iff hp hl).mp (e1.symm.trans e2)
  · intro h
    have hP := (per_iff hp (by rw [spell_len]; exact hl)).mpr (spell_per h)
    rw [spell_len] at hP
    have htt : (spellF st p).take (st.length % p) = ((spellF st p).take p).take (st.length % p) := by rw [List.take_take, Nat.min_eq_left (by first | lia | omega)]
    have hS : splitF (spellF st p) ((spellF st p).take p) = List.replicate (st.length / p) [] ++ [((spellF st p).take p).take (st.length % p)] := by
      have h2 := splitR_rep (root := (spellF st p).take p) (m := st.length % p) (by first | lia | omega) (st.length / p)
      rw [← htt, ← hP, htt] at h2
      exact hsp.unique hne h2
    unfold ansF capF2
    rw [hS, List.map_append, List.map_replicate, show capL [] = [] from rfl, List.map_cons, List.map_nil, joinL_rep]
    unfold duF
    rw [List.append_assoc]
    congr 1
    rw [← htt]
    have hs' : ∀ x ∈ st.take (st.length % p), Sg x := fun x hx => hs x (List.mem_of_mem_take hx)
    have e : (spellF st p).take (st.length % p) = spellF (st.take (st.length % p)) p := by
      unfold spellF; split
      · rw [List.map_take]
      · rfl
    rw [e]
    generalize st.take (st.length % p) = rs at hs'
    cases rs with
    | nil => unfold spellF; split <;> rfl
    | cons c r =>
      have hc := hs' c (.head _)
      have hr : ∀ x ∈ r, Sg x := fun x hx => hs' x (.tail _ hx)
      unfold spellF; split
      · simp only [List.map_cons, capL, List.take_succ_cons, List.take_zero, List.map_nil, List.drop_succ_cons, List.drop_zero, up_up hc, map_lo_up hr]; rfl
      · simp only [List.map_cons, capL, List.take_succ_cons, List.take_zero, List.map_nil, List.drop_succ_cons, List.drop_zero, map_lo hr]; rfl
end

theorem leastG_spec (st : List Nat) (q : Nat) : ∀ t, t ≤ q → (leastG st q t = 0 ∧ ∀ p, q - t < p → p ≤ q → ansF st p ≠ duF st p) ∨
    (q - t < leastG st q t ∧ leastG st q t ≤ q ∧ ansF st (leastG st q t) = duF st (leastG st q t) ∧ ∀ p, q - t < p → p < leastG st q t → ansF st p ≠ duF st p)
  | 0, _ => .inl ⟨rfl, fun p h1 h2 => by first | lia | omega⟩
  | t + 1, h => by
    unfold leastG
    split
    · rename_i he
      exact .inr ⟨by first | lia | omega, by first | lia | omega, he, fun p h1 h2 => by first | lia | omega⟩
    · rename_i he
      have hx : ∀ p, q - (t + 1) < p → q - t < p ∨ p = q - t := fun p hp => by first | lia | omega
      rcases leastG_spec st q t (by first | lia | omega) with ⟨h1, h2⟩ | ⟨h1, h2, h3, h4⟩
      · refine .inl ⟨h1, fun p a b => ?_⟩
        rcases hx p a with c | c
        · exact h2 p c b
        · subst c; exact he
      · refine .inr ⟨by first | lia | omega, h2, h3, fun p a b => ?_⟩
        rcases hx p a with c | c
        · exact h4 p c b
        · subst c; exact he

noncomputable def uF (t : List Nat) : Nat → Nat := fun x => t.getD x 0
theorem uF_get {t : List Nat} {x : Nat} (h : x < t.length) : t[x]? = some (uF t x) := by
  unfold uF; rw [List.getD_eq_getElem?_getD, List.getElem?_eq_getElem h]; rfl
theorem uF_eq {t : List Nat} {x y : Nat} (hx : x < t.length) (hy : y < t.length) : t[x]? = t[y]? ↔ uF t x = uF t y := by
  rw [uF_get hx, uF_get hy]; simp
theorem subL_get {t : List Nat} {i j x : Nat} (hx : i + x < j) : (subL t i j)[x]? = t[i + x]? := by
  unfold subL
  rw [List.getElem?_drop, List.getElem?_take_of_lt hx]
theorem perL_sub {t : List Nat} {i j p : Nat} (hij : i ≤ j) (hj : j ≤ t.length) : PerL p (subL t i j) ↔ PerI (uF t) i j p := by
  unfold PerL PerI
  rw [subL_length _ _ _ hj]
  constructor
  · intro h x hx hxp
    have := h (x - i) (by first | lia | omega)
    rw [subL_get (by first | lia | omega), subL_get (by first | lia | omega), uF_eq (by first | lia | omega) (by first | lia | omega)] at this
    rwa [show i + (x - i) = x from by first | lia | omega, show i + (x - i + p) = x + p from by first | lia | omega] at this
  · intro h x hx
    rw [subL_get (by first | lia | omega), subL_get (by first | lia | omega), uF_eq (by first | lia | omega) (by first | lia | omega)]
    have := h (i + x) (by first | lia | omega) (by first | lia | omega)
    rwa [show i + x + p = i + (x + p) from by first | lia | omega] at this

theorem leastF_spec {t : List Nat} (hs : ∀ x ∈ t, Sg x) {i j : Nat} (hij : i + 2 ≤ j) (hj : j ≤ t.length) :
    (leastF t i j = 0 ∧ ∀ p, 1 ≤ p → i + 2 * p ≤ j → ¬ PerI (uF t) i j p) ∨ (1 ≤ leastF t i j ∧ i + 2 * leastF t i j ≤ j ∧ PerI (uF t) i j (leastF t i j) ∧ ∀ p, 1 ≤ p → p < leastF t i j → ¬ PerI (uF t) i j p) := by
  have hsl : (subL t i j).length = j - i := subL_length _ _ _ hj
  have hss : ∀ x ∈ subL t i j, Sg x := fun x hx => hs x (mem_subL hx)
  have key : ∀ p, 1 ≤ p → p ≤ (j - i) / 2 → (ansF (subL t i j) p = duF (subL t i j) p ↔ PerI (uF t) i j p) := fun p h1 h2 => by
    rw [ans_du hss h1 (by first | lia | omega), perL_sub (by first | lia | omega) hj]
  unfold leastF
  rcases leastG_spec (subL t i j) ((j - i) / 2) ((j - i) / 2) (Nat.le_refl _) with ⟨h1, h2⟩ | ⟨h1, h2, h3, h4⟩
  · refine .inl ⟨h1, fun p p1 p2 hp => h2 p (by first | lia | omega) (by first | lia | omega) ((key p p1 (by first | lia | omega)).mpr hp)⟩
  · refine .inr ⟨by first | lia | omega, by first | lia | omega, (key _ (by first | lia | omega) h2).mp h3, fun p p1 p2 hp => h4 p (by first | lia | omega) p2 ((key p p1 (by first | lia | omega)).mpr hp)⟩
end
section
set_option maxRecDepth 100000

theorem no_dots {x : List Nat} (h : 46 ∉ x) (i : Nat) : ¬ dots <+: x.drop i := by
  intro hp
  obtain ⟨r, hr⟩ := hp
  refine h (List.mem_of_mem_drop (i := i) ?_)
  rw [← hr]; simp [dots]
theorem splitR_dots : ∀ (ps : List (List Nat)), ps ≠ [] → (∀ u ∈ ps, 46 ∉ u) → SplitR dots (joinL dots ps) ps
  | [], h, _ => absurd rfl h
  | [x], _, h => .last fun i => no_dots (h x (.head _)) i
  | x :: y :: r, _, h => by
    have ih := splitR_dots (y :: r) (by simp) fun u hu => h u (.tail _ hu)
    have hx := h x (.head _)
    rw [joinL_cons _ _ _ (by simp), List.append_assoc]
    refine .cut (fun i hi hp => ?_) ih
    obtain ⟨q, hq⟩ := hp
    have h0 : (dots ++ q)[0]? = ((x ++ (dots ++ joinL dots (y :: r))).drop i)[0]? := by rw [hq]
    rw [List.getElem?_drop, Nat.add_zero, List.getElem?_append_left hi, List.getElem?_eq_getElem hi] at h0
    have : x[i] = 46 := (Option.some.inj h0).symm
    exact hx (this ▸ List.getElem_mem hi)
theorem splitF_dots {ps : List (List Nat)} (h0 : ps ≠ []) (h : ∀ u ∈ ps, 46 ∉ u) : splitF (joinL dots ps) dots = ps :=
  (splitF_spec _ dots (by decide) (by decide)).unique (by decide) (splitR_dots ps h0 h)
theorem matchF_plain {want got : List Nat} (h : 46 ∉ want) : matchF want got = decide (want = got) := by
  unfold matchF
  rw [if_pos]
  rw [Bool.eq_false_iff]
  intro hc
  obtain ⟨i, _, hp⟩ := (contains_L _ _).mp hc
  exact no_dots h i hp
theorem matchF_join {ps : List (List Nat)} {got : List Nat} (h2 : 2 ≤ ps.length) (h : ∀ u ∈ ps, 46 ∉ u) :
    matchF (joinL dots ps) got = if ps.headD [] = [] then matchB got ps 0 else if (ps.headD []).isPrefixOf got = false then false else matchB got ps.tail (ps.headD []).length := by
  unfold matchF
  rw [if_neg, splitF_dots (by intro e; subst e; simp at h2) h]
  rw [Bool.not_eq_false, contains_L]
  match ps, h2 with
  | x :: y :: r, _ =>
    refine ⟨x.length, ?_, ?_⟩
    · rw [joinL_cons _ _ _ (by simp)]; simp only [List.length_append]; (first | lia | omega)
    · rw [joinL_cons _ _ _ (by simp), List.append_assoc, List.drop_append_of_le_length (Nat.le_refl _)]; simp

theorem findL_here {l sub : List Nat} {s e : Nat} (h : sub <+: l.drop s) (he : s + sub.length ≤ e) : findL l sub s e = s := by
  rcases findL_spec l sub s e with ⟨_, h2⟩ | ⟨k, h1, h2, _, _, h5⟩
  · exact absurd h (h2 s (Nat.le_refl _) he)
  · rw [h1]
    rcases Nat.lt_or_ge s k with h6 | h6
    · exact absurd h (h5 s (Nat.le_refl _) h6)
    · have : k = s := by first | lia | omega
      rw [this]
theorem scan_here {l sub : List Nat} {s e : Nat} {r : List (List Nat)} (h : sub <+: l.drop s) (he : s + sub.length ≤ e) : scan l e (sub :: r) s = scan l e r (s + sub.length) := by
  have := findL_here h he
  rw [scan, this, if_neg (by first | lia | omega)]; simp
theorem scan_len {l : List Nat} {e : Nat} : ∀ {ws : List (List Nat)} {s : Nat}, s ≤ e → scan l e ws s = true → s + (ws.map (·.length)).sum ≤ e
  | [], s, h, _ => by simpa using h
  | w :: r, s, h, hs => by
    rw [scan] at hs
    split at hs
    · cases hs
    · rename_i hf
      obtain ⟨f1, f2, f3⟩ := findL_le hf
      have := scan_len (by first | lia | omega) hs
      simp only [List.map_cons, List.sum_cons]; (first | lia | omega)
theorem sum_last : ∀ (ws : List (List Nat)), ws ≠ [] → (ws.map (·.length)).sum = (ws.dropLast.map (·.length)).sum + (ws.getLastD []).length
  | [], h => absurd rfl h
  | [x], _ => by simp
  | x :: y :: r, _ => by
    have := sum_last (y :: r) (by simp)
    have e : (x :: y :: r).getLastD [] = (y :: r).getLastD [] := by simp [List.getLastD]
    rw [e, List.dropLast_cons_of_ne_nil (by simp), List.map_cons (l := y :: r), List.map_cons (l := (y :: r).dropLast), List.sum_cons, List.sum_cons, this]
    (first | lia | omega)
theorem matchB_len {got : List Nat} {ws : List (List Nat)} {s : Nat} (h0 : ws ≠ []) (h : matchB got ws s = true) : s + (ws.map (·.length)).sum ≤ got.length := by
  unfold matchB at h
  have hl := sum_last ws h0
  split at h
  · split at h
    · cases h
    · exact scan_len (by first | lia | omega) h
  · split at h
    · cases h
    · rename_i hsf
      split at h
      · cases h
      · have h1 := scan_len (by first | lia | omega) h
        have h2 : ws.getLastD [] <:+ got := by
          rw [← List.isSuffixOf_iff_suffix]; simpa using hsf
        have := h2.length_le
        (first | lia | omega)
theorem matchF_len {ps : List (List Nat)} {got : List Nat} (h2 : 2 ≤ ps.length) (h : ∀ u ∈ ps, 46 ∉ u) (hm : matchF (joinL dots ps) got = true) : (ps.map (·.length)).sum ≤ got.length := by
  rw [matchF_join h2 h] at hm
  match ps, h2 with
  | x :: y :: r, _ =>
    split at hm
    · have := matchB_len (by simp) hm; (first | lia | omega)
    · split at hm
      · cases hm
      · have := matchB_len (by simp) hm
        simp only [List.tail_cons, List.headD_cons] at this
        rw [List.map_cons, List.sum_cons]; exact this

theorem match_two {half got : List Nat} (h0 : half ≠ []) (h : 46 ∉ half) : matchF (half ++ [46, 46, 46] ++ half) got = (half.isPrefixOf got && half.isSuffixOf got && decide (2 * half.length ≤ got.length)) := by
  have := matchF_join (ps := [half, half]) (got := got) (by simp) (by intro u hu; simp at hu; rcases hu with rfl | rfl <;> exact h)
  rw [show joinL dots [half, half] = half ++ [46, 46, 46] ++ half from rfl] at this
  rw [this]
  simp only [List.headD_cons, List.tail_cons, h0, if_false]
  unfold matchB
  simp only [List.getLastD_cons, List.getLastD_nil, h0, if_false, List.dropLast, scan]
  cases h1 : half.isPrefixOf got
  · simp
  cases h2 : half.isSuffixOf got
  · simp
  have h3 := (List.isSuffixOf_iff_suffix.mp h2).length_le
  by_cases h4 : got.length - half.length < half.length
  · rw [if_pos h4]; simp; (first | lia | omega)
  · rw [if_neg h4]; simp; (first | lia | omega)

section
variable {st : List Nat} {p : Nat}
theorem per_mult (h : PerL p st) : ∀ (a x : Nat), x + a * p < st.length → st[x]? = st[x + a * p]?
  | 0, x, _ => by simp
  | a + 1, x, hx => by
    rw [Nat.succ_mul] at hx ⊢
    rw [per_mult h a x (by first | lia | omega), h (x + a * p) (by first | lia | omega), Nat.add_assoc]
theorem occ_at (h : PerL p st) {a c : Nat} (hc : a * p + c ≤ st.length) : st.take c <+: st.drop (a * p) := by
  rw [List.prefix_iff_eq_take]
  apply List.ext_getElem?
  intro y
  have hlen : (st.take c).length = c := by rw [List.length_take]; (first | lia | omega)
  rw [hlen]
  rcases Nat.lt_or_ge y c with hy | hy
  · rw [List.getElem?_take_of_lt hy, List.getElem?_take_of_lt hy, List.getElem?_drop, per_mult h a y (by first | lia | omega), Nat.add_comm]
  · rw [List.getElem?_eq_none (by rw [hlen]; exact hy), List.getElem?_eq_none (by rw [List.length_take]; (first | lia | omega))]
theorem occ_only (hp : 1 ≤ p) (hl : p ≤ st.length) (h : PerL p st) (hmin : ∀ q, 1 ≤ q → q < p → ¬ PerL q st) {x : Nat} (ho : st.take p <+: st.drop x) : x % p = 0 := by
  have hlen : (st.take p).length = p := by rw [List.length_take]; (first | lia | omega)
  have hx : x + p ≤ st.length := by have := ho.length_le; rw [hlen, List.length_drop] at this; (first | lia | omega)
  have hmod : ∀ y, y < st.length → st[y]? = st[y % p]? := by
    intro y hy
    have := per_mult h (y / p) (y % p) (by rw [Nat.mul_comm]; have := Nat.mod_add_div y p; (first | lia | omega))
    rw [this]
    congr 1
    have := Nat.mod_add_div y p
    rw [Nat.mul_comm] at this; exact this.symm
  have hz : ∀ z, z < p → st[(x + z) % p]? = st[z]? := by
    intro z hz
    rw [← hmod (x + z) (by first | lia | omega), ← List.getElem?_drop]
    rw [List.prefix_iff_eq_take, hlen] at ho
    have := congrArg (fun l : List Nat => l[z]?) ho
    simp only [List.getElem?_take_of_lt hz] at this
    exact this.symm
  apply Classical.byContradiction
  intro hne
  refine hmin (x % p) (by first | lia | omega) (Nat.mod_lt _ hp) fun y hy => ?_
  rw [hmod y (by first | lia | omega), hmod (y + x % p) hy, ← hz (y % p) (Nat.mod_lt _ hp)]
  congr 1
  rw [Nat.add_mod (x) (y % p), Nat.mod_mod, Nat.add_mod y (x % p), Nat.mod_mod, Nat.add_comm]

theorem scan_roots (h : PerL p st) {c e : Nat} (hp : 1 ≤ p) (hl : p ≤ st.length) (he : e ≤ st.length) (tl : List (List Nat)) : ∀ (k a : Nat), (a + k) * p ≤ e → scan st e (List.replicate k (st.take p) ++ tl) (a * p) = scan st e tl ((a + k) * p)
  | 0, a, _ => by simp
  | k + 1, a, hk => by
    have hlen : (st.take p).length = p := by rw [List.length_take]; (first | lia | omega)
    have h1 : (a + 1) * p ≤ (a + (k + 1)) * p := Nat.mul_le_mul_right p (by first | lia | omega)
    rw [Nat.succ_mul] at h1
    rw [List.replicate_succ, List.cons_append, scan_here (occ_at h (by first | lia | omega)) (by rw [hlen]; (first | lia | omega)), hlen, ← Nat.succ_mul]
    rw [scan_roots (c := c) h hp hl he tl k (a + 1) (by rw [show a + 1 + k = a + (k + 1) from by first | lia | omega]; exact hk)]
    congr 2; (first | lia | omega)

theorem scan_wide (h : PerL p st) (hp : 1 ≤ p) (hl : p + 1 ≤ st.length) (hmin : ∀ q, 1 ≤ q → q < p → ¬ PerL q st) : ∀ (k s : Nat), 2 * p * s + p + 1 ≤ st.length →
    scan st st.length (List.replicate k (st.take (p + 1)) ++ [[]]) (2 * p * s + p + 1) = decide (2 * p * (s + k) + p + 1 ≤ st.length)
  | 0, s, hs => by
    rw [List.replicate_zero, List.nil_append, scan_here (List.nil_prefix) (by simpa using hs), scan]
    simp [hs]
  | k + 1, s, hs => by
    have hlen : (st.take (p + 1)).length = p + 1 := by rw [List.length_take]; (first | lia | omega)
    have hroot : st.take p <+: st.take (p + 1) := by rw [show st.take p = (st.take (p + 1)).take p from by rw [List.take_take]; congr 1; (first | lia | omega)]; exact List.take_prefix _ _
    have e2 : 2 * p * (s + 1) = 2 * p * s + 2 * p := by rw [Nat.mul_add, Nat.mul_one]
    have e3 : 2 * p * (s + 1) = (2 * (s + 1)) * p := by rw [Nat.mul_assoc, Nat.mul_comm p, ← Nat.mul_assoc]
    have hnone : ∀ i, 2 * p * s + p + 1 ≤ i → i < 2 * p * (s + 1) → ¬ st.take (p + 1) <+: st.drop i := by
      intro i h1 h2 ho
      have h3 := occ_only hp (by first | lia | omega) h hmin (hroot.trans ho)
      -- i lies between two multiples
      have h4 := Nat.mod_add_div i p
      rw [h3, Nat.zero_add] at h4
      have e4 : 2 * p * s = p * (2 * s) := by rw [Nat.mul_comm 2 p, Nat.mul_assoc]
      have h5 : p * (2 * s + 1) < p * (i / p) := by rw [h4, Nat.mul_add, Nat.mul_one, ← e4]; (first | lia | omega)
      have h6 : p * (i / p) < p * (2 * s + 2) := by rw [h4, Nat.mul_add, ← e4, Nat.mul_comm p 2]; (first | lia | omega)
      have := Nat.lt_of_mul_lt_mul_left h5
      have := Nat.lt_of_mul_lt_mul_left h6
      (first | lia | omega)
    rw [List.replicate_succ, List.cons_append]
    by_cases hfit : 2 * p * (s + 1) + p + 1 ≤ st.length
    · have hf : findL st (st.take (p + 1)) (2 * p * s + p + 1) st.length = ((2 * p * (s + 1) : Nat) : Int) := by
        have hocc : st.take (p + 1) <+: st.drop (2 * p * (s + 1)) := by rw [e3]; exact occ_at h (by rw [← e3]; (first | lia | omega))
        rcases findL_spec st (st.take (p + 1)) (2 * p * s + p + 1) st.length with ⟨_, h2⟩ | ⟨q, h1, h2, h3, h4, h5⟩
        · exact absurd hocc (h2 _ (by first | lia | omega) (by rw [hlen]; (first | lia | omega)))
        · rw [h1]
          have : q = 2 * p * (s + 1) := by
            rcases Nat.lt_trichotomy q (2 * p * (s + 1)) with h6 | h6 | h6
            · exact absurd h4 (hnone q h2 h6)
            · exact h6
            · exact absurd hocc (h5 _ (by first | lia | omega) h6)
          rw [this]
      rw [scan, hf, if_neg (by first | lia | omega), hlen, Int.toNat_natCast]
      rw [← Nat.add_assoc, scan_wide h hp hl hmin k (s + 1) hfit]
      rw [show s + 1 + k = s + (k + 1) from by first | lia | omega]
    · have hf : findL st (st.take (p + 1)) (2 * p * s + p + 1) st.length = -1 := by
        rcases findL_spec st (st.take (p + 1)) (2 * p * s + p + 1) st.length with ⟨h1, _⟩ | ⟨q, h1, h2, h3, h4, h5⟩
        · exact h1
        · exfalso
          rw [hlen] at h3
          exact hnone q h2 (by first | lia | omega) h4
      rw [scan, hf, if_pos (by first | lia | omega)]
      symm
      rw [decide_eq_false_iff_not]
      have : 2 * p * (s + 1) ≤ 2 * p * (s + (k + 1)) := Nat.mul_le_mul_left _ (by first | lia | omega)
      (first | lia | omega)
end
end
section
set_option maxRecDepth 100000

theorem rep_join (root y : List Nat) : ∀ k, (List.replicate k (root ++ [46, 46, 46])).flatten ++ y = joinL dots (List.replicate k root ++ [y])
  | 0 => by simp [joinL]
  | k + 1 => by
    rw [List.replicate_succ, List.replicate_succ, List.flatten_cons, List.cons_append, joinL_cons _ _ _ (by simp), ← rep_join root y k]
    simp [dots]
theorem joinL_nil_cons (sep x : List Nat) (r : List (List Nat)) : joinL sep (x :: r) = x ++ joinL sep ([] :: r) := by
  cases r with
  | nil => simp [joinL]
  | cons y r => rw [joinL_cons sep x (y :: r) (by simp), joinL_cons sep [] (y :: r) (by simp)]; simp
theorem rep_join2 (root : List Nat) : ∀ k, (List.replicate k ([46, 46, 46] ++ root)).flatten = joinL dots ([] :: List.replicate k root)
  | 0 => by simp [joinL]
  | k + 1 => by
    rw [List.replicate_succ, List.replicate_succ, List.flatten_cons, joinL_cons _ _ _ (by simp), joinL_nil_cons, ← rep_join2 root k]
    simp [dots]
theorem toNat_succ (n : Nat) : ((n : Int) + 1).toNat = n + 1 := by first | lia | omega
theorem sum_rep (k : Nat) (r : List Nat) : ((List.replicate k r).map (·.length)).sum = k * r.length := by simp
theorem getLastD_snoc (l : List (List Nat)) (x : List Nat) : (l ++ [x]).getLastD [] = x := by
  rw [List.getLastD_eq_getLast?, List.getLast?_append]; simp
theorem match_suffix {got root : List Nat} : (root.isSuffixOf got = true) ↔ root <+: got.drop (got.length - root.length) ∧ root.length ≤ got.length := by
  rw [List.isSuffixOf_iff_suffix]
  constructor
  · intro h
    have hl := h.length_le
    refine ⟨?_, hl⟩
    rw [← List.suffix_iff_eq_drop.mp h]; exact List.prefix_refl _
  · rintro ⟨h, hl⟩
    rw [List.prefix_iff_eq_take, List.take_of_length_le (by rw [List.length_drop]; (first | lia | omega))] at h
    rw [h]; exact List.drop_suffix _ _

section
variable {st : List Nat} {p : Nat} (hp : 1 ≤ p) (hL : 2 * p ≤ st.length) (h : PerL p st) (hmin : ∀ q, 1 ≤ q → q < p → ¬ PerL q st) (h46 : 46 ∉ st)
include hp hL h hmin h46

theorem ask_ok : ∀ q ∈ askA (st.take p) st p ++ askB (st.take p) st (st.length / p) ++ askC (st.take p) st (st.length / p) p ++ askD (st.take p) st (st.length / p) p (st.length % p)
    ++ askE (st.take p ++ sliceL (st.take p) none (some 1)) st ((st.length - p - 1) / (2 * p) + 1), matchF q.1 q.2.1 = q.2.2 := by
  have hlen : (st.take p).length = p := by rw [List.length_take]; (first | lia | omega)
  have hne : st.take p ≠ [] := by intro e; rw [e] at hlen; simp at hlen; (first | lia | omega)
  have hr46 : 46 ∉ st.take p := fun hx => h46 (List.mem_of_mem_take hx)
  have hdm : st.length / p * p + st.length % p = st.length := by rw [Nat.mul_comm]; exact Nat.div_add_mod _ _
  have hml : st.length % p < p := Nat.mod_lt _ hp
  have hmany : 2 ≤ st.length / p := (Nat.le_div_iff_mul_le hp).mpr hL
  have hs1 : sliceL st none (some (2 * (p : Int))) = st.take (2 * p) := by rw [sliceL_0n _ (by first | lia | omega)]; congr 1
  have hs2 : sliceL st none (some (2 * (p : Int) - 1)) = st.take (2 * p - 1) := by rw [sliceL_0n _ (by first | lia | omega)]; congr 1; (first | lia | omega)
  have hs3 : sliceL st none (some (((st.length / p : Nat) : Int) * p)) = st.take (st.length / p * p) := by
    rw [sliceL_0n _ (Int.mul_nonneg (by first | lia | omega) (by first | lia | omega))]; congr 1
  have hwide : st.take p ++ sliceL (st.take p) none (some 1) = st.take (p + 1) := by
    rw [sliceL_0n _ (by first | lia | omega), show (1 : Int).toNat = 1 from rfl, List.take_take, Nat.min_eq_left hp]
    apply List.ext_getElem?
    intro y
    rcases Nat.lt_trichotomy y p with hy | hy | hy
    · rw [List.getElem?_append_left (by first | lia | omega), List.getElem?_take_of_lt hy, List.getElem?_take_of_lt (by first | lia | omega)]
    · subst hy
      rw [List.getElem?_append_right (by first | lia | omega), List.getElem?_take_of_lt (by first | lia | omega), hlen, Nat.sub_self, List.getElem?_take_of_lt (by first | lia | omega)]
      have := h 0 (by first | lia | omega)
      rwa [Nat.zero_add] at this
    · rw [List.getElem?_eq_none (by rw [List.length_append, hlen, List.length_take]; (first | lia | omega)), List.getElem?_eq_none (by rw [List.length_take]; (first | lia | omega))]
  have hpre : ∀ c, p ≤ c → (st.take p).isPrefixOf (st.take c) = true := by
    intro c hc
    rw [List.isPrefixOf_iff_prefix, show st.take p = (st.take c).take p from by rw [List.take_take, Nat.min_eq_left hc]]
    exact List.take_prefix _ _
  have hpre' : (st.take p).isPrefixOf st = true := by rw [List.isPrefixOf_iff_prefix]; exact List.take_prefix _ _
  have hsuf2 : (st.take p).isSuffixOf (st.take (2 * p)) = true := by
    have hl2 : (st.take (2 * p)).length = 2 * p := by rw [List.length_take]; (first | lia | omega)
    rw [match_suffix, hlen, hl2]
    refine ⟨?_, by first | lia | omega⟩
    have ho := occ_at (a := 1) (c := p) h (by first | lia | omega)
    rw [List.prefix_iff_eq_take, hlen] at ho ⊢
    rw [show 2 * p - p = 1 * p from by first | lia | omega, List.drop_take, List.take_take, show min p (2 * p - 1 * p) = p from by first | lia | omega]
    exact ho
  have hcap : ∀ k, ∀ u ∈ List.replicate k (st.take p), 46 ∉ u := fun k u hu => by rw [List.eq_of_mem_replicate hu]; exact hr46
  have hscan := fun tl k a hk => scan_roots (e := st.length) (c := 0) h hp (by first | lia | omega) (Nat.le_refl _) tl k a hk
  intro q hq
  rw [hwide] at hq
  simp only [askA, askB, askC, askD, askE, List.append_assoc, List.cons_append, List.nil_append, List.mem_cons, List.not_mem_nil, or_false] at hq
  rw [hs1, hs2, hs3] at hq
  simp only [Int.toNat_natCast] at hq
  rcases hq with hq | hq | hq | hq | hq | hq | hq | hq | hq | hq | hq <;> subst hq <;> dsimp only
  · -- 1
    rw [show st.take p ++ 46 :: 46 :: 46 :: st.take p = st.take p ++ [46, 46, 46] ++ st.take p from by simp]
    rw [match_two hne hr46, hpre _ (by first | lia | omega), hsuf2]
    simp [hlen]; (first | lia | omega)
  · -- 2
    rw [show st.take p ++ 46 :: 46 :: 46 :: st.take p = st.take p ++ [46, 46, 46] ++ st.take p from by simp]
    rw [match_two hne hr46]
    simp [hlen]; intros; (first | lia | omega)
  · -- 3
    have e := rep_join (st.take p) [] (st.length / p)
    rw [List.append_nil] at e
    rw [e, matchF_join (by simp; (first | lia | omega)) (by
      intro u hu
      rcases List.mem_append.mp hu with hu | hu
      · exact hcap _ u hu
      · rw [List.mem_singleton.mp hu]; simp)]
    obtain ⟨m, hm⟩ : ∃ m, st.length / p = m + 1 := ⟨st.length / p - 1, by first | lia | omega⟩
    rw [hm, List.replicate_succ, List.cons_append]
    simp only [List.headD_cons, List.tail_cons, hne, if_false, hpre', hlen, Bool.true_eq_false]
    unfold matchB
    rw [getLastD_snoc, if_pos rfl, if_neg (by first | lia | omega)]
    have h1 : (1 + m) * p ≤ st.length := by rw [Nat.add_comm, ← hm]; (first | lia | omega)
    have := hscan [[]] m 1 h1
    rw [Nat.one_mul] at this
    rw [this, scan_here (List.nil_prefix) (by simpa using h1), scan]
  · -- 4
    have e := rep_join (st.take p) [] (st.length / p + 1)
    rw [List.append_nil] at e
    rw [toNat_succ, e, Bool.eq_false_iff]
    intro hc
    have := matchF_len (by simp) (by
      intro u hu
      rcases List.mem_append.mp hu with hu | hu
      · exact hcap _ u hu
      · rw [List.mem_singleton.mp hu]; simp) hc
    rw [List.map_append, List.sum_append, sum_rep, hlen, Nat.succ_mul] at this
    (first | lia | omega)
  · -- 5
    rw [rep_join, Bool.eq_false_iff]
    intro hc
    have := matchF_len (by simp; (first | lia | omega)) (by
      intro u hu
      rcases List.mem_append.mp hu with hu | hu
      · exact hcap _ u hu
      · rw [List.mem_singleton.mp hu]; exact hr46) hc
    rw [List.map_append, List.sum_append, sum_rep, hlen, List.length_take] at this
    simp [hlen] at this
    (first | lia | omega)
  · -- 6
    rw [matchF_plain hr46, decide_eq_false_iff_not]
    intro e
    have := congrArg List.length e
    (first | lia | omega)
  · -- 7
    rw [matchF_plain h46]; simp
  · -- 8
    have e := rep_join2 (st.take p) (st.length / p)
    rw [show (46 :: 46 :: 46 :: st.take p) = [46, 46, 46] ++ st.take p from rfl, e]
    rw [matchF_join (by simp; (first | lia | omega)) (by
      intro u hu
      rcases List.mem_cons.mp hu with hu | hu
      · rw [hu]; simp
      · exact hcap _ u hu)]
    rw [List.headD_cons, if_pos rfl]
    unfold matchB
    obtain ⟨m, hm⟩ : ∃ m, st.length / p = m + 1 := ⟨st.length / p - 1, by first | lia | omega⟩
    have hls : ([] :: List.replicate (st.length / p) (st.take p)) = ([] :: List.replicate m (st.take p)) ++ [st.take p] := by
      rw [hm, List.replicate_succ', List.cons_append]
    rw [hls, getLastD_snoc, if_neg hne, List.dropLast_concat, hlen]
    by_cases hz : st.length % p = 0
    · have hsuf : (st.take p).isSuffixOf st = true := by
        rw [match_suffix, hlen]
        refine ⟨?_, by first | lia | omega⟩
        have ho := occ_at (a := m) (c := p) h (by rw [hm, Nat.succ_mul] at hdm; (first | lia | omega))
        rwa [show m * p = st.length - p from by rw [hm, Nat.succ_mul] at hdm; (first | lia | omega)] at ho
      rw [hsuf, if_neg (by simp), if_neg (by first | lia | omega), scan_here (List.nil_prefix) (by simp)]
      have := scan_roots (e := st.length - p) (c := 0) h hp (by first | lia | omega) (by first | lia | omega) [] m 0 (by rw [hm, Nat.succ_mul] at hdm; rw [Nat.zero_add]; (first | lia | omega))
      rw [List.append_nil, Nat.zero_mul] at this
      rw [List.length_nil, Nat.add_zero, this, scan]
      simp [hz]
    · have hsuf : (st.take p).isSuffixOf st = false := by
        rw [Bool.eq_false_iff]
        intro hc
        rw [match_suffix, hlen] at hc
        have := occ_only hp (by first | lia | omega) h hmin hc.1
        rw [← Nat.mod_eq_sub_mod (by first | lia | omega)] at this
        exact hz this
      rw [hsuf, if_pos rfl]
      symm; rw [decide_eq_false_iff_not]; (first | lia | omega)
  · -- 9
    rw [show st.take p ++ 46 :: 46 :: 46 :: 46 :: 46 :: 46 :: st.take p = joinL dots [st.take p, [], st.take p] from by simp [joinL, dots]]
    rw [matchF_join (by simp) (by
      intro u hu
      simp only [List.mem_cons, List.not_mem_nil, or_false] at hu
      rcases hu with hu | hu | hu
      · rw [hu]; exact hr46
      · rw [hu]; simp
      · rw [hu]; exact hr46)]
    simp only [List.headD_cons, List.tail_cons, hne, if_false, hpre _ (show p ≤ 2 * p by first | lia | omega), hlen, Bool.true_eq_false]
    unfold matchB
    have hl2 : (st.take (2 * p)).length = 2 * p := by rw [List.length_take]; (first | lia | omega)
    rw [show [[], st.take p] = [[]] ++ [st.take p] from rfl, getLastD_snoc, if_neg hne, List.dropLast_concat, hlen, hsuf2, if_neg (by simp), hl2, if_neg (by first | lia | omega), scan_here (List.nil_prefix) (by simp; (first | lia | omega)), scan]
  · -- 10
    have hwl : (st.take (p + 1)).length = p + 1 := by rw [List.length_take]; (first | lia | omega)
    have hwne : st.take (p + 1) ≠ [] := by intro e; rw [e] at hwl; simp at hwl
    have e := rep_join (st.take (p + 1)) [] ((st.length - p - 1) / (2 * p) + 1)
    rw [List.append_nil] at e
    rw [e, matchF_join (by simp) (by
      intro u hu
      rcases List.mem_append.mp hu with hu | hu
      · rw [List.eq_of_mem_replicate hu]; exact fun hx => h46 (List.mem_of_mem_take hx)
      · rw [List.mem_singleton.mp hu]; simp)]
    rw [List.replicate_succ, List.cons_append]
    have hpw : (st.take (p + 1)).isPrefixOf st = true := by rw [List.isPrefixOf_iff_prefix]; exact List.take_prefix _ _
    simp only [List.headD_cons, List.tail_cons, hwne, if_false, hpw, hwl, Bool.true_eq_false]
    unfold matchB
    rw [getLastD_snoc, if_pos rfl, if_neg (by first | lia | omega)]
    have := scan_wide h hp (by first | lia | omega) hmin ((st.length - p - 1) / (2 * p)) 0 (by first | lia | omega)
    rw [Nat.mul_zero, Nat.zero_add] at this
    rw [this, decide_eq_true_eq, Nat.zero_add]
    have h9 := Nat.mul_div_le (st.length - p - 1) (2 * p)
    generalize 2 * p * ((st.length - p - 1) / (2 * p)) = y at h9 ⊢
    clear this
    (first | lia | omega)
  · -- 11
    have hwl : (st.take (p + 1)).length = p + 1 := by rw [List.length_take]; (first | lia | omega)
    have hwne : st.take (p + 1) ≠ [] := by intro e; rw [e] at hwl; simp at hwl
    have e := rep_join (st.take (p + 1)) [] ((st.length - p - 1) / (2 * p) + 1 + 1)
    rw [List.append_nil] at e
    rw [toNat_succ]
    rw [e, matchF_join (by simp) (by
      intro u hu
      rcases List.mem_append.mp hu with hu | hu
      · rw [List.eq_of_mem_replicate hu]; exact fun hx => h46 (List.mem_of_mem_take hx)
      · rw [List.mem_singleton.mp hu]; simp)]
    rw [List.replicate_succ, List.cons_append]
    have hpw : (st.take (p + 1)).isPrefixOf st = true := by rw [List.isPrefixOf_iff_prefix]; exact List.take_prefix _ _
    simp only [List.headD_cons, List.tail_cons, hwne, if_false, hpw, hwl, Bool.true_eq_false]
    unfold matchB
    rw [getLastD_snoc, if_pos rfl, if_neg (by first | lia | omega)]
    have := scan_wide h hp (by first | lia | omega) hmin ((st.length - p - 1) / (2 * p) + 1) 0 (by first | lia | omega)
    rw [Nat.mul_zero, Nat.zero_add] at this
    rw [this, decide_eq_false_iff_not, Nat.zero_add]
    have h9 := Nat.lt_mul_div_succ (st.length - p - 1) (show 0 < 2 * p by first | lia | omega)
    generalize 2 * p * ((st.length - p - 1) / (2 * p) + 1) = y at h9 ⊢
    clear this
    (first | lia | omega)
end
end
section
set_option maxRecDepth 100000

section
variable {t : List Nat} (hs : ∀ x ∈ t, Sg x)
include hs

theorem sub46 (i j : Nat) : 46 ∉ subL t i j := by
  intro h
  rcases hs 46 (mem_subL h) with h | h | h <;> (first | lia | omega)
omit hs in
theorem sub_ext {i j p : Nat} (hi : i + p ≤ t.length) (hj : j + p ≤ t.length) : subL t i (i + p) = subL t j (j + p) ↔ ∀ x, x < p → uF t (i + x) = uF t (j + x) := by
  have g : ∀ x, x < p → ((subL t i (i + p))[x]? = (subL t j (j + p))[x]? ↔ uF t (i + x) = uF t (j + x)) := by
    intro x hx
    have h1 := Nat.add_lt_add_left hx i
    have h2 := Nat.add_lt_add_left hx j
    rw [subL_get h1, subL_get h2, uF_eq (Nat.lt_of_lt_of_le h1 hi) (Nat.lt_of_lt_of_le h2 hj)]
  constructor
  · intro e x hx
    exact (g x hx).mp (by rw [e])
  · intro h
    apply List.ext_getElem?
    intro x
    rcases Nat.lt_or_ge x p with hx | hx
    · exact (g x hx).mpr (h x hx)
    · rw [List.getElem?_eq_none (by rw [subL_length _ _ _ hi, Nat.add_sub_cancel_left]; exact hx), List.getElem?_eq_none (by rw [subL_length _ _ _ hj, Nat.add_sub_cancel_left]; exact hx)]
omit hs in
theorem sub_cat {i j k : Nat} (h1 : i ≤ j) (h2 : j ≤ k) : subL t i k = subL t i j ++ subL t j k := by
  unfold subL
  have e : (t.take k).drop i = ((t.take k).drop i).take (j - i) ++ ((t.take k).drop i).drop (j - i) := (List.take_append_drop _ _).symm
  rw [e, List.take_drop, List.drop_drop, Nat.add_sub_of_le h1, List.take_take, Nat.min_eq_left h2]
theorem twice_iff {i p : Nat} (hp : 1 ≤ p) (hi : i + p + p ≤ t.length) {h : List Nat} (hh : h = subL t i (i + p) ∨ h = subL t (i + p) (i + p + p)) : twiceF h (subL t i (i + p + p)) = true ↔ ∀ x, x < p → uF t (i + x) = uF t (i + p + x) := by
  rw [← sub_ext (Nat.le_trans (Nat.le_add_right _ _) hi) hi]
  have l1 : (subL t i (i + p)).length = p := by rw [subL_length _ _ _ (Nat.le_trans (Nat.le_add_right _ _) hi), Nat.add_sub_cancel_left]
  have l2 : (subL t (i + p) (i + p + p)).length = p := by rw [subL_length _ _ _ hi, Nat.add_sub_cancel_left]
  have q : 46 ∉ h := by rcases hh with rfl | rfl <;> exact sub46 hs _ _
  rw [sub_cat (t := t) (Nat.le_add_right i p) (Nat.le_add_right _ p)]
  generalize subL t i (i + p) = a at l1 hh
  generalize subL t (i + p) (i + p + p) = b at l2 hh
  have lh : h.length = p := by rcases hh with rfl | rfl <;> assumption
  have hne : h ≠ [] := by intro e; rw [e] at lh; exact absurd lh (by simp; (first | lia | omega))
  unfold twiceF
  rw [match_two hne q, List.length_append, lh, l1, l2, Bool.and_eq_true, Bool.and_eq_true, decide_eq_true_eq, List.isPrefixOf_iff_prefix, List.isSuffixOf_iff_suffix]
  have e1 : ∀ c : List Nat, c.length = p → (c <+: a ++ b ↔ c = a) := by
    intro c hc
    rw [List.prefix_iff_eq_take, hc, ← l1, List.take_left]
  have e2 : ∀ c : List Nat, c.length = p → (c <:+ a ++ b ↔ c = b) := by
    intro c hc
    rw [List.suffix_iff_eq_drop, List.length_append, hc, l1, l2, Nat.add_sub_cancel, ← l1, List.drop_left]
  rw [e1 h lh, e2 h lh]
  rcases hh with rfl | rfl
  · exact ⟨fun h => h.1.2, fun h => ⟨⟨rfl, h⟩, Nat.le_of_eq (Nat.two_mul p)⟩⟩
  · exact ⟨fun h => h.1.1.symm, fun h => ⟨⟨h.symm, rfl⟩, Nat.le_of_eq (Nat.two_mul p)⟩⟩

theorem ahead_iff {i j p : Nat} (hp : 1 ≤ p) (hij : i + 2 * p ≤ j) (hj : j ≤ t.length) (h : PerI (uF t) i j p) : aheadF t i p = false ↔ (i = 0 ∨ uF t (i - 1) ≠ uF t (i - 1 + p)) := by
  unfold aheadF
  cases i with
  | zero => simp
  | succ i =>
    have e : i + 2 * p = i + p + p := by rw [Nat.two_mul, Nat.add_assoc]
    rw [show i + 1 - 1 = i from rfl, e, show decide (i + 1 > 0) = true from rfl, Bool.true_and, Bool.eq_false_iff, Ne, twice_iff hs hp (by first | lia | omega) (.inr rfl)]
    have : (∀ x, x < p → uF t (i + x) = uF t (i + p + x)) ↔ uF t i = uF t (i + p) := by
      constructor
      · exact fun h => h 0 hp
      · intro h0 x hx
        cases x with
        | zero => exact h0
        | succ x =>
          have := h (i + 1 + x) (by first | lia | omega) (by first | lia | omega)
          rw [show i + (x + 1) = i + 1 + x from by first | lia | omega, this]
          congr 1; (first | lia | omega)
    rw [this]
    exact ⟨.inr, fun h => h.resolve_left (Nat.succ_ne_zero i)⟩

theorem behind_iff {i j p : Nat} (hp : 1 ≤ p) (hij : i + 2 * p ≤ j) (hj : j ≤ t.length) (h : PerI (uF t) i j p) : behindF t j p = false ↔ (j = t.length ∨ uF t (j - p) ≠ uF t j) := by
  unfold behindF
  rcases Nat.lt_or_ge j t.length with h0 | h0
  · obtain ⟨k, hk⟩ : ∃ k, j + 1 = k + p + p := ⟨j + 1 - 2 * p, by first | lia | omega⟩
    obtain ⟨q, rfl⟩ : ∃ q, p = q + 1 := ⟨p - 1, (Nat.sub_add_cancel hp).symm⟩
    rw [show j + 1 - 2 * (q + 1) = k from by first | lia | omega, show j + 1 - (q + 1) = k + (q + 1) from by first | lia | omega, hk, decide_eq_true h0, Bool.true_and, Bool.eq_false_iff, Ne, twice_iff hs hp (by first | lia | omega) (.inl rfl)]
    have e1 : j - (q + 1) = k + q := by first | lia | omega
    have e2 : j = k + (q + 1) + q := by first | lia | omega
    have : (∀ x, x < q + 1 → uF t (k + x) = uF t (k + (q + 1) + x)) ↔ uF t (j - (q + 1)) = uF t j := by
      rw [e1, e2]
      constructor
      · exact fun h => h q (Nat.lt_succ_self q)
      · intro h0 x hx
        rcases Nat.lt_succ_iff_lt_or_eq.mp hx with hx | rfl
        · have := h (k + x) (by first | lia | omega) (by first | lia | omega)
          rw [this]; congr 1; (first | lia | omega)
        · exact h0
    rw [this]
    exact ⟨.inr, fun h => h.resolve_left (Nat.ne_of_lt h0)⟩
  · rw [show decide (j < t.length) = false from decide_eq_false (Nat.not_lt.mpr h0)]
    exact ⟨fun _ => .inl (Nat.le_antisymm hj h0), fun _ => rfl⟩

theorem mem_runHere {i j : Nat} (hij : i + 2 ≤ j) (hj : j ≤ t.length) (r : Trip) : r ∈ runHere t i j ↔ ∃ p : Nat, r = ((i : Int), (j : Int), (p : Int)) ∧ Run (uF t) t.length i j p := by
  unfold runHere
  rcases leastF_spec hs hij hj with ⟨h1, h2⟩ | ⟨h1, h2, h3, h4⟩
  · rw [h1, if_neg (by first | lia | omega)]
    simp only [List.not_mem_nil, false_iff]
    rintro ⟨p, _, hr⟩
    exact h2 p hr.p1 hr.two hr.per
  · generalize leastF t i j = q at h1 h2 h3 h4
    have hA := ahead_iff hs h1 h2 hj h3
    have hB := behind_iff hs h1 h2 hj h3
    constructor
    · intro hr
      split at hr
      · rename_i hc
        rw [List.mem_singleton] at hr
        exact ⟨q, hr, ⟨h1, h2, hj, h3, h4, hA.mp hc.2.1, hB.mp hc.2.2⟩⟩
      · simp at hr
    · rintro ⟨p, rfl, hr⟩
      have : p = q := by
        rcases Nat.lt_trichotomy p q with h | h | h
        · exact absurd hr.per (h4 p hr.p1 h)
        · exact h
        · exact absurd h3 (hr.least q h1 h)
      subst this
      rw [if_pos ⟨by first | lia | omega, hA.mpr hr.left, hB.mpr hr.right⟩]
      simp

omit hs in
theorem mem_runsJ (i : Nat) (r : Trip) : ∀ m, r ∈ runsJ t i m ↔ ∃ s, s < m ∧ r ∈ runHere t i (i + 2 + s)
  | 0 => by simp [runsJ]
  | m + 1 => by
    rw [runsJ, List.mem_append, mem_runsJ i r m]
    constructor
    · rintro (⟨s, h1, h2⟩ | h)
      · exact ⟨s, by first | lia | omega, h2⟩
      · exact ⟨m, by first | lia | omega, h⟩
    · rintro ⟨s, h1, h2⟩
      rcases Nat.lt_or_ge s m with h | h
      · exact .inl ⟨s, h, h2⟩
      · have : s = m := by first | lia | omega
        subst this; exact .inr h2
omit hs in
theorem mem_runsI (r : Trip) : ∀ m, r ∈ runsI t m ↔ ∃ i, i < m ∧ r ∈ runsJ t i (t.length + 1 - (i + 2))
  | 0 => by simp [runsI]
  | m + 1 => by
    rw [runsI, List.mem_append, mem_runsI r m]
    constructor
    · rintro (⟨s, h1, h2⟩ | h)
      · exact ⟨s, by first | lia | omega, h2⟩
      · exact ⟨m, by first | lia | omega, h⟩
    · rintro ⟨s, h1, h2⟩
      rcases Nat.lt_or_ge s m with h | h
      · exact .inl ⟨s, h, h2⟩
      · have : s = m := by first | lia | omega
        subst this; exact .inr h2
theorem mem_runs (r : Trip) : r ∈ runsI t t.length ↔ ∃ i j p : Nat, r = ((i : Int), (j : Int), (p : Int)) ∧ Run (uF t) t.length i j p := by
  rw [mem_runsI]
  constructor
  · rintro ⟨i, hi, hr⟩
    obtain ⟨s, hs1, hr⟩ := (mem_runsJ i r _).mp hr
    obtain ⟨p, rfl, hp⟩ := (mem_runHere hs (by first | lia | omega) (by first | lia | omega) r).mp hr
    exact ⟨i, _, p, rfl, hp⟩
  · rintro ⟨i, j, p, rfl, hp⟩
    have a := hp.p1
    have b := hp.two
    have c := hp.jn
    refine ⟨i, by first | lia | omega, (mem_runsJ i _ _).mpr ⟨j - (i + 2), by first | lia | omega, ?_⟩⟩
    rw [show i + 2 + (j - (i + 2)) = j from by first | lia | omega]
    exact (mem_runHere hs (by first | lia | omega) c _).mpr ⟨p, rfl, hp⟩
theorem mem_run {i j p : Nat} : ((i : Int), (j : Int), (p : Int)) ∈ runsI t t.length ↔ Run (uF t) t.length i j p := by
  rw [mem_runs hs]
  constructor
  · rintro ⟨i', j', p', e, h⟩
    simp only [Prod.mk.injEq, Int.natCast_inj] at e
    obtain ⟨rfl, rfl, rfl⟩ := e
    exact h
  · intro h; exact ⟨i, j, p, rfl, h⟩

omit hs in
theorem runHere_at {i j : Nat} {r : Trip} (h : r ∈ runHere t i j) : r.1 = i ∧ r.2.1 = j := by
  unfold runHere at h
  split at h
  · rw [List.mem_singleton] at h; subst h; exact ⟨rfl, rfl⟩
  · simp at h
omit hs in
theorem runHere_p {i j : Nat} (hij : i ≤ j) {r : Trip} (h : r ∈ runHere t i j) : 0 ≤ r.2.2 ∧ r.2.2 ≤ j := by
  unfold runHere at h
  split at h
  · rw [List.mem_singleton] at h; subst h
    have : ∀ u, leastG (subL t i j) ((j - i) / 2) u ≤ (j - i) / 2 := by
      intro u
      induction u with
      | zero => simp [leastG]
      | succ u ih => unfold leastG; split <;> (first | lia | omega)
    have := this ((j - i) / 2)
    unfold leastF
    simp only
    (first | lia | omega)
  · simp at h
omit hs in
theorem pw_le1 {α : Type} {R : α → α → Prop} {l : List α} (h : l.length ≤ 1) : l.Pairwise R := by
  cases l with
  | nil => exact .nil
  | cons a r => cases r with
    | nil => exact List.pairwise_singleton _ _
    | cons b r => exact absurd h (Nat.not_le.mpr (Nat.le_add_left 2 r.length))
omit hs in
theorem runsJ_sorted (hl : t.length ≤ 100) (i : Nat) : ∀ m, i + 2 + m ≤ t.length + 1 → (runsJ t i m).Pairwise fun a b => code a < code b
  | 0, _ => .nil
  | m + 1, hm => by
    rw [runsJ, List.pairwise_append]
    refine ⟨runsJ_sorted hl i m (by first | lia | omega), ?_, fun a ha b hb => ?_⟩
    · exact pw_le1 (runHere_len t i (i + 2 + m))
    · obtain ⟨s, hs1, ha⟩ := (mem_runsJ i a m).mp ha
      have a1 := runHere_at ha
      have a2 := runHere_p (by first | lia | omega) ha
      have b1 := runHere_at hb
      have b2 := runHere_p (by first | lia | omega) hb
      unfold code
      (first | lia | omega)
omit hs in
theorem runsI_sorted (hl : t.length ≤ 100) : ∀ m, m ≤ t.length → (runsI t m).Pairwise fun a b => code a < code b
  | 0, _ => .nil
  | m + 1, hm => by
    rw [runsI, List.pairwise_append]
    refine ⟨runsI_sorted hl m (by first | lia | omega), ?_, fun a ha b hb => ?_⟩
    · rcases Nat.lt_or_ge (m + 1) t.length with h | h
      · exact runsJ_sorted hl m _ (by first | lia | omega)
      · rw [show t.length + 1 - (m + 2) = 0 from by first | lia | omega]; exact .nil
    · obtain ⟨i, hi, ha⟩ := (mem_runsI a m).mp ha
      obtain ⟨s, hs1, ha⟩ := (mem_runsJ i a _).mp ha
      obtain ⟨s', hs2, hb⟩ := (mem_runsJ m b _).mp hb
      have a1 := runHere_at ha
      have a2 := runHere_p (by first | lia | omega) ha
      have b1 := runHere_at hb
      have b2 := runHere_p (by first | lia | omega) hb
      unfold code
      (first | lia | omega)

omit hs in
theorem lt_drop {w : List Nat} {x : Nat} (h1 : 1 ≤ x) (h2 : x < w.length) : w < w.drop x ↔ ∃ d, x + d < w.length ∧ (∀ e, e < d → uF w e = uF w (x + e)) ∧ uF w d < uF w (x + d) := by
  have g1 : ∀ e (he : e < w.length), w[e] = uF w e := by
    intro e he
    have := uF_get he
    rw [List.getElem?_eq_getElem he] at this; exact Option.some.inj this
  have g2 : ∀ e (he : e < (w.drop x).length) (hx : x + e < w.length), (w.drop x)[e] = uF w (x + e) := fun e he hx => by rw [List.getElem_drop]; exact g1 _ hx
  have hl : ∀ e, e < (w.drop x).length ↔ x + e < w.length := by intro e; rw [List.length_drop]; (first | lia | omega)
  rw [List.lt_iff_exists]
  constructor
  · rintro (⟨_, h3⟩ | ⟨d, hd1, hd2, h3, h4⟩)
    · exact absurd h3 (by rw [List.length_drop]; (first | lia | omega))
    · rw [g1, g2 d hd2 ((hl d).mp hd2)] at h4
      refine ⟨d, (hl d).mp hd2, fun e he => ?_, h4⟩
      have := h3 e he
      rwa [g1, g2 e _ (Nat.lt_trans (Nat.add_lt_add_left he x) ((hl d).mp hd2))] at this
  · rintro ⟨d, h3, h4, h5⟩
    refine .inr ⟨d, Nat.lt_of_le_of_lt (Nat.le_add_left d x) h3, (hl d).mpr h3, fun e he => ?_, ?_⟩
    · rw [g1, g2 e _ (Nat.lt_trans (Nat.add_lt_add_left he x) h3)]; exact h4 e he
    · rw [g1, g2 d _ h3]; exact h5
omit hs in
theorem prime_iff {o : List Nat} {k m : Nat} (hkm : k ≤ m) (hm : m ≤ o.length) : primeF (subL o k m) = true ↔ Lyn (fun a b => a < b) (uF o) k m := by
  have hl : (subL o k m).length = m - k := subL_length _ _ _ hm
  have hu : ∀ x, x < m - k → uF o (k + x) = uF (subL o k m) x := by
    intro x hx
    have h1 : (subL o k m)[x]? = some (uF (subL o k m) x) := uF_get (by rw [hl]; exact hx)
    rw [subL_get (Nat.add_lt_of_lt_sub' hx), uF_get (Nat.lt_of_lt_of_le (Nat.add_lt_of_lt_sub' hx) hm)] at h1
    exact Option.some.inj h1
  have hP : primeF (subL o k m) = true ↔ Lyn (fun a b => a < b) (uF (subL o k m)) 0 (m - k) := by
    unfold primeF
    rw [decide_eq_true_eq, List.filter_eq_nil_iff, hl]
    constructor
    · intro h x h1 h2
      have := h (x : Int) (mem_rng.mpr (by first | lia | omega))
      simp only [Int.toNat_natCast, Bool.not_eq_true', decide_eq_false_iff_not, Classical.not_not] at this
      obtain ⟨d, d1, d2, d3⟩ := (lt_drop h1 (hl ▸ h2)).mp this
      exact ⟨d, hl ▸ d1, fun e he => by rw [Nat.zero_add]; exact d2 e he, by rw [Nat.zero_add]; exact d3⟩
    · intro h z hz
      obtain ⟨x, rfl⟩ := Int.eq_ofNat_of_zero_le (show 0 ≤ z by have := mem_rng.mp hz; (first | lia | omega))
      have hz := mem_rng.mp hz
      simp only [Int.toNat_natCast, Bool.not_eq_true', decide_eq_false_iff_not, Classical.not_not]
      obtain ⟨d, d1, d2, d3⟩ := h x (by first | lia | omega) (by first | lia | omega)
      refine (lt_drop (by first | lia | omega) (by rw [hl]; (first | lia | omega))).mpr ⟨d, hl ▸ d1, fun e he => ?_, ?_⟩
      · have := d2 e he; rwa [Nat.zero_add] at this
      · rwa [Nat.zero_add] at d3
  rw [hP]
  constructor
  · intro h
    have := Lyn.shift hu (Nat.le_refl _) h
    rwa [Nat.add_zero, Nat.add_sub_of_le hkm] at this
  · intro h x h1 h2
    obtain ⟨d, d1, d2, d3⟩ := h (k + x) (Nat.lt_add_of_pos_right h1) (Nat.add_lt_of_lt_sub' h2)
    have hd : ∀ e, e ≤ d → x + e < m - k := fun e he => by first | lia | omega
    have hd' : ∀ e, e ≤ d → e < m - k := fun e he => by first | lia | omega
    refine ⟨d, hd d (Nat.le_refl d), fun e he => ?_, ?_⟩
    · have := d2 e he
      rw [Nat.add_assoc, hu _ (hd' e (Nat.le_of_lt he)), hu _ (hd e (Nat.le_of_lt he))] at this
      rwa [Nat.zero_add]
    · rw [Nat.add_assoc, hu _ (hd' d (Nat.le_refl d)), hu _ (hd d (Nat.le_refl d))] at d3
      rwa [Nat.zero_add]

noncomputable def ordB (t : List Nat) (b : Bool) : List Nat := if b then turnF t else t
omit hs in
theorem ordB_len (b : Bool) : (ordB t b).length = t.length := by unfold ordB; split <;> simp [turnF]
theorem turn_lt {x y : Nat} (hx : Sg x) (hy : Sg y) : turn1 x < turn1 y ↔ y < x := by
  rcases hx with rfl | rfl | rfl <;> rcases hy with rfl | rfl | rfl <;> decide
theorem turn_eq {x y : Nat} (hx : Sg x) (hy : Sg y) : turn1 x = turn1 y ↔ x = y := by
  rcases hx with rfl | rfl | rfl <;> rcases hy with rfl | rfl | rfl <;> decide
theorem uF_sg {x : Nat} (h : x < t.length) : Sg (uF t x) := by
  unfold uF; rw [List.getD_eq_getElem?_getD, List.getElem?_eq_getElem h]; exact hs _ (List.getElem_mem h)
theorem prime_ord {b : Bool} {k m : Nat} (hkm : k ≤ m) (hm : m ≤ t.length) : primeF (subL (ordB t b) k m) = true ↔ Lyn (RO b) (uF t) k m := by
  rw [prime_iff hkm (by rw [ordB_len]; exact hm)]
  cases b with
  | false => exact Iff.rfl
  | true =>
    have hu : ∀ x, x < t.length → uF (ordB t true) x = turn1 (uF t x) := by
      intro x hx
      show (turnF t).getD x 0 = turn1 (t.getD x 0)
      unfold turnF
      rw [List.getD_eq_getElem?_getD, List.getD_eq_getElem?_getD, List.getElem?_map, List.getElem?_eq_getElem hx]; rfl
    have hd : ∀ x d, k < x → x + d < m → (((∀ e, e < d → uF (ordB t true) (k + e) = uF (ordB t true) (x + e)) ∧ uF (ordB t true) (k + d) < uF (ordB t true) (x + d)) ↔ ((∀ e, e < d → uF t (k + e) = uF t (x + e)) ∧ uF t (x + d) < uF t (k + d))) := by
      intro x d h1 h2
      rw [hu _ (by first | lia | omega), hu _ (by first | lia | omega), turn_lt hs (uF_sg hs (by first | lia | omega)) (uF_sg hs (by first | lia | omega))]
      refine and_congr_left fun _ => ?_
      constructor
      · intro h e he
        have := h e he
        rwa [hu _ (by first | lia | omega), hu _ (by first | lia | omega), turn_eq hs (uF_sg hs (by first | lia | omega)) (uF_sg hs (by first | lia | omega))] at this
      · intro h e he
        rw [hu _ (by first | lia | omega), hu _ (by first | lia | omega), turn_eq hs (uF_sg hs (by first | lia | omega)) (uF_sg hs (by first | lia | omega))]
        exact h e he
    constructor
    · intro h x h1 h2
      obtain ⟨d, d1, d2⟩ := h x h1 h2
      exact ⟨d, d1, (hd x d h1 d1).mp d2⟩
    · intro h x h1 h2
      obtain ⟨d, d1, d2⟩ := h x h1 h2
      exact ⟨d, d1, (hd x d h1 d1).mpr d2⟩

noncomputable def ownB (t : List Nat) (j p : Nat) : Bool := decide (j < t.length ∧ [t.getD (j - p) 0] < [t.getD j 0])
omit hs in
theorem orderF_eq (j p : Nat) : orderF t j p = ordB t (ownB t j p) := by
  unfold orderF ordB ownB
  by_cases h : j < t.length ∧ [t.getD (j - p) 0] < [t.getD j 0] <;> simp [h]
omit hs in
theorem one_lt {a b : Nat} : ([a] < [b]) ↔ a < b := by
  rw [List.lt_iff_exists]; simp
  constructor
  · rintro ⟨i, _, rfl, h⟩; exact h
  · intro h; exact ⟨0, fun j hj => by first | lia | omega, rfl, h⟩
omit hs in
theorem own_of {i j p : Nat} (r : Run (uF t) t.length i j p) : Own (uF t) t.length j p (ownB t j p) := by
  unfold Own
  rcases r.right with h | h
  · exact .inl h
  · rcases Nat.lt_or_ge j t.length with hj | hj
    · refine .inr ?_
      unfold ownB
      by_cases hc : [t.getD (j - p) 0] < [t.getD j 0]
      · rw [decide_eq_true ⟨hj, hc⟩]
        exact one_lt.mp hc
      · rw [decide_eq_false (fun h => hc h.2)]
        rw [one_lt] at hc
        show uF t j < uF t (j - p)
        have h1 : uF t (j - p) = t.getD (j - p) 0 := rfl
        have h2 : uF t j = t.getD j 0 := rfl
        (first | lia | omega)
    · have := r.jn; exact .inl (by first | lia | omega)

theorem mem_places {i j p : Nat} (hp : i + p ≤ j) (hj : j ≤ t.length) (k : Int) : k ∈ placesF t i j p ↔ ∃ m : Nat, k = m ∧ i < m ∧ m + p ≤ j ∧ Lyn (RO (ownB t j p)) (uF t) m (m + p) := by
  unfold placesF
  rw [List.mem_filter, mem_rng, orderF_eq]
  constructor
  · rintro ⟨⟨h1, h2⟩, h3⟩
    refine ⟨k.toNat, by first | lia | omega, by first | lia | omega, by first | lia | omega, ?_⟩
    exact (prime_ord hs (by first | lia | omega) (by first | lia | omega)).mp h3
  · rintro ⟨m, rfl, h1, h2, h3⟩
    refine ⟨by first | lia | omega, ?_⟩
    simp only [Int.toNat_natCast]
    exact (prime_ord hs (by first | lia | omega) (by first | lia | omega)).mpr h3

omit hs in
theorem count_blocks (q : Int → Bool) (p : Nat) : ∀ (b : Nat) (a : Int) (n : Nat), b * p ≤ n → (∀ c : Int, a ≤ c → c + p ≤ a + n → ∃ k, c ≤ k ∧ k < c + p ∧ q k = true) → b ≤ ((rng a n).filter q).length
  | 0, _, _, _, _ => Nat.zero_le _
  | b + 1, a, n, hn, h => by
    rw [Nat.succ_mul] at hn
    have hsplit : rng a n = rng a p ++ rng (a + p) (n - p) := by
      unfold rng
      rw [show n = p + (n - p) from by first | lia | omega, List.range_add, List.map_append, List.map_map]
      congr 1
      rw [show p + (n - p) - p = n - p from by first | lia | omega]
      apply List.map_congr_left
      intro i _
      simp only [Function.comp]
      (first | lia | omega)
    rw [hsplit, List.filter_append, List.length_append]
    have h1 : 1 ≤ ((rng a p).filter q).length := by
      obtain ⟨k, k1, k2, k3⟩ := h a (by first | lia | omega) (by first | lia | omega)
      exact List.length_pos_of_mem (List.mem_filter.mpr ⟨mem_rng.mpr ⟨k1, k2⟩, k3⟩)
    have h2 := count_blocks q p b (a + p) (n - p) (by first | lia | omega) fun c h3 h4 => h c (by first | lia | omega) (by first | lia | omega)
    (first | lia | omega)

theorem many_ok {i j p : Nat} (r : Run (uF t) t.length i j p) : (j - i) / p ≤ (placesF t i j p).length + 1 := by
  have h1 := r.p1
  have h2 := r.two
  have h3 := r.jn
  have hb : (j - i) / p - 1 ≤ (placesF t i j p).length := by
    refine count_blocks _ p _ _ _ ?_ fun c c1 c2 => ?_
    · have := Nat.div_mul_le_self (j - i) p
      rw [Nat.sub_mul, Nat.one_mul]; (first | lia | omega)
    · obtain ⟨k, k1, k2, k3⟩ := lyn_in_run (ord_RO (ownB t j p)) h1 h2 r.per r.least (a := c.toNat) (by first | lia | omega) (by first | lia | omega)
      refine ⟨k, by first | lia | omega, by first | lia | omega, ?_⟩
      simp only [Int.toNat_natCast]
      rw [orderF_eq]
      exact (prime_ord hs (by first | lia | omega) (by first | lia | omega)).mpr k3
  (first | lia | omega)

theorem apart_ok {i j p i' j' p' : Nat} (r : Run (uF t) t.length i j p) (r' : Run (uF t) t.length i' j' p') (hne : ¬ (i = i' ∧ j = j' ∧ p = p')) : ∀ k ∈ placesF t i j p, k ∉ placesF t i' j' p' := by
  intro k hk hk'
  have a := r.two
  have b := r'.two
  obtain ⟨m, rfl, h1, h2, h3⟩ := (mem_places hs (by first | lia | omega) r.jn k).mp hk
  obtain ⟨m', e, g1, g2, g3⟩ := (mem_places hs (by first | lia | omega) r'.jn _).mp hk'
  have : m' = m := by first | lia | omega
  subst this
  exact hne (Run.apart r r' (own_of r) (own_of r') h1 h2 g1 g2 h3 g3)
end
end
section
set_option maxRecDepth 100000

theorem goL_spec (t : List Nat) (p : Nat) : ∀ i, (∀ x, goL t p i ≤ x → x < i → t[x]? = t[x + p]?) ∧ (goL t p i = 0 ∨ t[goL t p i - 1]? ≠ t[goL t p i - 1 + p]?)
  | 0 => ⟨fun x _ h => by first | lia | omega, .inl rfl⟩
  | i + 1 => by
    unfold goL
    split
    · rename_i h
      obtain ⟨h1, h2⟩ := goL_spec t p i
      refine ⟨fun x a b => ?_, h2⟩
      rcases Nat.lt_or_ge x i with c | c
      · exact h1 x a c
      · have : x = i := by first | lia | omega
        subst this; exact h
    · rename_i h
      exact ⟨fun x a b => by first | lia | omega, .inr (by simpa using h)⟩
theorem goR_spec (t : List Nat) (p : Nat) : ∀ n j, (∀ x, j ≤ x → x < goR t p n j → t[x]? = t[x - p]?) ∧ (goR t p n j = j + n ∨ t[goR t p n j]? ≠ t[goR t p n j - p]?)
  | 0, j => ⟨fun x a b => by simp only [goR] at b; (first | lia | omega), .inl rfl⟩
  | n + 1, j => by
    unfold goR
    split
    · rename_i h
      obtain ⟨h1, h2⟩ := goR_spec t p n (j + 1)
      refine ⟨fun x a b => ?_, ?_⟩
      · rcases Nat.lt_or_ge j x with c | c
        · exact h1 x (by first | lia | omega) b
        · have : x = j := by first | lia | omega
          subst this; exact h
      · rcases h2 with h2 | h2
        · exact .inl (by first | lia | omega)
        · exact .inr h2
    · rename_i h
      exact ⟨fun x a b => by first | lia | omega, .inr h⟩

theorem goL_eq {t : List Nat} {p i : Nat} : ∀ k, i ≤ k → (∀ x, i ≤ x → x < k → t[x]? = t[x + p]?) → (i = 0 ∨ t[i - 1]? ≠ t[i - 1 + p]?) → goL t p k = i
  | 0, h, _, _ => (Nat.le_zero.mp h).symm
  | k + 1, h, h2, h3 => by
    unfold goL
    rcases Nat.lt_or_eq_of_le h with h4 | rfl
    · rw [if_pos (h2 k (Nat.lt_succ_iff.mp h4) (Nat.lt_succ_self k))]
      exact goL_eq k (Nat.lt_succ_iff.mp h4) (fun x a b => h2 x a (Nat.lt_succ_of_lt b)) h3
    · rw [if_neg]
      exact h3.resolve_left (Nat.succ_ne_zero k)
theorem goR_eq {t : List Nat} {p j : Nat} : ∀ n s, s ≤ j → j ≤ s + n → (∀ x, s ≤ x → x < j → t[x]? = t[x - p]?) → (j = s + n ∨ t[j]? ≠ t[j - p]?) → goR t p n s = j
  | 0, s, h, h1, _, _ => Nat.le_antisymm h h1
  | n + 1, s, h, h1, h2, h3 => by
    unfold goR
    rcases Nat.lt_or_eq_of_le h with h4 | rfl
    · rw [if_pos (h2 s (Nat.le_refl s) h4)]
      exact goR_eq n (s + 1) h4 (by first | lia | omega) (fun x a b => h2 x (Nat.le_of_succ_le a) b) (h3.imp (fun h => by first | lia | omega) id)
    · rw [if_neg]
      exact h3.resolve_left (by first | lia | omega)

theorem mem_byStep (text order : List Nat) (r : Trip) : ∀ m, r ∈ (List.range m).foldl (byStep text order) [] ↔ ∃ k, k < m ∧ r = ledF text k (lastF order k) ∧ r.2.1 - r.1 ≥ 2 * r.2.2
  | 0 => by simp
  | m + 1 => by
    have ih := mem_byStep text order r m
    rw [List.range_succ, List.foldl_append, List.foldl_cons, List.foldl_nil]
    generalize hf : (List.range m).foldl (byStep text order) [] = found at ih
    have hx : (∃ k, k < m + 1 ∧ r = ledF text k (lastF order k) ∧ r.2.1 - r.1 ≥ 2 * r.2.2) ↔ r ∈ found ∨ (r = ledF text m (lastF order m) ∧ r.2.1 - r.1 ≥ 2 * r.2.2) := by
      rw [ih]
      constructor
      · rintro ⟨k, h1, h2⟩
        rcases Nat.lt_or_ge k m with h | h
        · exact .inl ⟨k, h, h2⟩
        · have : k = m := by first | lia | omega
          subst this; exact .inr h2
      · rintro (⟨k, h1, h2⟩ | h)
        · exact ⟨k, by first | lia | omega, h2⟩
        · exact ⟨m, by first | lia | omega, h⟩
    rw [hx]
    unfold byStep
    split
    · rename_i hc
      rw [List.mem_append, List.mem_singleton]
      constructor
      · rintro (h | h)
        · exact .inl h
        · subst h; exact .inr ⟨rfl, hc.1⟩
      · rintro (h | h)
        · exact .inl h
        · exact .inr h.1
    · rename_i hc
      constructor
      · exact fun h => .inl h
      · rintro (h | h)
        · exact h
        · obtain ⟨rfl, h2⟩ := h
          exact Classical.byContradiction fun hn => hc ⟨h2, hn⟩
theorem byStep_nodup (text order : List Nat) : ∀ m, ((List.range m).foldl (byStep text order) []).Nodup
  | 0 => .nil
  | m + 1 => by
    have ih := byStep_nodup text order m
    rw [List.range_succ, List.foldl_append, List.foldl_cons, List.foldl_nil]
    generalize (List.range m).foldl (byStep text order) [] = found at ih
    unfold byStep
    split
    · rename_i hc
      rw [List.nodup_append]
      refine ⟨ih, by simp, fun a ha b hb => ?_⟩
      rw [List.mem_singleton] at hb
      subst hb
      rintro rfl
      exact hc.2 ha
    · exact ih

section
variable {t : List Nat} (hs : ∀ x ∈ t, Sg x)
include hs

theorem by_run {b : Bool} {r : Trip} (h : r ∈ byF t (ordB t b)) : r ∈ runsI t t.length := by
  obtain ⟨k, hk, rfl, hc⟩ := (mem_byStep t (ordB t b) r t.length).mp h
  have hol : (ordB t b).length = t.length := ordB_len b
  obtain ⟨⟨l1, l2, l3⟩, _⟩ := lastF_spec (ordB t b) k (by first | lia | omega)
  generalize lastF (ordB t b) k = last at l1 l2 l3 hc ⊢
  have hly : Lyn (RO b) (uF t) k last := (prime_ord hs (by first | lia | omega) (by first | lia | omega)).mp l3
  unfold ledF at hc ⊢
  simp only at hc
  obtain ⟨a1, a2⟩ := goL_spec t (last - k) k
  obtain ⟨b1, b2⟩ := goR_spec t (last - k) (t.length - last) last
  have a3 := goL_le t (last - k) k
  have b3 := goR_le t (last - k) (t.length - last) last
  have hp1 : 1 ≤ last - k := by first | lia | omega
  have hlk : last = k + (last - k) := by first | lia | omega
  generalize hpd : last - k = p at *
  subst hlk
  generalize goL t p k = i at *
  generalize goR t p (t.length - (k + p)) (k + p) = j at *
  rw [mem_run hs]
  have hper : PerI (uF t) i j p := by
    intro x hx hxj
    rcases Nat.lt_or_ge x k with h | h
    · exact (uF_eq (by first | lia | omega) (by first | lia | omega)).mp (a1 x hx h)
    · have := (uF_eq (by first | lia | omega) (by first | lia | omega)).mp (b1 (x + p) (by first | lia | omega) hxj)
      rw [show x + p - p = x from by first | lia | omega] at this
      exact this.symm
  refine ⟨hp1, by first | lia | omega, by first | lia | omega, hper, fun q q1 q2 hq => ?_, ?_, ?_⟩
  · exact Lyn.unbordered (ord_RO b) hly q1 (by first | lia | omega) fun x hx hxk => hq x (by first | lia | omega) (by first | lia | omega)
  · rcases a2 with h | h
    · exact .inl h
    · rcases Nat.eq_zero_or_pos i with h0 | h0
      · exact .inl h0
      · exact .inr fun e => h ((uF_eq (by first | lia | omega) (by first | lia | omega)).mpr e)
  · rcases b2 with h | h
    · exact .inl (by first | lia | omega)
    · rcases Nat.lt_or_ge j t.length with h0 | h0
      · exact .inr fun e => h ((uF_eq (by first | lia | omega) (by first | lia | omega)).mpr e.symm)
      · exact .inl (by first | lia | omega)

theorem run_by {i j p : Nat} (r : Run (uF t) t.length i j p) : ((i : Int), (j : Int), (p : Int)) ∈ byF t (ordB t (ownB t j p)) := by
  have h1 := r.p1
  have h2 := r.two
  have h3 := r.jn
  have ho := own_of r
  have hol : (ordB t (ownB t j p)).length = t.length := ordB_len _
  generalize ownB t j p = b at ho hol
  obtain ⟨k, k1, k2, k3⟩ := lyn_in_run (ord_RO b) h1 h2 r.per r.least (a := i) (Nat.le_refl _) (by first | lia | omega)
  obtain ⟨⟨l1, l2, l3⟩, l4⟩ := lastF_spec (ordB t b) k (by first | lia | omega)
  have hlast : lastF (ordB t b) k = k + p := by
    have g1 := l4 (k + p) (by first | lia | omega) ((prime_ord hs (by first | lia | omega) (by first | lia | omega)).mpr k3) (by first | lia | omega)
    rcases Nat.lt_or_ge (k + p) (lastF (ordB t b) k) with h | h
    · exfalso
      have hly : Lyn (RO b) (uF t) k (lastF (ordB t b) k) := (prime_ord hs (by first | lia | omega) (by first | lia | omega)).mp l3
      exact Lyn.longest (ord_RO b) r.per ho k1 (by first | lia | omega) h (by first | lia | omega) h1 hly
    · (first | lia | omega)
  refine (mem_byStep t (ordB t b) _ t.length).mpr ⟨k, by first | lia | omega, ?_, ?_⟩
  · rw [hlast]
    unfold ledF
    rw [show k + p - k = p from by first | lia | omega]
    have hk : k + p ≤ t.length := by first | lia | omega
    have e1 : goL t p k = i := by
      refine goL_eq k k1 (fun x a b => (uF_eq (by first | lia | omega) (by first | lia | omega)).mpr (r.per x a (by first | lia | omega))) ?_
      exact r.left.imp id fun h e => h ((uF_eq (by first | lia | omega) (by first | lia | omega)).mp e)
    have e2 : goR t p (t.length - (k + p)) (k + p) = j := by
      refine goR_eq _ _ (by first | lia | omega) (by first | lia | omega) (fun x a b => (uF_eq (by first | lia | omega) (by first | lia | omega)).mpr ?_) ?_
      · have := r.per (x - p) (by first | lia | omega) (by first | lia | omega)
        rw [Nat.sub_add_cancel (by first | lia | omega)] at this
        exact this.symm
      · rw [Nat.add_sub_of_le hk]
        rcases Nat.lt_or_eq_of_le h3 with h5 | h5
        · exact .inr fun e => (r.right.resolve_left (Nat.ne_of_lt h5)) ((uF_eq (by first | lia | omega) h5).mp e.symm)
        · exact .inl h5
    rw [e1, e2]
  · simp only; (first | lia | omega)

theorem primes_ok (hl : t.length ≤ 100) : (runsI t t.length).Perm (byF t t ++ (byF t (turnF t)).filter fun r => !decide (r ∈ byF t t)) := by
  have n1 : (runsI t t.length).Nodup := (runsI_sorted hl t.length (Nat.le_refl _)).imp fun h e => by rw [e] at h; (first | lia | omega)
  have n2 : (byF t t ++ (byF t (turnF t)).filter fun r => !decide (r ∈ byF t t)).Nodup := by
    rw [List.nodup_append]
    refine ⟨byStep_nodup t t _, (byStep_nodup t (turnF t) _).sublist List.filter_sublist, fun a ha b hb => ?_⟩
    rw [List.mem_filter] at hb
    rintro rfl
    simp [ha] at hb
  rw [List.perm_ext_iff_of_nodup n1 n2]
  intro r
  rw [List.mem_append, List.mem_filter]
  constructor
  · intro h
    obtain ⟨i, j, p, rfl, hr⟩ := (mem_runs hs r).mp h
    have := run_by hs hr
    cases hb : ownB t j p with
    | false => rw [hb] at this; exact .inl this
    | true =>
      rw [hb] at this
      by_cases hm : ((i : Int), (j : Int), (p : Int)) ∈ byF t t
      · exact .inl hm
      · exact .inr ⟨this, by simpa using hm⟩
  · rintro (h | h)
    · exact by_run hs (b := false) h
    · exact by_run hs (b := true) h.1
end

theorem mem_ansG {st : List Nat} {q : Nat} {a : Ans} : ∀ u, a ∈ ansG st q u → ∃ v, v < u ∧ a = (spellF st (q - v), ((q - v : Nat) : Int), ansF st (q - v))
  | 0, h => by simp [ansG] at h
  | u + 1, h => by
    rw [ansG, List.mem_append, List.mem_singleton] at h
    rcases h with h | h
    · obtain ⟨v, h1, h2⟩ := mem_ansG u h
      exact ⟨v, by first | lia | omega, h2⟩
    · exact ⟨u, by first | lia | omega, h⟩
theorem mem_ansJ {t : List Nat} {i : Nat} {a : Ans} : ∀ u, a ∈ ansJ t i u → ∃ s, s < u ∧ a ∈ ansG (subL t i (i + 2 + s)) ((2 + s) / 2) ((2 + s) / 2)
  | 0, h => by simp [ansJ] at h
  | u + 1, h => by
    rw [ansJ, List.mem_append] at h
    rcases h with h | h
    · obtain ⟨v, h1, h2⟩ := mem_ansJ u h
      exact ⟨v, by first | lia | omega, h2⟩
    · exact ⟨u, by first | lia | omega, h⟩
theorem mem_ansI {t : List Nat} {a : Ans} : ∀ u, a ∈ ansI t u → ∃ i, i < u ∧ a ∈ ansJ t i (t.length + 1 - (i + 2))
  | 0, h => by simp [ansI] at h
  | u + 1, h => by
    rw [ansI, List.mem_append] at h
    rcases h with h | h
    · obtain ⟨v, h1, h2⟩ := mem_ansI u h
      exact ⟨v, by first | lia | omega, h2⟩
    · exact ⟨u, by first | lia | omega, h⟩

theorem law2_ok {t : List Nat} (hs : ∀ x ∈ t, Sg x) (h1 : 1 ≤ t.length) (hl : t.length ≤ 100) : Law2 t where
  shape := fun r hr => by
    obtain ⟨i, j, p, rfl, h⟩ := (mem_runs hs r).mp hr
    exact ⟨i, j, p, rfl, h.p1, h.two, h.jn⟩
  many := fun i j p h => many_ok hs ((mem_run hs).mp h)
  apart := by
    refine (runsI_sorted hl t.length (Nat.le_refl _)).imp_of_mem fun {r s} hr hs' hlt => ?_
    obtain ⟨i, j, p, rfl, h⟩ := (mem_runs hs r).mp hr
    obtain ⟨i', j', p', rfl, h'⟩ := (mem_runs hs s).mp hs'
    unfold plT
    simp only [Int.toNat_natCast]
    refine apart_ok hs h h' fun e => ?_
    obtain ⟨rfl, rfl, rfl⟩ := e
    (first | lia | omega)
  asked := fun i j p h => by
    have r := (mem_run hs).mp h
    have a1 := r.p1
    have a2 := r.two
    have a3 := r.jn
    have hsl : (subL t i j).length = j - i := subL_length _ _ _ a3
    have hroot : subL t i (i + p) = (subL t i j).take p := by
      unfold subL
      rw [List.take_drop]
      congr 1
      rw [List.take_take, Nat.min_eq_left (by first | lia | omega)]
    have := ask_ok (st := subL t i j) (p := p) a1 (by first | lia | omega) ((perL_sub (by first | lia | omega) a3).mpr r.per) (fun q q1 q2 hq => r.least q q1 q2 ((perL_sub (by first | lia | omega) a3).mp hq)) (sub46 hs _ _)
    unfold askedF
    rw [hroot]
    rwa [hsl] at this
  primes := primes_ok hs hl
  sorted := runsI_sorted hl t.length (Nat.le_refl _)
  anss := fun a ha => by
    obtain ⟨i, hi, ha⟩ := mem_ansI _ ha
    obtain ⟨s, hs1, ha⟩ := mem_ansJ _ ha
    obtain ⟨v, hv, rfl⟩ := mem_ansG _ ha
    have hsl : (subL t i (i + 2 + s)).length = 2 + s := by rw [subL_length _ _ _ (by first | lia | omega)]; (first | lia | omega)
    refine ⟨subL t i (i + 2 + s), (2 + s) / 2 - v, rfl, by first | lia | omega, by first | lia | omega, by first | lia | omega, fun x hx => mem_subL hx⟩
  cut := fun st p hp h2 hm => ans_cut (fun x hx => hs x (hm x hx)) hp (by first | lia | omega)
  last1 := last1_ok t hs h1
  last2 := by
    refine cap_cut _ _ ?_ fun c hc => ?_
    · intro e
      have := congrArg List.length e
      rw [List.length_map, List.length_take, List.length_nil] at this; (first | lia | omega)
    · obtain ⟨y, hy, rfl⟩ := List.mem_map.mp hc
      have := up_sm (hs y (List.mem_of_mem_take hy)); (first | lia | omega)
end
section
open PySem PySem.W PyProof.Rows PySem.W.X PySem.W.ZRun
set_option maxRecDepth 100000
set_option maxHeartbeats 4000000
set_option pp.deepTerms false
set_option pp.maxSteps 3000
theorem well_int {P : Params} {h : Heap} {v : Value} {n : Int} (w : Well P h v (.int n)) : ∃ t, v = .int n t := by
  cases w; exact ⟨_, rfl⟩
theorem ints_of_well {P : Params} {h : Heap} {c : Cx} {Q : Facts} : ∀ {vs : List Value} {ns : List Int}, WellAll P h vs (ofPys (ns.map PyData.int)) → RepL c Q vs (ns.map D.int) := by
  intro vs ns
  induction ns generalizing vs with
  | nil => intro h; cases h; exact .nil
  | cons n ns ih =>
    intro h
    cases h with
    | cons h r => obtain ⟨t, rfl⟩ := well_int h; exact .cons (.int _ _) (ih r)

theorem well_list {P : Params} {h : Heap} {l : Addr} {ns : List Int} (w : Well P h (.ref l) (ofPy (PyData.list (ns.map PyData.int)))) : ∃ vs, h.get? l = some (listO vs 0) ∧ WellAll P h vs (ofPys (ns.map PyData.int)) := by
  cases w with
  | list h1 h2 => exact ⟨_, h1, h2⟩
theorem text2_len (script : List Int) : 8 ≤ (text2 script).length ∧ (text2 script).length ≤ 10 := by
  unfold text2
  rw [textF_length]
  rw [List.length_append, List.length_take, List.length_drop, show ([2, 5, 5, 0, 6, 6, 6, 5] : List Int).length = 8 from rfl, show ([] : List Nat).length = 0 from rfl]
  generalize script.length = n
  rcases Nat.le_total n 8 with h | h
  · rw [Nat.min_eq_right (Nat.le_trans h (by decide)), Nat.add_sub_of_le h]; decide
  · rw [Nat.sub_eq_zero_of_le h, Nat.add_zero, Nat.zero_add]; exact ⟨Nat.le_min.mpr ⟨by decide, h⟩, Nat.min_le_left _ _⟩
theorem textF_signs : ∀ (xs : List Int) (t : List Nat), (∀ x ∈ t, x = 39 ∨ x = 97 ∨ x = 98) → ∀ x ∈ xs.foldl textStep t, x = 39 ∨ x = 97 ∨ x = 98
  | [], t, h => h
  | n :: xs, t, h => by
    rw [List.foldl_cons]
    refine textF_signs xs _ fun x hx => ?_
    unfold textStep at hx
    rcases List.mem_append.mp hx with hx | hx
    · exact h x hx
    · rw [List.mem_singleton] at hx
      subst hx
      have h0 : 0 ≤ n.fmod 8 := Int.fmod_nonneg_of_pos n (by first | lia | omega)
      split
      · have h5 : (n.fmod 8).toNat < 5 := by first | lia | omega
        exact (show ∀ k, k < 5 → (([97, 97, 98, 98, 39] : List Nat).getD k 0 = 39 ∨ ([97, 97, 98, 98, 39] : List Nat).getD k 0 = 97 ∨ ([97, 97, 98, 98, 39] : List Nat).getD k 0 = 98) by decide) _ h5
      · split
        · have hlt : t.length - (n.fmod 8 - 4).toNat < t.length := back_lt (by assumption) (by assumption)
          rw [List.getD_eq_getElem?_getD, List.getElem?_eq_getElem hlt]
          exact h _ (List.getElem_mem hlt)
        · exact .inl rfl

theorem join2 : PySem.Challenge.rw_qc0002_02.Holds := by
  refine Mine.hd ?_
  k_fill
  intro w s₀ s₁ mg mb G Y fa o pm cd doc dV kV ho hd hcd hD hmg hg args vals as hpre hlay hrd hwl hlo
  have KX := kIn_of Y
  clear hcd hD hd
  have hmg' : mg (Str.ofString "law") = some (.ref fa) := hmg
  clear hmg
  refine Ground.open G ?_
  intro T B D TE TW
  clear B D TE TW ho Y
  wrow_args hpre hlay hrd hwl hlo
  refine enter_call ?_
  rename_i ns _ _ _ _ _ _ _ l _ _ _ _ w1 _ _ _ hlen _
  have hlen' : ns.length ≤ 63 := by
    have : ¬ ((63 : Nat) : Int) < ((ns.length : Nat) : Int) := by assumption
    (first | lia | omega)
  have h3 : s₁.heap.get? 3 = _ := KX 3 _ rfl
  have TT : Tops (cx2 w mb) s₁.heap := by
    refine ⟨?_, T.b, T.nolimit, KX, T.builtins⟩
    obtain ⟨o1, es, ep, ho1, hd1, hk1, hm1⟩ := T.g
    refine ⟨o1, es, ep, ho1, hd1, hk1, fun name => ?_⟩
    obtain rfl := Option.some.inj (h3.symm.trans ho1)
    injection hd1 with e _
    subst e
    rfl
  have hfa : fa = 79 := by
    have h1 := ns_det T.g TT.g (Str.ofString "law")
    rw [hmg'] at h1
    have h2 : (cx2 w mb).mg (Str.ofString "law") = some (.ref 79) := by rfl
    rw [h2] at h1
    cases h1; rfl
  rw [hfa]
  obtain ⟨us, hl1, hl2⟩ := well_list w1
  have hAk : AOk 4 callerA := ⟨rfl, by decide +kernel, by decide +kernel⟩
  obtain ⟨tl1, tl2⟩ := text2_len ns
  refine fn_law w mb ns hlen' _ rfl (by first | lia | omega) (by first | lia | omega) (textF_signs _ _ (by simp)) (law2_ok (textF_signs _ _ (by simp)) (by first | lia | omega) (by first | lia | omega)) callerA hAk (fun a o => a = l ∧ o = listO us 0) s₁ [.ref l] TT (fun a o e => by rw [e.1, e.2]; exact hl1) (.cons (.list ⟨rfl, rfl⟩ (ints_of_well hl2)) .nil) _ ?_
  intro v h' tk P' S R
  obtain rfl := R.bool_inv
  refine GoodW.toG ⟨.inl ⟨_, .bool true, [], rfl, fun _ => rfl, .bool true, ?_, fun _ => ⟨.nil, by simp⟩⟩, S.ext, rfl, hg⟩
  wrow_post
end
end
end Mine
theorem PySem.Challenge.cw_qc0002_02_holds : PySem.Challenge.rw_qc0002_02.Holds :=
  Mine.join2
