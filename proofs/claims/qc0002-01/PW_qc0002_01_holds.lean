import PyProof.Rows.All
import Wide.All
import OpenK.AllK
import Wide.FinOn
import PySem.Challenge.RW_qc0002_01
open PySem PySem.W PyProof.Rows
set_option Elab.async false
set_option compiler.extract_closed false
namespace Mine
noncomputable section
section


inductive D where
  | none
  | bool (b : Bool)
  | int (i : Int)
  | str (l : List Nat)
  | tup (ds : List D)
  | list (ds : List D)
  | dict (kvs : List (List Nat × D))

noncomputable abbrev S (l : List Nat) : Str := ⟨l.toArray⟩
noncomputable abbrev Facts := Addr → Obj → Prop
noncomputable abbrev tupO (vs : List Value) (n : Nat) : Obj := { cls := .type "tuple", data := .seq vs.toArray n }
noncomputable abbrev listO (vs : List Value) (n : Nat) : Obj := { cls := .type "list", data := .seq vs.toArray n }
noncomputable abbrev dictO (es : List DictEntry) (n : Nat) : Obj := { cls := .type "dict", data := .dict es.toArray n }

structure Cx where
  prog : Program
  w : World
  K : Frag
  mg : Str → Option Value
  mb : Str → Option Value

noncomputable abbrev Cx.M (c : Cx) : Model := model c.prog c.w
noncomputable abbrev Cx.hash (c : Cx) (k : Str) : Int := PyData.keyHash c.w.params k

mutual
inductive Rep (c : Cx) (P : Facts) : Value → D → Prop
  | none : Rep c P Value.none D.none
  | bool (b : Bool) : Rep c P (Value.bool b) (D.bool b)
  | int (i : Int) (t : Tok) : Rep c P (Value.int i t) (D.int i)
  | str (l : List Nat) (t : Tok) : Rep c P (Value.str (S l) t) (D.str l)
  | tup {a : Addr} {vs : List Value} {n : Nat} {ds : List D} : P a (tupO vs n) → RepL c P vs ds → Rep c P (Value.ref a) (D.tup ds)
  | list {a : Addr} {vs : List Value} {n : Nat} {ds : List D} : P a (listO vs n) → RepL c P vs ds → Rep c P (Value.ref a) (D.list ds)
  | dict {a : Addr} {es : List DictEntry} {n : Nat} {kvs : List (List Nat × D)} : a ≠ sysModules → P a (dictO es n) → RepK c P es kvs → Rep c P (Value.ref a) (D.dict kvs)
inductive RepL (c : Cx) (P : Facts) : List Value → List D → Prop
  | nil : RepL c P [] []
  | cons {v : Value} {vs : List Value} {d : D} {ds : List D} : Rep c P v d → RepL c P vs ds → RepL c P (v :: vs) (d :: ds)
inductive RepK (c : Cx) (P : Facts) : List DictEntry → List (List Nat × D) → Prop
  | nil : RepK c P [] []
  | cons {k : List Nat} {t : Tok} {v : Value} {es : List DictEntry} {d : D} {kvs : List (List Nat × D)} : Rep c P v d → RepK c P es kvs →
      RepK c P (⟨PyData.keyHash c.w.params (S k), .str (S k) t, v⟩ :: es) ((k, d) :: kvs)
end

section
variable {c : Cx} {P : Facts} {v : Value} {vs : List Value}
theorem Rep.inv {d : D} (h : Rep c P v d) : match d with
    | .none => v = .none
    | .bool b => v = .bool b
    | .int i => ∃ t, v = .int i t
    | .str l => ∃ t, v = .str (S l) t
    | .tup ds => ∃ a us n, v = .ref a ∧ P a (tupO us n) ∧ RepL c P us ds
    | .list ds => ∃ a us n, v = .ref a ∧ P a (listO us n) ∧ RepL c P us ds
    | .dict kvs => ∃ a es n, v = .ref a ∧ a ≠ sysModules ∧ P a (dictO es n) ∧ RepK c P es kvs :=
  match h with
  | .none => rfl
  | .bool _ => rfl
  | .int _ t => ⟨t, rfl⟩
  | .str _ t => ⟨t, rfl⟩
  | .tup h r => ⟨_, _, _, rfl, h, r⟩
  | .list h r => ⟨_, _, _, rfl, h, r⟩
  | .dict h1 h r => ⟨_, _, _, rfl, h1, h, r⟩
theorem Rep.none_inv (h : Rep c P v .none) : v = .none := h.inv
theorem Rep.bool_inv {b : Bool} (h : Rep c P v (.bool b)) : v = .bool b := h.inv
theorem Rep.int_inv {i : Int} (h : Rep c P v (.int i)) : ∃ t, v = .int i t := h.inv
theorem Rep.str_inv {l : List Nat} (h : Rep c P v (.str l)) : ∃ t, v = .str (S l) t := h.inv
theorem Rep.tup_inv {ds : List D} (h : Rep c P v (.tup ds)) : ∃ a us n, v = .ref a ∧ P a (tupO us n) ∧ RepL c P us ds := h.inv
theorem Rep.list_inv {ds : List D} (h : Rep c P v (.list ds)) : ∃ a us n, v = .ref a ∧ P a (listO us n) ∧ RepL c P us ds := h.inv
theorem Rep.dict_inv {kvs : List (List Nat × D)} (h : Rep c P v (.dict kvs)) : ∃ a es n, v = .ref a ∧ a ≠ sysModules ∧ P a (dictO es n) ∧ RepK c P es kvs := h.inv
theorem RepL.nil_inv (h : RepL c P vs []) : vs = [] := by cases h; rfl
theorem RepL.cons_inv {d : D} {ds : List D} (h : RepL c P vs (d :: ds)) : ∃ u us, vs = u :: us ∧ Rep c P u d ∧ RepL c P us ds := by cases h; exact ⟨_, _, rfl, by assumption, by assumption⟩
end

noncomputable def IsData (o : Obj) : Prop := (∃ vs n, o = tupO vs n) ∨ (∃ vs n, o = listO vs n) ∨ (∃ es n, o = dictO es n)

section
variable {c : Cx} {P P' : Facts} (hs : ∀ a o, IsData o → P a o → P' a o)
include hs
theorem Rep.only {v : Value} {d : D} (h : Rep c P v d) : Rep c P' v d :=
  Rep.rec (motive_1 := fun v d _ => Rep c P' v d) (motive_2 := fun vs ds _ => RepL c P' vs ds) (motive_3 := fun es kvs _ => RepK c P' es kvs) .none .bool .int .str
    (fun h _ r => .tup (hs _ _ (.inl ⟨_, _, rfl⟩) h) r) (fun h _ r => .list (hs _ _ (.inr (.inl ⟨_, _, rfl⟩)) h) r) (fun h1 h _ r => .dict h1 (hs _ _ (.inr (.inr ⟨_, _, rfl⟩)) h) r)
    .nil (fun _ _ h r => .cons h r) .nil (fun _ _ h r => .cons h r) h
theorem RepL.only {vs : List Value} {ds : List D} (h : RepL c P vs ds) : RepL c P' vs ds :=
  RepL.rec (motive_1 := fun v d _ => Rep c P' v d) (motive_2 := fun vs ds _ => RepL c P' vs ds) (motive_3 := fun es kvs _ => RepK c P' es kvs) .none .bool .int .str
    (fun h _ r => .tup (hs _ _ (.inl ⟨_, _, rfl⟩) h) r) (fun h _ r => .list (hs _ _ (.inr (.inl ⟨_, _, rfl⟩)) h) r) (fun h1 h _ r => .dict h1 (hs _ _ (.inr (.inr ⟨_, _, rfl⟩)) h) r)
    .nil (fun _ _ h r => .cons h r) .nil (fun _ _ h r => .cons h r) h
theorem RepK.only {es : List DictEntry} {kvs : List (List Nat × D)} (h : RepK c P es kvs) : RepK c P' es kvs :=
  RepK.rec (motive_1 := fun v d _ => Rep c P' v d) (motive_2 := fun vs ds _ => RepL c P' vs ds) (motive_3 := fun es kvs _ => RepK c P' es kvs) .none .bool .int .str
    (fun h _ r => .tup (hs _ _ (.inl ⟨_, _, rfl⟩) h) r) (fun h _ r => .list (hs _ _ (.inr (.inl ⟨_, _, rfl⟩)) h) r) (fun h1 h _ r => .dict h1 (hs _ _ (.inr (.inr ⟨_, _, rfl⟩)) h) r)
    .nil (fun _ _ h r => .cons h r) .nil (fun _ _ h r => .cons h r) h
end

theorem Rep.mono {c : Cx} {P P' : Facts} (hs : ∀ a o, P a o → P' a o) {v : Value} {d : D} (h : Rep c P v d) : Rep c P' v d := h.only fun a o _ => hs a o
theorem RepL.mono {c : Cx} {P P' : Facts} (hs : ∀ a o, P a o → P' a o) {vs : List Value} {ds : List D} (h : RepL c P vs ds) : RepL c P' vs ds := h.only fun a o _ => hs a o
theorem RepK.mono {c : Cx} {P P' : Facts} (hs : ∀ a o, P a o → P' a o) {es : List DictEntry} {kvs : List (List Nat × D)} (h : RepK c P es kvs) : RepK c P' es kvs := h.only fun a o _ => hs a o

section
variable {c : Cx} {P : Facts} {v : Value} {d : D} {vs ws : List Value} {ds es : List D}
theorem RepL.length (h : RepL c P vs ds) : vs.length = ds.length := by
  induction vs generalizing ds with
  | nil => cases h; rfl
  | cons v vs ih => cases h with | cons _ r => rw [List.length_cons, List.length_cons, ih r]
theorem RepL.append (h : RepL c P vs ds) (k : RepL c P ws es) : RepL c P (vs ++ ws) (ds ++ es) := by
  induction vs generalizing ds with
  | nil => cases h; exact k
  | cons v vs ih => cases h with | cons h r => exact .cons h (ih r)
theorem RepL.get (h : RepL c P vs ds) {k : Nat} {d : D} (hk : ds[k]? = some d) : ∃ v, vs[k]? = some v ∧ Rep c P v d := by
  induction vs generalizing ds k with
  | nil => cases h; simp at hk
  | cons v vs ih =>
    cases h with
    | cons h r =>
      cases k with
      | zero => simp at hk; subst hk; exact ⟨v, rfl, h⟩
      | succ k => exact ih r (by simpa using hk)
theorem RepL.get' (h : RepL c P vs ds) {k : Nat} {v : Value} (hk : vs[k]? = some v) : ∃ d, ds[k]? = some d ∧ Rep c P v d := by
  induction vs generalizing ds k with
  | nil => simp at hk
  | cons u vs ih =>
    cases h with
    | cons h r =>
      cases k with
      | zero => simp at hk; subst hk; exact ⟨_, rfl, h⟩
      | succ k => exact ih r (by simpa using hk)
theorem RepL.take (h : RepL c P vs ds) (k : Nat) : RepL c P (vs.take k) (ds.take k) := by
  induction vs generalizing ds k with
  | nil => cases h; simp; exact .nil
  | cons v vs ih =>
    cases h with
    | cons h r => cases k with
      | zero => simp; exact .nil
      | succ k => simp; exact .cons h (ih r k)
theorem RepL.drop (h : RepL c P vs ds) (k : Nat) : RepL c P (vs.drop k) (ds.drop k) := by
  induction vs generalizing ds k with
  | nil => cases h; simp; exact .nil
  | cons v vs ih =>
    cases h with
    | cons h r => cases k with
      | zero => simp; exact .cons h r
      | succ k => simp; exact ih r k
theorem RepL.one (h : Rep c P v d) : RepL c P [v] [d] := .cons h .nil
end


structure Tops (c : Cx) (h : Heap) : Prop where
  g : h.Ns mainGlobals c.mg
  b : h.Ns builtinsNs c.mb
  lim : h.NoLimit
  k : c.K.In h
  bb : ∀ x : Str, x ≠ "__name__" → c.mb x = bootBuiltins x

theorem Tops.keeps {c : Cx} {h h' : Heap} (T : Tops c h) (hk : ∀ b o, h.get? b = some o → h'.get? b = some o) : Tops c h' :=
  ⟨T.g.keeps hk, T.b.keeps hk, T.lim.keeps hk, T.k.keeps hk, T.bb⟩

noncomputable def VarIs (env : Env) (h : Heap) (x : Str) (v : Value) : Prop :=
  (env.kindOf x = some .local ∧ ∃ m, h.Ns env.locals m ∧ m x = some v) ∨
  (env.kindOf x = some .cell ∧ ∃ a, env.cells.lookup x = some a ∧ h.IsCell a (some v))

theorem VarIs.keeps {env : Env} {h h' : Heap} {x : Str} {v : Value} (V : VarIs env h x v) (hk : ∀ b o, h.get? b = some o → h'.get? b = some o) : VarIs env h' x v := by
  rcases V with ⟨h1, m, h2, h3⟩ | ⟨h1, a, h2, h3⟩
  · exact .inl ⟨h1, m, h2.keeps hk, h3⟩
  · exact .inr ⟨h1, a, h2, h3.keeps hk⟩

inductive Slot where
  | val (d : D)
  | own (d : D)
noncomputable abbrev Sto := List (String × Slot)

noncomputable def OwnObj (c : Cx) (P : Facts) (h : Heap) (a : Addr) : D → Prop
  | .list ds => ∃ vs n, h.get? a = some (listO vs n) ∧ RepL c P vs ds
  | .dict kvs => a ≠ sysModules ∧ ∃ es n, h.get? a = some (dictO es n) ∧ RepK c P es kvs
  | _ => False

theorem OwnObj.keeps {c : Cx} {P P' : Facts} {h h' : Heap} {a : Addr} (hs : ∀ a o, P a o → P' a o) (hk : ∀ o, h.get? a = some o → h'.get? a = some o) : ∀ {d : D}, OwnObj c P h a d → OwnObj c P' h' a d
  | .list _, ⟨vs, n, e, r⟩ => ⟨vs, n, hk _ e, r.mono hs⟩
  | .dict _, ⟨h1, vs, n, e, r⟩ => ⟨h1, vs, n, hk _ e, r.mono hs⟩
theorem OwnObj.some {c : Cx} {P : Facts} {h : Heap} {a : Addr} : ∀ {d : D}, OwnObj c P h a d → ∃ o, h.get? a = some o ∧ IsData o
  | .list _, ⟨_, _, e, _⟩ => ⟨_, e, .inr (.inl ⟨_, _, rfl⟩)⟩
  | .dict _, ⟨_, _, _, e, _⟩ => ⟨_, e, .inr (.inr ⟨_, _, rfl⟩)⟩
theorem OwnObj.only {c : Cx} {P P' : Facts} {h : Heap} {a : Addr} (hs : ∀ a o, IsData o → P a o → P' a o) : ∀ {d : D}, OwnObj c P h a d → OwnObj c P' h a d
  | .list _, ⟨vs, n, e, r⟩ => ⟨vs, n, e, r.only hs⟩
  | .dict _, ⟨h1, vs, n, e, r⟩ => ⟨h1, vs, n, e, r.only hs⟩

structure EnvOk (env : Env) : Prop where
  kind : env.scope.kind = .function
  globals : env.globals = mainGlobals
  builtins : env.builtins = builtinsNs

structure Good (c : Cx) (env : Env) (σ : Sto) (P : Facts) (s : Shared) : Prop where
  eok : EnvOk env
  tops : Tops c s.heap
  ok : ∀ a o, P a o → s.heap.get? a = some o
  vars : ∀ x d, (x, Slot.val d) ∈ σ → ∃ v, VarIs env s.heap (Str.ofString x) v ∧ Rep c P v d
  owns : ∀ x d, (x, Slot.own d) ∈ σ → ∃ a, VarIs env s.heap (Str.ofString x) (.ref a) ∧ (∀ o, ¬ P a o) ∧ OwnObj c P s.heap a d

structure Step (P P' : Facts) (h h' : Heap) : Prop where
  ext : ∀ b o, h.get? b = some o → h'.get? b = some o
  sub : ∀ a o, P a o → P' a o
  new : ∀ a o, P' a o → P a o ∨ h.get? a = none
  ok : ∀ a o, P' a o → h'.get? a = some o

theorem Step.refl {P : Facts} {h : Heap} (ok : ∀ a o, P a o → h.get? a = some o) : Step P P h h := ⟨fun _ _ e => e, fun _ _ e => e, fun _ _ e => .inl e, ok⟩
theorem Step.trans {P P' P'' : Facts} {h h' h'' : Heap} (x : Step P P' h h') (y : Step P' P'' h' h'') : Step P P'' h h'' :=
  ⟨fun b o e => y.ext b o (x.ext b o e), fun a o e => y.sub a o (x.sub a o e), fun a o e => by
    rcases y.new a o e with q | q
    · exact x.new a o q
    · refine .inr ?_
      cases z : h.get? a with
      | none => rfl
      | some o' => exact absurd (x.ext a o' z) (by rw [q]; intro e; cases e), y.ok⟩
theorem Step.heap {P : Facts} {h h' : Heap} (ok : ∀ a o, P a o → h.get? a = some o) (ext : ∀ b o, h.get? b = some o → h'.get? b = some o) : Step P P h h' :=
  ⟨ext, fun _ _ e => e, fun _ _ e => .inl e, fun a o e => ext a o (ok a o e)⟩
theorem Step.more {P : Facts} {h h' : Heap} {a : Addr} {o : Obj} (ok : ∀ a o, P a o → h.get? a = some o) (ext : ∀ b o, h.get? b = some o → h'.get? b = some o) (hn : h.get? a = none) (ha : h'.get? a = some o) :
    Step P (fun b x => P b x ∨ (b = a ∧ x = o)) h h' :=
  ⟨ext, fun _ _ e => .inl e, fun b x e => by
    rcases e with e | ⟨rfl, rfl⟩
    · exact .inl e
    · exact .inr hn, fun b x e => by
    rcases e with e | ⟨rfl, rfl⟩
    · exact ext _ _ (ok _ _ e)
    · exact ha⟩

theorem Good.step {c : Cx} {env : Env} {σ : Sto} {P P' : Facts} {s : Shared} {h' : Heap} {tk : Nat} (G : Good c env σ P s) (S : Step P P' s.heap h') : Good c env σ P' { s with heap := h', toks := tk } where
  eok := G.eok
  tops := G.tops.keeps S.ext
  ok := S.ok
  vars := fun x d hx => let ⟨v, h1, h2⟩ := G.vars x d hx; ⟨v, h1.keeps S.ext, h2.mono S.sub⟩
  owns := fun x d hx => by
    obtain ⟨a, h1, h2, h3⟩ := G.owns x d hx
    refine ⟨a, h1.keeps S.ext, fun o ho => ?_, h3.keeps S.sub fun o e => S.ext _ _ e⟩
    obtain ⟨o', e, _⟩ := h3.some
    rcases S.new a o ho with q | q
    · exact h2 o q
    · rw [e] at q; cases q

structure AOk (n : Nat) (A : Around) : Prop where
  handled : A.handled = none
  depth : A.depth + n < recursionLimit
  units : A.units + 20 * n + 100 < cLine

theorem AOk.deeper {n : Nat} {A : Around} (h : AOk (n + 1) A) (env : Env) : AOk n (A.deeper env) :=
  ⟨h.handled, by have := h.depth; show A.depth + 1 + n < _; (first | lia | omega), by have := h.units; show A.units + 3 + _ + _ < _; (first | lia | omega)⟩
theorem AOk.le {n k : Nat} {A : Around} (h : AOk n A) (hk : k ≤ n) : AOk k A :=
  ⟨h.handled, by have := h.depth; (first | lia | omega), by have := h.units; (first | lia | omega)⟩
theorem AOk.room {n : Nat} {A : Around} (h : AOk n A) : A.depth < recursionLimit := by have := h.depth; (first | lia | omega)


noncomputable def Ev (c : Cx) (A : Around) (env : Env) (σ : Sto) (e : Expr) (d : D) : Prop :=
  ∀ ⦃P : Facts⦄ (s : Shared), Good c env σ P s → ∀ (Q : Value → Shared → Prop) (E : Value → Shared → Prop),
    (∀ v h' tk P', Step P P' s.heap h' → Rep c P' v d → Q v { s with heap := h', toks := tk }) → wpAny c.M A (eval e env) Q E s

noncomputable def EvT (c : Cx) (A : Around) (env : Env) (σ : Sto) (e : Expr) (b : Bool) : Prop :=
  ∀ ⦃P : Facts⦄ (s : Shared), Good c env σ P s → ∀ (Q : Bool → Shared → Prop) (E : Value → Shared → Prop),
    (∀ h' tk P', Step P P' s.heap h' → Q b { s with heap := h', toks := tk }) → wpAny c.M A (isTrue e env (eval e env)) Q E s

section
variable {c : Cx} {A : Around} {env : Env} {σ : Sto}

theorem Ev.val {e : Expr} {d : D} {P : Facts} {s : Shared} (h : Ev c A env σ e d) (G : Good c env σ P s) {Q : Value → Shared → Prop} {E : Value → Shared → Prop}
    (k : ∀ v h' tk P', Step P P' s.heap h' → Good c env σ P' { s with heap := h', toks := tk } → Rep c P' v d → Q v { s with heap := h', toks := tk }) : wpAny c.M A (eval e env) Q E s :=
  h s G Q E fun v h' tk P' S R => k v h' tk P' S (G.step S) R

theorem ev_name {n : String} {pos : Pos} {d : D} (h : (n, Slot.val d) ∈ σ) (hd : ((Str.ofString n) == ("__debug__" : Str)) = false := by decide +kernel) : Ev c A env σ (.Name (Str.ofString n) pos) d := by
  intro P s G Q E k
  obtain ⟨v, V, R⟩ := G.vars _ _ h
  have q : Q v s := k v s.heap s.toks P (Step.refl G.ok) R
  refine wpAny_Name ?_ hd
  rcases V with ⟨h1, m, h2, h3⟩ | ⟨h1, a, h2, h3⟩
  · exact wpAny_loadName_local G.eok.kind h1 h2 h3 q
  · exact wpAny_loadName_cell G.eok.kind h1 h2 h3 q

theorem ev_int {i : Int} {k : Nat} {pos : Pos} : Ev c A env σ (.Constant (.int i) k pos) (.int i) := by
  intro P s G Q E q
  exact wpAny_Constant_int (q _ s.heap _ P (Step.refl G.ok) (.int _ _))
theorem ev_str {x : Str} {l : List Nat} {k : Nat} {pos : Pos} (hx : x = S l) : Ev c A env σ (.Constant (.str x) k pos) (.str l) := by
  intro P s G Q E q
  subst hx
  rw [eval_Constant]
  exact wpAny_mkText (q _ s.heap _ P (Step.refl G.ok) (.str _ _))
theorem ev_bool {b : Bool} {k : Nat} {pos : Pos} : Ev c A env σ (.Constant (.bool b) k pos) (.bool b) := by
  intro P s G Q E q
  rw [eval_Constant]
  exact wpAny_pure (q _ s.heap _ P (Step.refl G.ok) (.bool _))
end
end
section

theorem S_append (a b : List Nat) : S a ++ S b = S (a ++ b) := by
  show Str.mk (a.toArray ++ b.toArray) = _
  simp [S]
theorem S_length (a : List Nat) : (S a).length = a.length := by simp [S, Str.length]
theorem S_inj {a b : List Nat} : S a = S b ↔ a = b := by
  constructor
  · intro h
    have := congrArg (fun x : Str => x.cps.toList) h
    simpa [S] using this
  · rintro rfl; rfl
theorem S_beq (a b : List Nat) : (S a == S b) = decide (a = b) := by
  rw [Bool.eq_iff_iff, beq_iff_eq, S_inj, decide_eq_true_eq]
theorem S_toList (a : List Nat) : (S a).cps.toList = a := by simp [S]
theorem S_eta (x : Str) : S x.cps.toList = x := by cases x; simp [S]

noncomputable def Op2 (c : Cx) (A : Around) (f : Value → Value → Sem Value) (a b d : D) : Prop :=
  ∀ ⦃P : Facts⦄ (s : Shared) (u v : Value), (∀ a o, P a o → s.heap.get? a = some o) → Rep c P u a → Rep c P v b →
    ∀ (Q : Value → Shared → Prop) (E : Value → Shared → Prop),
      (∀ r h' tk P', Step P P' s.heap h' → Rep c P' r d → Q r { s with heap := h', toks := tk }) → wpAny c.M A (f u v) Q E s

section
variable {c : Cx} {A : Around} {env : Env} {σ : Sto}

theorem ev_binop {l r : Expr} {op : Operator} {pos : Pos} {a b d : D} (hl : Ev c A env σ l a) (hr : Ev c A env σ r b) (H : Op2 c A (binaryOp op) a b d) : Ev c A env σ (.BinOp l op r pos) d := by
  intro P s G Q E k
  refine wpAny_BinOp (hl.val G fun u h1 t1 P1 S1 G1 R1 => hr.val G1 fun v h2 t2 P2 S2 G2 R2 => ?_)
  exact H _ u v G2.ok (R1.mono S2.sub) R2 Q E fun r h3 t3 P3 S3 R3 => k r h3 t3 P3 ((S1.trans S2).trans S3) R3

theorem ev_cmp {l r : Expr} {op : CmpOp} {pos : Pos} {a b d : D} (hl : Ev c A env σ l a) (hr : Ev c A env σ r b) (H : Op2 c A (compareOp op) a b d)
    (hm : behindInMarks op r = false := by with_unfolding_all rfl) : Ev c A env σ (.Compare l [op] [r] pos) d := by
  intro P s G Q E k
  refine wpAny_Compare1 (hl.val G fun u h1 t1 P1 S1 G1 R1 => hr.val G1 fun v h2 t2 P2 S2 G2 R2 => ?_) hm
  exact H _ u v G2.ok (R1.mono S2.sub) R2 Q E fun r h3 t3 P3 S3 R3 => k r h3 t3 P3 ((S1.trans S2).trans S3) R3

theorem evt_cmp {l r : Expr} {op : CmpOp} {pos : Pos} {a b : D} {t : Bool} (hl : Ev c A env σ l a) (hr : Ev c A env σ r b) (H : Op2 c A (compareOp op) a b (.bool t))
    (hm : behindInMarks op r = false := by with_unfolding_all rfl) : EvT c A env σ (.Compare l [op] [r] pos) t := by
  intro P s G Q E k
  refine wpAny_isTrue_Compare1 (hl.val G fun u h1 t1 P1 S1 G1 R1 => hr.val G1 fun v h2 t2 P2 S2 G2 R2 => ?_) hm
  refine H _ u v G2.ok (R1.mono S2.sub) R2 _ E fun r h3 t3 P3 S3 R3 => ?_
  obtain rfl := R3.bool_inv
  exact wpAny_truthy_bool (k h3 t3 P3 ((S1.trans S2).trans S3))

section
variable {a b : Int}
theorem op_add_int : Op2 c A (binaryOp .Add) (.int a) (.int b) (.int (a + b)) := by
  intro P s u v ok Ru Rv Q E k; obtain ⟨_, rfl⟩ := Ru.int_inv; obtain ⟨_, rfl⟩ := Rv.int_inv; exact PySem.P.add_int (k _ s.heap _ P (Step.refl ok) (.int _ _))
theorem op_sub_int : Op2 c A (binaryOp .Sub) (.int a) (.int b) (.int (a - b)) := by
  intro P s u v ok Ru Rv Q E k; obtain ⟨_, rfl⟩ := Ru.int_inv; obtain ⟨_, rfl⟩ := Rv.int_inv; exact PySem.P.sub_int (k _ s.heap _ P (Step.refl ok) (.int _ _))
theorem op_mul_int (hm : IntMulOk a b) : Op2 c A (binaryOp .Mult) (.int a) (.int b) (.int (a * b)) := by
  intro P s u v ok Ru Rv Q E k; obtain ⟨_, rfl⟩ := Ru.int_inv; obtain ⟨_, rfl⟩ := Rv.int_inv; exact PySem.P.mul_int (k _ s.heap _ P (Step.refl ok) (.int _ _)) hm
theorem op_iadd_int : Op2 c A (inplaceOp .Add) (.int a) (.int b) (.int (a + b)) := by
  intro P s u v ok Ru Rv Q E k; obtain ⟨_, rfl⟩ := Ru.int_inv; obtain ⟨_, rfl⟩ := Rv.int_inv; exact PySem.P.iadd_int (k _ s.heap _ P (Step.refl ok) (.int _ _))
theorem op_isub_int : Op2 c A (inplaceOp .Sub) (.int a) (.int b) (.int (a - b)) := by
  intro P s u v ok Ru Rv Q E k; obtain ⟨_, rfl⟩ := Ru.int_inv; obtain ⟨_, rfl⟩ := Rv.int_inv; exact PySem.P.isub_int (k _ s.heap _ P (Step.refl ok) (.int _ _))
theorem op_eq_int : Op2 c A (compareOp .Eq) (.int a) (.int b) (.bool (decide (a = b))) := by
  intro P s u v ok Ru Rv Q E k; obtain ⟨_, rfl⟩ := Ru.int_inv; obtain ⟨_, rfl⟩ := Rv.int_inv
  exact PySem.P.eq_int (k _ s.heap _ P (Step.refl ok) (by rw [show (a == b) = decide (a = b) from rfl]; exact .bool _))
theorem op_ne_int : Op2 c A (compareOp .NotEq) (.int a) (.int b) (.bool (!decide (a = b))) := by
  intro P s u v ok Ru Rv Q E k; obtain ⟨_, rfl⟩ := Ru.int_inv; obtain ⟨_, rfl⟩ := Rv.int_inv
  exact PySem.P.ne_int (k _ s.heap _ P (Step.refl ok) (by rw [show (a != b) = !decide (a = b) from rfl]; exact .bool _))
theorem op_lt_int : Op2 c A (compareOp .Lt) (.int a) (.int b) (.bool (decide (a < b))) := by
  intro P s u v ok Ru Rv Q E k; obtain ⟨_, rfl⟩ := Ru.int_inv; obtain ⟨_, rfl⟩ := Rv.int_inv; exact PySem.P.lt_int (k _ s.heap _ P (Step.refl ok) (.bool _))
theorem op_gt_int : Op2 c A (compareOp .Gt) (.int a) (.int b) (.bool (decide (a > b))) := by
  intro P s u v ok Ru Rv Q E k; obtain ⟨_, rfl⟩ := Ru.int_inv; obtain ⟨_, rfl⟩ := Rv.int_inv; exact PySem.P.gt_int (k _ s.heap _ P (Step.refl ok) (.bool _))
theorem op_ge_int : Op2 c A (compareOp .GtE) (.int a) (.int b) (.bool (decide (a ≥ b))) := by
  intro P s u v ok Ru Rv Q E k; obtain ⟨_, rfl⟩ := Ru.int_inv; obtain ⟨_, rfl⟩ := Rv.int_inv; exact PySem.P.ge_int (k _ s.heap _ P (Step.refl ok) (.bool _))
end

section
variable {a b : List Nat}
theorem op_add_str (h : a.length + b.length ≤ sizeLine) : Op2 c A (binaryOp .Add) (.str a) (.str b) (.str (a ++ b)) := by
  intro P s u v ok Ru Rv Q E k; obtain ⟨_, rfl⟩ := Ru.str_inv; obtain ⟨_, rfl⟩ := Rv.str_inv
  exact SB.add (fun t' k' => k _ s.heap _ P (Step.refl ok) (by rw [S_append]; exact .str _ _)) (by rw [S_length, S_length]; exact h)
theorem op_iadd_str (h : a.length + b.length ≤ sizeLine) : Op2 c A (inplaceOp .Add) (.str a) (.str b) (.str (a ++ b)) := by
  intro P s u v ok Ru Rv Q E k; obtain ⟨_, rfl⟩ := Ru.str_inv; obtain ⟨_, rfl⟩ := Rv.str_inv
  exact SB.iadd (fun t' k' => k _ s.heap _ P (Step.refl ok) (by rw [S_append]; exact .str _ _)) (by rw [S_length, S_length]; exact h)
theorem op_eq_str : Op2 c A (compareOp .Eq) (.str a) (.str b) (.bool (decide (a = b))) := by
  intro P s u v ok Ru Rv Q E k; obtain ⟨_, rfl⟩ := Ru.str_inv; obtain ⟨_, rfl⟩ := Rv.str_inv
  exact PyProof.Rows.eq_str (k _ s.heap _ P (Step.refl ok) (by rw [S_beq]; exact .bool _))
theorem op_ne_str : Op2 c A (compareOp .NotEq) (.str a) (.str b) (.bool (!decide (a = b))) := by
  intro P s u v ok Ru Rv Q E k; obtain ⟨_, rfl⟩ := Ru.str_inv; obtain ⟨_, rfl⟩ := Rv.str_inv
  exact PyProof.Rows.ne_str (k _ s.heap _ P (Step.refl ok) (by rw [show (S a != S b) = !(S a == S b) from rfl, S_beq]; exact .bool _))
end
end
end
section

section
variable {c : Cx} {A : Around} {env : Env} {σ : Sto}

theorem op_floordiv {a b : Int} (hb : b ≠ 0) (hs : Builtin.divisionGoesByPylong a b = false) : Op2 c A (binaryOp .FloorDiv) (.int a) (.int b) (.int (a.fdiv b)) := by
  intro P s u v ok Ru Rv Q E k; obtain ⟨_, rfl⟩ := Ru.int_inv; obtain ⟨_, rfl⟩ := Rv.int_inv
  exact AutoIntOps.floordiv_1 (by simpa using hb) (by rw [hs]; exact Bool.false_ne_true) (k _ s.heap _ P (Step.refl ok) (.int _ _))
theorem op_mod {a b : Int} (hb : b ≠ 0) : Op2 c A (binaryOp .Mod) (.int a) (.int b) (.int (a.fmod b)) := by
  intro P s u v ok Ru Rv Q E k; obtain ⟨_, rfl⟩ := Ru.int_inv; obtain ⟨_, rfl⟩ := Rv.int_inv
  exact AutoIntOps.mod_1 (by simpa using hb) (k _ s.heap _ P (Step.refl ok) (.int _ _))
theorem op_pow {a b : Int} (hb : 0 ≤ b) (ha : 1 < a) (hs : (Builtin.Int.intBits a : Int) * b ≤ bitsLine) : Op2 c A (binaryOp .Pow) (.int a) (.int b) (.int (a ^ b.toNat)) := by
  intro P s u v ok Ru Rv Q E k; obtain ⟨_, rfl⟩ := Ru.int_inv; obtain ⟨_, rfl⟩ := Rv.int_inv
  by_cases h0 : b = 0
  · subst h0
    exact AutoIntOps.pow_0 (Int.le_refl _) rfl (k _ s.heap _ P (Step.refl ok) (by rw [show a ^ Int.toNat 0 = 1 from by simp]; exact .int _ _))
  · refine AutoIntOps.pow_4 hb (by simpa using h0) ?_ ?_ ?_ (k _ s.heap _ P (Step.refl ok) (.int _ _))
    · simp only [Bool.or_eq_true, beq_iff_eq]; (first | lia | omega)
    · simp only [beq_iff_eq]; (first | lia | omega)
    · unfold Builtin.Int.intTooBig; simp only [gt_iff_lt, decide_eq_true_eq]; (first | lia | omega)

theorem op_notin_str {a b : List Nat} : Op2 c A (compareOp .NotIn) (.str a) (.str b) (.bool (!Txt.contains (S b) (S a))) := by
  intro P s u v ok Ru Rv Q E k; obtain ⟨_, rfl⟩ := Ru.str_inv; obtain ⟨_, rfl⟩ := Rv.str_inv
  exact SB.notContains (k _ s.heap _ P (Step.refl ok) (.bool _))
theorem op_is_bool {a b : Bool} : Op2 c A (compareOp .Is) (.bool a) (.bool b) (.bool (a == b)) := by
  intro P s u v ok Ru Rv Q E k; obtain rfl := Ru.bool_inv; obtain rfl := Rv.bool_inv
  exact wpAny_is_plain rfl (k _ s.heap _ P (Step.refl ok) (by rw [show (Value.bool a == Value.bool b) = (a == b) from by cases a <;> cases b <;> rfl]; exact .bool _))
theorem op_isnot_bool {a b : Bool} : Op2 c A (compareOp .IsNot) (.bool a) (.bool b) (.bool (!(a == b))) := by
  intro P s u v ok Ru Rv Q E k; obtain rfl := Ru.bool_inv; obtain rfl := Rv.bool_inv
  exact wpAny_isNot_plain rfl (k _ s.heap _ P (Step.refl ok) (by rw [show (Value.bool a == Value.bool b) = (a == b) from by cases a <;> cases b <;> rfl]; exact .bool _))

noncomputable def truthD : D → Option Bool
  | .none => some false
  | .bool b => some b
  | .int i => some (i != 0)
  | .str l => if l.length < 2 ^ 62 then some (l.length != 0) else Option.none
  | _ => Option.none

theorem truthy_D {d : D} {b : Bool} (hd : truthD d = some b) {P : Facts} {v : Value} (R : Rep c P v d) {s : Shared} {Q : Bool → Shared → Prop} {E : Value → Shared → Prop} (h : ∀ tk, Q b { s with toks := tk }) : wpAny c.M A (truthy v) Q E s := by
  cases d with
  | none => cases hd; obtain rfl := R.none_inv; exact fun _ _ _ => h s.toks
  | bool b => cases hd; obtain rfl := R.bool_inv; exact wpAny_truthy_bool (h s.toks)
  | int i => cases hd; obtain ⟨_, rfl⟩ := R.int_inv; exact PySem.P.truthy_int (h s.toks)
  | str l =>
    obtain ⟨_, rfl⟩ := R.str_inv
    simp only [truthD] at hd
    split at hd
    · rename_i hl
      cases hd
      refine PySem.P.truthy_str (by rw [S_length]; (first | lia | omega)) ?_
      rw [S_length, show ((l.length : Int) != 0) = (l.length != 0) from by rw [Bool.eq_iff_iff]; simp]
      exact h _
    · cases hd
  | tup | list | dict => cases hd

theorem evt_of_ev {e : Expr} {d : D} {b : Bool} (h : Ev c A env σ e d) (hd : truthD d = some b)
    (he : isTrue e env (eval e env) = (do let v ← eval e env; standAt e.pos; holding [v] (truthy v)) := by rfl) : EvT c A env σ e b := by
  intro P s G Q E k
  exact isTrue_plain (h.val G fun v h1 t1 P1 S1 G1 R1 => truthy_D hd R1 fun tk => k h1 tk P1 S1) he
theorem evt_and {x y : Expr} {pos : Pos} {a b : Bool} (hx : EvT c A env σ x a) (hy : a = true → EvT c A env σ y b) : EvT c A env σ (.BoolOp .And [x, y] pos) (a && b) := by
  intro P s G Q E k
  refine isTrue_and (hx s G _ E fun h' tk P' S => ?_)
  cases a with
  | false => exact k h' tk P' S
  | true =>
    refine isTrue_and (hy rfl _ (G.step S) _ E fun h2 tk2 P2 S2 => ?_)
    cases b with
    | false => exact k h2 tk2 P2 (S.trans S2)
    | true => exact isTrue_and_nil (k h2 tk2 P2 (S.trans S2))
theorem evt_or {x y : Expr} {pos : Pos} {a b : Bool} (hx : EvT c A env σ x a) (hy : a = false → EvT c A env σ y b) : EvT c A env σ (.BoolOp .Or [x, y] pos) (a || b) := by
  intro P s G Q E k
  refine isTrue_or (hx s G _ E fun h' tk P' S => ?_)
  cases a with
  | true => exact k h' tk P' S
  | false =>
    refine isTrue_or (hy rfl _ (G.step S) _ E fun h2 tk2 P2 S2 => ?_)
    cases b with
    | true => exact k h2 tk2 P2 (S.trans S2)
    | false => exact isTrue_or_nil (k h2 tk2 P2 (S.trans S2))
theorem evt_and3 {x y z : Expr} {pos : Pos} {a b e : Bool} (hx : EvT c A env σ x a) (hy : a = true → EvT c A env σ y b) (hz : a = true → b = true → EvT c A env σ z e) : EvT c A env σ (.BoolOp .And [x, y, z] pos) (a && (b && e)) := by
  intro P s G Q E k
  refine isTrue_and (hx s G _ E fun h' tk P' S => ?_)
  cases a with
  | false => exact k h' tk P' S
  | true =>
    refine isTrue_and (hy rfl _ (G.step S) _ E fun h2 tk2 P2 S2 => ?_)
    cases b with
    | false => exact k h2 tk2 P2 (S.trans S2)
    | true =>
      refine isTrue_and (hz rfl rfl _ (G.step (S.trans S2)) _ E fun h3 tk3 P3 S3 => ?_)
      cases e with
      | false => exact k h3 tk3 P3 ((S.trans S2).trans S3)
      | true => exact isTrue_and_nil (k h3 tk3 P3 ((S.trans S2).trans S3))

theorem ev_or {x y : Expr} {pos : Pos} {a b : D} {t : Bool} (hx : Ev c A env σ x a) (ht : truthD a = some t) (hy : t = false → Ev c A env σ y b) : Ev c A env σ (.BoolOp .Or [x, y] pos) (if t then a else b) := by
  intro P s G Q E k
  refine BoolOp_or (hx.val G fun v h1 t1 P1 S1 G1 R1 => truthy_D ht R1 fun tk => ?_)
  cases t with
  | true => exact k v h1 tk P1 S1 R1
  | false => exact BoolOp_one ((hy rfl).val (G.step (tk := tk) S1) fun v2 h2 t2 P2 S2 G2 R2 => k v2 h2 t2 P2 (S1.trans S2) R2)
theorem ev_ifexp {t x y : Expr} {pos : Pos} {a b : D} {q : Bool} (ht : EvT c A env σ t q) (hx : q = true → Ev c A env σ x a) (hy : q = false → Ev c A env σ y b) : Ev c A env σ (.IfExp t x y pos) (if q then a else b) := by
  intro P s G Q E k
  refine IfExp_ (ht s G _ E fun h' tk P' S => ?_)
  cases q with
  | true => exact (hx rfl).val (G.step S) fun v2 h2 t2 P2 S2 G2 R2 => k v2 h2 t2 P2 (S.trans S2) R2
  | false => exact (hy rfl).val (G.step S) fun v2 h2 t2 P2 S2 G2 R2 => k v2 h2 t2 P2 (S.trans S2) R2
theorem ev_neg {x : Expr} {pos : Pos} {i : Int} (hx : Ev c A env σ x (.int i)) : Ev c A env σ (.UnaryOp .USub x pos) (.int (-i)) := by
  intro P s G Q E k
  refine UnaryOp_ (hx.val G fun v h1 t1 P1 S1 G1 R1 => ?_)
  obtain ⟨_, rfl⟩ := R1.int_inv
  exact PySem.P.neg_int (k _ h1 _ P1 S1 (.int _ _))

noncomputable def EvL (c : Cx) (A : Around) (env : Env) (σ : Sto) (pos : Pos) (es : List Expr) (ds : List D) : Prop :=
  ∀ ⦃P : Facts⦄ (s : Shared), Good c env σ P s → ∀ (Q : List Value → Shared → Prop) (E : Value → Shared → Prop),
    (∀ vs h' tk P', Step P P' s.heap h' → RepL c P' vs ds → Q vs { s with heap := h', toks := tk }) → wpAny c.M A (spliced (backTo pos (starEach es env))) Q E s

theorem evl_nil {pos : Pos} : EvL c A env σ pos [] [] := by
  intro P s G Q E k
  exact wpAny_items_nil (k [] s.heap s.toks P (Step.refl G.ok) .nil)
theorem evl_cons {pos : Pos} {e : Expr} {es : List Expr} {d : D} {ds : List D} (h : Ev c A env σ e d) (hs : EvL c A env σ pos es ds)
    (he : starEach (e :: es) env = (false, eval e env) :: starEach es env := by rfl) : EvL c A env σ pos (e :: es) (d :: ds) := by
  intro P s G Q E k
  refine wpAny_items_cons (h.val G fun v h1 t1 P1 S1 G1 R1 => hs _ G1 _ E fun vs h2 t2 P2 S2 R2 => ?_) he
  exact k (v :: vs) h2 t2 P2 (S1.trans S2) (.cons (R1.mono S2.sub) R2)

theorem push_step {P : Facts} {h : Heap} {o : Obj} (ok : ∀ a o, P a o → h.get? a = some o) (hf : o.isFreed = false := by rfl) : Step P (fun b x => P b x ∨ (b = h.objs.size ∧ x = o)) h (h.push o) := by
  refine Step.more ok (fun b o e => Heap.get?_push_of_some _ e) ?_ (Heap.get?_push_size _ hf)
  cases z : h.get? h.objs.size with
  | none => rfl
  | some o' => exact absurd (Heap.lt_size z) (Nat.lt_irrefl _)

theorem ev_tuple {es : List Expr} {ds : List D} {k : Nat} {pos : Pos} (h : EvL c A env σ pos es ds) (hl : ds.length ≤ sizeLine := by exact Nat.le_of_ble_eq_true rfl) : Ev c A env σ (.Tuple es k pos) (.tup ds) := by
  intro P s G Q E q
  refine wpAny_Tuple (h s G _ E fun vs h1 t1 P1 S1 R1 => ⟨by rw [R1.length]; exact hl, ?_⟩)
  have S2 := push_step (o := tupO vs 0) S1.ok
  exact q _ _ _ _ (S1.trans S2) (.tup (.inr ⟨rfl, rfl⟩) (R1.mono S2.sub))
theorem ev_list {es : List Expr} {ds : List D} {pos : Pos} (h : EvL c A env σ pos es ds) (hl : ds.length ≤ sizeLine := by exact Nat.le_of_ble_eq_true rfl) : Ev c A env σ (.List es pos) (.list ds) := by
  intro P s G Q E q
  refine wpAny_List (h s G _ E fun vs h1 t1 P1 S1 R1 => ⟨by rw [R1.length]; exact hl, ?_⟩)
  have S2 := push_step (o := listO vs 0) S1.ok
  exact q _ _ _ _ (S1.trans S2) (.list (.inr ⟨rfl, rfl⟩) (R1.mono S2.sub))

theorem my_Subscript {value slice : Expr} {pos : Pos} {s : Shared} {Q : Value → Shared → Prop} {E : Value → Shared → Prop} {prog : Program} {w : World}
    (h : wpAny (model prog w) A (eval value env) (fun o s₁ => wpAny (model prog w) A (eval slice env) (fun i s₂ => ItemOn (model prog w) A E o i Q s₂) E s₁) E s)
    (hs : ∀ o i, ∃ ops, subscripted slice false o i = operate ops (getItem o i)) : wpAny (model prog w) A (eval (.Subscript value slice pos) env) Q E s := by
  rw [eval_Subscript]
  refine wpAny_bind (wpAny_mono h (fun o s₁ h₁ => wpAny_bind (wpAny_holding (wpAny_mono h₁ (fun i s₂ h₂ => wpAny_bind (wpAny_standAt ?_)) fun _ _ x => x))) fun _ _ x => x)
  obtain ⟨T, id, hl, hT, hg⟩ := h₂
  obtain ⟨ops, hops⟩ := hs o i
  refine wpAny_bind ?_
  rw [getitemInPython_of_ne hT.not_modules]
  refine wpAny_bind (wpAny_specialOf hT hl ?_)
  refine wpAny_pure ?_
  have fin : wpAny (model prog w) A (operate ops (getItem o i)) (fun r s₃ => wpAny (model prog w) A (letTemporaryGo value o r >>= fun _ => pure r) Q E s₃) E s₂ :=
    wpAny_operating (wpAny_mono hg (fun r s₃ h₃ => wpAny_bind (wpAny_letTemporaryGo (wpAny_pure h₃))) fun _ _ x => x)
  rw [← hops] at fin
  exact wpAny_bind fin

end
end
section

section
variable {c : Cx} {A : Around} {env : Env} {σ : Sto}

noncomputable def clipL (n : Nat) (dflt : Nat) : Option Int → Nat
  | none => dflt
  | some i => clipAt n i
noncomputable def sliceL {α : Type} (l : List α) (lo hi : Option Int) : List α := (l.drop (clipL l.length 0 lo)).take (clipL l.length l.length hi - clipL l.length 0 lo)

theorem strIdx_eq (lo hi : Option Int) (n : Nat) : Builtin.Str.strSliceIndices lo hi 1 n = sliceRange ((clipL n 0 lo : Nat) : Int) ((clipL n n hi : Nat) : Int) 1 := by
  unfold Builtin.Str.strSliceIndices
  cases lo <;> cases hi <;> simp [clipL, clipAt_cast]

theorem pickL (l : List Nat) (lo hi : Option Int) : (Builtin.Str.strSliceIndices lo hi 1 l.length).filterMap (l.toArray[·]?) = sliceL l lo hi := by
  rw [strIdx_eq, sliceRange_one, pick_run]
  simp [sliceL]

theorem sliceL_length_le {α : Type} (l : List α) (lo hi : Option Int) : (sliceL l lo hi).length ≤ l.length := by
  unfold sliceL; rw [List.length_take, List.length_drop]; (first | lia | omega)

noncomputable def EvO (c : Cx) (A : Around) (env : Env) (σ : Sto) (e : Option Expr) (i : Option Int) : Prop :=
  match e, i with
  | none, none => True
  | some e, some i => Ev c A env σ e (.int i)
  | _, _ => False

theorem EvO.val {e : Option Expr} {i : Option Int} (h : EvO c A env σ e i) {P : Facts} {s : Shared} (G : Good c env σ P s) {Q : Value → Shared → Prop} {E : Value → Shared → Prop}
    (k : ∀ v h' tk P' t, Step P P' s.heap h' → Good c env σ P' { s with heap := h', toks := tk } → v = partValue (i.map fun x => (x, t)) → Q v { s with heap := h', toks := tk }) : wpAny c.M A (evalPart e env) Q E s := by
  cases e with
  | none =>
    cases i with
    | none => exact wpAny_pure (k _ s.heap s.toks P 0 (Step.refl G.ok) G rfl)
    | some i => exact h.elim
  | some e =>
    cases i with
    | none => exact h.elim
    | some i =>
      rw [evalPart_some]
      refine Ev.val h G fun v h1 t1 P1 S1 G1 R1 => ?_
      obtain ⟨_, rfl⟩ := R1.int_inv
      exact k _ h1 t1 P1 _ S1 G1 rfl

theorem ev_slice_str {v : Expr} {lo hi : Option Expr} {p pos : Pos} {l : List Nat} {i j : Option Int} (hv : Ev c A env σ v (.str l)) (hlo : EvO c A env σ lo i) (hhi : EvO c A env σ hi j) (hl : l.length ≤ sizeLine) :
    Ev c A env σ (.Subscript v (.Slice lo hi none p) pos) (.str (sliceL l i j)) := by
  intro P s G Q E k
  refine my_Subscript (hv.val G fun u h1 t1 P1 S1 G1 R1 => ?_) (fun o i => ⟨_, rfl⟩)
  refine wpAny_Slice (hlo.val G1 fun vl h2 t2 P2 tt S2 G2 e2 => hhi.val G2 fun vu h3 t3 P3 tt' S3 G3 e3 => ?_)
  rw [evalPart_none]
  refine wpAny_pure ?_
  obtain ⟨_, rfl⟩ := R1.str_inv
  subst e2; subst e3
  refine ⟨"str", _, F.slot_str_getitem.lookup, typeIs_str _ _ _, wpAny_getItem_str_slice (l := i.map fun x => (x, tt)) (u := j.map fun x => (x, tt')) (st := none) ⟨_, Heap.get?_push_size _ rfl, rfl, rfl⟩ rfl ?_⟩
  have Sall : Step P P3 s.heap (h3.push { cls := .type "slice", data := .fields #[partValue (i.map fun x => (x, tt)), partValue (j.map fun x => (x, tt')), .none] }) :=
    ((S1.trans S2).trans S3).trans (Step.heap S3.ok fun b o e => Heap.get?_push_of_some _ e)
  have em : ∀ (o : Option Int) (t : Tok), (o.map fun x => (x, t)).map (·.1) = o := by intro o t; cases o <;> rfl
  unfold sliceMade slicePicked
  rw [em, em, S_length]
  show Made.post (if ((1 : Int) == 1 && (Builtin.Str.strSliceIndices i j 1 l.length).length == l.length) = true then _ else Made.str ⟨((Builtin.Str.strSliceIndices i j 1 l.length).filterMap (l.toArray[·]?)).toArray⟩) _ _
  split
  · rename_i he
    have hlen : (Builtin.Str.strSliceIndices i j 1 l.length).length = l.length := by simpa using he
    have e : sliceL l i j = l := by
      have h5 := pickL l i j
      rw [strIdx_eq, sliceRange_one] at hlen
      simp only [List.length_map, List.length_range] at hlen
      have ha : clipL l.length 0 i ≤ l.length := by cases i with | none => simp [clipL] | some i => have := clipAt_cast l.length i; simp only [clipL]; (first | lia | omega)
      have hb : clipL l.length l.length j ≤ l.length := by cases j with | none => simp [clipL] | some i => have := clipAt_cast l.length i; simp only [clipL]; (first | lia | omega)
      unfold sliceL
      by_cases hz : l.length = 0
      · have : l = [] := List.eq_nil_of_length_eq_zero hz
        subst this; simp
      · have e1 : clipL l.length 0 i = 0 := by first | lia | omega
        have e2 : clipL l.length l.length j = l.length := by first | lia | omega
        rw [e1, e2]; simp
    rw [e] at k
    exact k _ _ _ P3 Sall (.str _ _)
  · refine ⟨?_, ?_⟩
    · show (Str.mk _).length ≤ sizeLine
      rw [pickL, S_length]
      exact Nat.le_trans (sliceL_length_le l i j) hl
    · rw [pickL]
      exact k _ _ _ P3 Sall (.str _ _)

theorem isList_of {P : Facts} {h : Heap} (ok : ∀ a o, P a o → h.get? a = some o) {a : Addr} {vs : List Value} {n : Nat} (hp : P a (listO vs n)) : h.IsList a vs.toArray := ⟨_, ok _ _ hp, rfl, n, rfl⟩
theorem isTup_of {P : Facts} {h : Heap} (ok : ∀ a o, P a o → h.get? a = some o) {a : Addr} {vs : List Value} {n : Nat} (hp : P a (tupO vs n)) : IsTup h a vs.toArray := ⟨_, ok _ _ hp, rfl, n, rfl⟩

theorem getItem_L {s : Shared} {l : Addr} {vs : List Value} {k : Int} {u : Tok} {j : Nat} {v : Value} {Q : Value → Shared → Prop} {E : Value → Shared → Prop} (hl : s.heap.IsList l vs.toArray) (hf : -1000000 < k ∧ k < 1000000)
    (hj : seqIndex? k vs.length = some j) (hx : vs[j]? = some v) (h : Q v s) : wpAny c.M A (getItem (.ref l) (.int k u)) Q E s := by
  by_cases h0 : 0 ≤ k
  · refine wpAny_getItem_list hl h0 (by first | lia | omega) (x := v) ?_ h
    have e : j = k.toNat := by
      unfold seqIndex? at hj
      dsimp only at hj
      rw [if_neg (show ¬ k < 0 by first | lia | omega)] at hj
      by_cases hq : (decide (0 ≤ k) && decide (k < (vs.length : Int))) = true
      · rw [if_pos hq] at hj; exact (Option.some.inj hj).symm
      · rw [if_neg hq] at hj; cases hj
    subst e
    simpa using hx
  · exact kde_getNeg hl (by first | lia | omega) (by first | lia | omega) hj hx h

theorem ev_item_list {v x : Expr} {pos : Pos} {ds : List D} {i : Int} {j : Nat} {d : D} (hv : Ev c A env σ v (.list ds)) (hi : Ev c A env σ x (.int i)) (hj : seqIndex? i ds.length = some j) (hd : ds[j]? = some d) (hf : -1000000 < i ∧ i < 1000000)
    (hs : ∀ o i, subscripted x false o i = operate [o, i] (getItem o i) := by intro _ _; rfl) :
    Ev c A env σ (.Subscript v x pos) d := by
  intro P s G Q E k
  refine my_Subscript (hv.val G fun u h1 t1 P1 S1 G1 R1 => hi.val G1 fun w h2 t2 P2 S2 G2 R2 => ?_) (fun o i => ⟨_, hs o i⟩)
  obtain ⟨_, rfl⟩ := R2.int_inv
  obtain ⟨_, _, _, rfl, hp, RL⟩ := R1.list_inv
  obtain ⟨y, hy, Ry⟩ := RL.get hd
  have hl := isList_of S2.ok (S2.sub _ _ hp)
  exact ⟨"list", _, slot_list_getitem.lookup, hl.typeIs, getItem_L hl hf (by rw [RL.length]; exact hj) hy (k y h2 t2 P2 (S1.trans S2) (Ry.mono S2.sub))⟩
theorem ev_item_tup {v x : Expr} {pos : Pos} {ds : List D} {i : Int} {j : Nat} {d : D} (hv : Ev c A env σ v (.tup ds)) (hi : Ev c A env σ x (.int i)) (hj : seqIndex? i ds.length = some j) (hd : ds[j]? = some d) (hf : -1000000 < i ∧ i < 1000000)
    (hs : ∀ o i, subscripted x false o i = operate [o, i] (getItem o i) := by intro _ _; rfl) :
    Ev c A env σ (.Subscript v x pos) d := by
  intro P s G Q E k
  refine my_Subscript (hv.val G fun u h1 t1 P1 S1 G1 R1 => hi.val G1 fun w h2 t2 P2 S2 G2 R2 => ?_) (fun o i => ⟨_, hs o i⟩)
  obtain ⟨_, rfl⟩ := R2.int_inv
  obtain ⟨_, _, _, rfl, hp, RL⟩ := R1.tup_inv
  obtain ⟨y, hy, Ry⟩ := RL.get hd
  have hl := isTup_of S2.ok (S2.sub _ _ hp)
  exact ⟨"tuple", _, PyProof.Rows.slot_tuple_getitem.lookup, hl.typeIs, getItem_tuple hl (by first | lia | omega) (by first | lia | omega) (by simpa [RL.length] using hj) (by simpa using hy) (k y h2 t2 P2 (S1.trans S2) (Ry.mono S2.sub))⟩

theorem RepL.slice {P : Facts} {vs : List Value} {ds : List D} (h : RepL c P vs ds) (lo hi : Option Int) : RepL c P (sliceL vs lo hi) (sliceL ds lo hi) := by
  unfold sliceL
  rw [h.length]
  exact (h.drop _).take _

theorem ev_slice_list {v : Expr} {lo hi : Option Expr} {p pos : Pos} {ds : List D} {i j : Option Int} (hv : Ev c A env σ v (.list ds)) (hlo : EvO c A env σ lo i) (hhi : EvO c A env σ hi j) (hl : ds.length ≤ sizeLine) :
    Ev c A env σ (.Subscript v (.Slice lo hi none p) pos) (.list (sliceL ds i j)) := by
  intro P s G Q E k
  refine my_Subscript (hv.val G fun u h1 t1 P1 S1 G1 R1 => ?_) (fun o i => ⟨_, rfl⟩)
  refine wpAny_Slice (hlo.val G1 fun vl h2 t2 P2 tt S2 G2 e2 => hhi.val G2 fun vu h3 t3 P3 tt' S3 G3 e3 => ?_)
  rw [evalPart_none]
  refine wpAny_pure ?_
  subst e2; subst e3
  obtain ⟨a, vs, n, rfl, hp, RL⟩ := R1.list_inv
  have hL : h3.IsList a vs.toArray := isList_of S3.ok (S3.sub _ _ (S2.sub _ _ hp))
  have hpart : ∀ (o : Option Int) (t : Tok), IsPart (partValue (o.map fun x => (x, t))) o := by
    intro o t; cases o with
    | none => exact .none
    | some i => exact .int i t
  refine ⟨"list", _, slot_list_getitem.lookup, (hL.push _).typeIs, wpAny_getItem_list_slice (hL.push _) (Heap.IsSliceOf.new ..) (hpart i tt) (hpart j tt') .none (by simp) ?_ (by simpa [RL.length] using hl)⟩
  have Sa : Step P1 P3 h1 (h3.push { cls := .type "slice", data := .fields #[partValue (i.map fun x => (x, tt)), partValue (j.map fun x => (x, tt')), .none] }) :=
    (S2.trans S3).trans (Step.heap S3.ok fun b o e => Heap.get?_push_of_some _ e)
  have e : (slicePick vs.toArray i j none) = (sliceL vs i j).toArray := by
    rw [slicePick_plain]
    simp only [sliceL, clipL, List.size_toArray]
    cases i <;> cases j <;> rfl
  rw [e]
  have Sb := push_step (o := listO (sliceL vs i j) 0) Sa.ok
  exact k _ _ _ _ (S1.trans (Sa.trans Sb)) (.list (.inr ⟨rfl, rfl⟩) ((RL.slice i j).mono fun b o e => Sb.sub _ _ (Sa.sub _ _ e)))
end
end
section

section
variable {c : Cx} {A : Around} {env : Env} {σ : Sto}

noncomputable def Fn (c : Cx) (n : Nat) (f : Addr) (args : List D) (res : D) : Prop :=
  ∀ ⦃A : Around⦄, AOk n A → ∀ (P : Facts) (s : Shared) (vs : List Value), Tops c s.heap → (∀ a o, P a o → s.heap.get? a = some o) → RepL c P vs args →
    ∀ (R : Result → Shared → Prop), (∀ v h' tk P', Step P P' s.heap h' → Rep c P' v res → R (.ok (.ret v)) { s with heap := h', toks := tk }) → codeAny c.M A (.call (.ref f) ⟨vs, []⟩) R s

theorem evalArgs_L {pos : Pos} {es : List Expr} {ds : List D} (ha : EvL c A env σ pos es ds) (hne : starEach es env = [] ∨ ∃ x r, starEach es env = (false, x) :: r) {f : Value} {P : Facts} {s : Shared} (G : Good c env σ P s)
    {Q : Args → Shared → Prop} {E : Value → Shared → Prop} (k : ∀ vs h' tk P', Step P P' s.heap h' → Good c env σ P' { s with heap := h', toks := tk } → RepL c P' vs ds → Q ⟨vs, []⟩ { s with heap := h', toks := tk }) :
    wpAny c.M A (evalArgs f true (backTo pos (starEach es env)) []) Q E s := by
  have h := ha s G (fun vs s' => Q ⟨vs, []⟩ s') E fun vs h' tk P' S R => k vs h' tk P' S (G.step S) R
  rcases hne with e | ⟨x, r, e⟩
  · rw [e] at h ⊢
    unfold evalArgs
    show wpAny c.M A (spliced [] >>= fun vs => pure (vs, none) >>= _) Q E s
    refine wpAny_bind (wpAny_mono h (fun vs s' h' => ?_) fun _ _ x => x)
    refine wpAny_bind (wpAny_pure ?_)
    refine wpAny_holding ?_
    exact wpAny_bind (wpAny_pure (wpAny_bind (wpAny_pure (wpAny_pure h'))))
  · rw [e] at h ⊢
    exact Calls.evalArgs_plain h

theorem load_global {n : String} {p : Pos} {v : Value} {P : Facts} {s : Shared} (G : Good c env σ P s) (hk : env.kindOf (Str.ofString n) = some .globalImplicit) (hg : c.mg (Str.ofString n) = some v)
    (hd : ((Str.ofString n) == ("__debug__" : Str)) = false) {Q : Value → Shared → Prop} {E : Value → Shared → Prop} (h : Q v s) : wpAny c.M A (eval (.Name (Str.ofString n) p) env) Q E s := by
  refine wpAny_Name (ks_loadName_global G.eok.kind hk ?_) hd
  unfold loadGlobal
  rw [G.eok.globals]
  refine wpAny_bind (wpAny_nsGet G.tops.g ?_)
  rw [hg]
  exact wpAny_pure h
theorem load_builtin {n : String} {p : Pos} {v : Value} {P : Facts} {s : Shared} (G : Good c env σ P s) (hk : env.kindOf (Str.ofString n) = some .globalImplicit) (hg : c.mg (Str.ofString n) = none)
    (hb : bootBuiltins (Str.ofString n) = some v) (hn : (Str.ofString n) ≠ "__name__") (hd : ((Str.ofString n) == ("__debug__" : Str)) = false) {Q : Value → Shared → Prop} {E : Value → Shared → Prop} (h : Q v s) : wpAny c.M A (eval (.Name (Str.ofString n) p) env) Q E s := by
  refine wpAny_Name (ks_loadName_global G.eok.kind hk ?_) hd
  unfold loadGlobal
  rw [G.eok.globals, G.eok.builtins]
  refine wpAny_bind (wpAny_nsGet G.tops.g ?_)
  rw [hg]
  refine wpAny_bind (wpAny_nsGet G.tops.b ?_)
  rw [G.tops.bb _ hn, hb]
  exact wpAny_pure h

theorem ev_call {n : String} {np pos : Pos} {es : List Expr} {ds : List D} {d : D} {k : Nat} {f : Addr} {o : Obj} {fd : FuncData}
    (hk : env.kindOf (Str.ofString n) = some .globalImplicit) (hg : c.mg (Str.ofString n) = some (.ref f)) (hK : c.K.lookup f = some o) (ho : o.data = .func fd)
    (ha : EvL c A env σ pos es ds) (hF : Fn c k f ds d) (hA : AOk k A) (hne : starEach es env = [] ∨ ∃ x r, starEach es env = (false, x) :: r)
    (hd : ((Str.ofString n) == ("__debug__" : Str)) = false) : Ev c A env σ (.Call (.Name (Str.ofString n) np) es [] pos) d := by
  intro P s G Q E q
  refine wpAny_Call_NameR (load_global G hk hg hd (Calls.callWith_function (o := o) (fd := fd) (evalArgs_L ha hne G fun vs h1 t1 P1 S1 G1 R1 => ⟨⟨G1.tops.k _ _ hK, ho⟩, ?_⟩)))
  refine wpAny_call (hF hA P1 _ vs G1.tops G1.ok R1 _ fun v h' tk P' S R => ?_)
  exact q v h' tk P' (S1.trans S) R

theorem ev_call_builtin {n id : String} {np pos : Pos} {es : List Expr} {ds : List D} {d : D}
    (hk : env.kindOf (Str.ofString n) = some .globalImplicit) (hg : c.mg (Str.ofString n) = none) (hb : bootBuiltins (Str.ofString n) = some (.builtin id)) (hn : (Str.ofString n) ≠ "__name__")
    (ha : EvL c A env σ pos es ds) (hne : starEach es env = [] ∨ ∃ x r, starEach es env = (false, x) :: r) (hpl : (backTo pos (starEach es env)).any (·.1) = false)
    (hd : ((Str.ofString n) == ("__debug__" : Str)) = false)
    (H : ∀ (P : Facts) (s : Shared) (vs : List Value), (∀ a o, P a o → s.heap.get? a = some o) → Tops c s.heap → RepL c P vs ds → ∀ (Q : Value → Shared → Prop) (E : Value → Shared → Prop),
      (∀ r h' tk P', Step P P' s.heap h' → Rep c P' r d → Q r { s with heap := h', toks := tk }) → wpAny c.M A (call (.builtin id) vs) Q E s) :
    Ev c A env σ (.Call (.Name (Str.ofString n) np) es [] pos) d := by
  intro P s G Q E q
  refine wpAny_Call_NameR (load_builtin G hk hg hb hn hd (Calls.callWith_builtin hpl (evalArgs_L ha hne G fun vs h1 t1 P1 S1 G1 R1 => ?_)))
  exact H P1 _ vs G1.ok G1.tops R1 Q E fun r h' tk P' S R => q r h' tk P' (S1.trans S) R

noncomputable def lenD : D → Option Nat
  | .str l => some l.length
  | .list ds => some ds.length
  | .tup ds => some ds.length
  | _ => Option.none

theorem ev_len {np pos : Pos} {e : Expr} {d : D} {n : Nat} (hk : env.kindOf (Str.ofString "len") = some .globalImplicit) (hg : c.mg (Str.ofString "len") = none)
    (h : Ev c A env σ e d) (hl : lenD d = some n) (hn : n < 2 ^ 62) (he : starEach [e] env = [(false, eval e env)] := by rfl) : Ev c A env σ (.Call (.Name (Str.ofString "len") np) [e] [] pos) (.int n) := by
  refine ev_call_builtin hk hg Boot.«len» (by decide +kernel) (evl_cons h evl_nil he) (.inr ⟨_, _, he⟩) (by rw [he]; rfl) (by decide +kernel) ?_
  intro P s vs ok T RL Q E q
  have hInv := RL.cons_inv; clear RL; obtain ⟨_, _, rfl, R, RL⟩ := hInv
  obtain rfl := RL.nil_inv; clear RL
  cases d with
  | str l =>
    cases hl
    obtain ⟨_, rfl⟩ := R.str_inv
    refine PySem.P.len_str (by rw [S_length]; (first | lia | omega)) ?_
    rw [S_length]
    exact q _ s.heap _ P (Step.refl ok) (.int _ _)
  | list ds =>
    cases hl
    obtain ⟨_, _, _, rfl, hp, RL⟩ := R.list_inv
    refine len_list (isList_of ok hp) (by rw [List.size_toArray, RL.length]; (first | lia | omega)) ?_
    rw [List.size_toArray, RL.length]
    exact q _ s.heap _ P (Step.refl ok) (.int _ _)
  | tup ds =>
    cases hl
    obtain ⟨_, _, _, rfl, hp, RL⟩ := R.tup_inv
    refine len_tuple (isTup_of ok hp) (by rw [List.size_toArray, RL.length]; (first | lia | omega)) ?_
    rw [List.size_toArray, RL.length]
    exact q _ s.heap _ P (Step.refl ok) (.int _ _)
  | none | bool | int | dict => cases hl

theorem ev_smeth {o : Expr} {name id : String} {apos pos : Pos} {es : List Expr} {l : List Nat} {ds : List D} {d : D} (slot : PySem.Slot "str" (Str.ofString name) id) (ty : typeOf (.builtin id) = pure (.type "method_descriptor"))
    (ho : Ev c A env σ o (.str l)) (ha : EvL c A env σ pos es ds) (hne : starEach es env = [] ∨ ∃ x r, starEach es env = (false, x) :: r) (hpl : (backTo pos (starEach es env)).any (·.1) = false)
    (hbase : attributeBase o (Str.ofString name) env (eval o env) = eval o env)
    (hfew : ((backTo pos (starEach es env)).all (fun x => !x.1) && (backToKw pos (keywordEach [] env)).all (fun x => x.1.isSome)
      && decide (es.length + ([] : List Keyword).length + (if ([] : List Keyword).isEmpty then 0 else 1) < 30)) = true) (hline : (apos.endLine == pos.line) = true)
    (H : ∀ (P : Facts) (s : Shared) (t : Tok) (vs : List Value), (∀ a o, P a o → s.heap.get? a = some o) → Tops c s.heap → RepL c P vs ds → ∀ (Q : Value → Shared → Prop) (E : Value → Shared → Prop),
      (∀ r h' tk P', Step P P' s.heap h' → Rep c P' r d → Q r { s with heap := h', toks := tk }) → wpAny c.M A (call (.builtin id) (.str (S l) t :: vs)) Q E s) :
    Ev c A env σ (.Call (.Attribute o (Str.ofString name) apos) es [] pos) d := by
  intro P s G Q E q
  refine wpAny_Call_method hbase hfew hline F.plainAttrs_str slot ty (ho.val G fun v h1 t1 P1 S1 G1 R1 => ?_)
  obtain ⟨_, rfl⟩ := R1.str_inv
  refine ⟨typeIs_str _ _ _, fun _ e => (nomatch e), Calls.callWith_builtin hpl (evalArgs_L ha hne G1 fun vs h2 t2 P2 S2 G2 R2 => ?_)⟩
  exact H P2 _ _ vs G2.ok G2.tops R2 Q E fun r h' tk P' S R => q r h' tk P' ((S1.trans S2).trans S) R
end
end
section
open PySem PySem.W PyProof.Rows PySem.StrLaws PySem.Builtin.Str


theorem subAt_L (l sub : List Nat) (i : Nat) : subAt (S l) (S sub) i = true ↔ sub <+: l.drop i := by
  rw [subAt_eq, S_toList, S_toList, S_length, List.prefix_iff_eq_take]
  simp only [beq_iff_eq]
  exact eq_comm

theorem at_L (l sub : List Nat) (hi i : Nat) : At (S l) (S sub) hi i ↔ i + sub.length ≤ hi ∧ sub <+: l.drop i := by
  unfold At
  rw [subAt_L, S_length]

noncomputable def findL (l sub : List Nat) (lo hi : Nat) : Int :=
  match (List.range' lo (hi + 1 - lo)).find? (fun i => decide (i + sub.length ≤ hi) && sub.isPrefixOf (l.drop i)) with
  | some i => (i : Int)
  | none => -1

theorem findL_spec (l sub : List Nat) (lo hi : Nat) :
    (findL l sub lo hi = -1 ∧ ∀ i, lo ≤ i → i + sub.length ≤ hi → ¬ sub <+: l.drop i) ∨
    (∃ k : Nat, findL l sub lo hi = k ∧ lo ≤ k ∧ k + sub.length ≤ hi ∧ sub <+: l.drop k ∧ ∀ i, lo ≤ i → i < k → ¬ sub <+: l.drop i) := by
  unfold findL
  cases hf : (List.range' lo (hi + 1 - lo)).find? (fun i => decide (i + sub.length ≤ hi) && sub.isPrefixOf (l.drop i)) with
  | none =>
    refine .inl ⟨rfl, fun i h1 h2 h3 => ?_⟩
    rw [List.find?_eq_none] at hf
    refine hf i (by rw [List.mem_range'_1]; (first | lia | omega)) ?_
    simp only [Bool.and_eq_true, decide_eq_true_eq, List.isPrefixOf_iff_prefix]
    exact ⟨h2, h3⟩
  | some k =>
    refine .inr ⟨k, rfl, ?_⟩
    obtain ⟨hk, as, bs, e, hn⟩ := List.find?_eq_some_iff_append.mp hf
    simp only [Bool.and_eq_true, decide_eq_true_eq, List.isPrefixOf_iff_prefix] at hk
    have hm : k ∈ List.range' lo (hi + 1 - lo) := by rw [e]; simp
    rw [List.mem_range'_1] at hm
    refine ⟨hm.1, hk.1, hk.2, fun i h1 h2 h3 => ?_⟩
    have hlen : as.length = k - lo := by
      have h5 : (List.range' lo (hi + 1 - lo))[as.length]? = some k := by rw [e]; simp
      rw [List.getElem?_range' (by have := congrArg List.length e; simp at this; (first | lia | omega))] at h5
      have := Option.some.inj h5
      (first | lia | omega)
    have hi' : i ∈ as := by
      have h6 : as[i - lo]? = some i := by
        have h7 : (List.range' lo (hi + 1 - lo))[i - lo]? = as[i - lo]? := by rw [e, List.getElem?_append_left (by first | lia | omega)]
        rw [← h7, List.getElem?_range' (by first | lia | omega)]
        congr 1; (first | lia | omega)
      exact List.mem_of_getElem? h6
    have := hn i hi'
    simp only [Bool.not_eq_true', Bool.and_eq_false_iff, decide_eq_false_iff_not] at this
    rcases this with q | q
    · (first | lia | omega)
    · rw [List.isPrefixOf_iff_prefix.mpr h3] at q; cases q

theorem occ_findL (l sub : List Nat) (lo hi : Nat) : (match occurrences (S l) (S sub) lo hi 1 with | k :: _ => (k : Int) | [] => -1) = findL l sub lo hi := by
  rw [occ_eq]
  rcases occ_first (S l) (S sub) hi 1 (Nat.le_refl _) (List.range' lo (hi + 1 - lo)) lo (fun i hi' => by rw [List.mem_range'_1] at hi'; exact hi'.1) with ⟨h0, hn⟩ | ⟨pre, a, post, e, h0, ha, hn⟩
  · rw [h0]
    show (-1 : Int) = _
    unfold findL
    rw [List.find?_eq_none.mpr]
    intro i hi' hq
    simp only [Bool.and_eq_true, decide_eq_true_eq, List.isPrefixOf_iff_prefix] at hq
    exact hn i hi' ((at_L _ _ _ _).mpr hq)
  · have hL : ∃ t, (forIn (List.range' lo (hi + 1 - lo)) ((#[] : Array Nat), lo) (occBody (S l) (S sub) hi 1)).run.fst.toList = a :: t := by
      generalize (forIn (List.range' lo (hi + 1 - lo)) ((#[] : Array Nat), lo) (occBody (S l) (S sub) hi 1)).run.fst = arr at h0
      have h1 : arr.toList[0]? = some a := by simpa using h0
      cases hq : arr.toList with
      | nil => rw [hq] at h1; cases h1
      | cons b t => rw [hq] at h1; simp at h1; exact ⟨t, by rw [h1]⟩
    obtain ⟨t, ht⟩ := hL
    rw [ht]
    show (a : Int) = _
    unfold findL
    have : (List.range' lo (hi + 1 - lo)).find? (fun i => decide (i + sub.length ≤ hi) && sub.isPrefixOf (l.drop i)) = some a := by
      rw [List.find?_eq_some_iff_append]
      refine ⟨?_, pre, post, e, fun i hi' => ?_⟩
      · have := (at_L _ _ _ _).mp ha
        simp only [Bool.and_eq_true, decide_eq_true_eq, List.isPrefixOf_iff_prefix]; exact this
      · have := hn i hi'
        rw [at_L] at this
        simp only [Bool.not_eq_true', Bool.and_eq_false_iff, decide_eq_false_iff_not]
        by_cases h5 : i + sub.length ≤ hi
        · refine .inr ?_
          rw [Bool.eq_false_iff]; intro q; exact this ⟨h5, List.isPrefixOf_iff_prefix.mp q⟩
        · exact .inl h5
    rw [this]

theorem contains_L (l sub : List Nat) : Txt.contains (S l) (S sub) = true ↔ ∃ i, i ≤ l.length ∧ sub <+: l.drop i := by
  unfold Txt.contains
  have hl : (S l).length = l.length := S_length l
  rcases occ_head (S l) (S sub) 1 (Nat.le_refl _) with ⟨h0, hn⟩ | ⟨i, r, h0, ha, hn⟩
  · rw [h0]
    simp only [List.isEmpty_nil, Bool.not_true, Bool.false_eq_true, false_iff]
    rintro ⟨i, hi, hp⟩
    refine hn i ?_
    rw [at_L, hl]
    have := hp.length_le
    rw [List.length_drop] at this
    exact ⟨by first | lia | omega, hp⟩
  · rw [h0]
    simp only [List.isEmpty_cons, Bool.not_false, true_iff]
    rw [at_L, hl] at ha
    exact ⟨i, by first | lia | omega, ha.2⟩

inductive SplitR (sep : List Nat) : List Nat → List (List Nat) → Prop
  | last {l : List Nat} : (∀ i, ¬ sep <+: l.drop i) → SplitR sep l [l]
  | cut {a b : List Nat} {ps : List (List Nat)} : (∀ i, i < a.length → ¬ sep <+: (a ++ (sep ++ b)).drop i) → SplitR sep b ps → SplitR sep (a ++ (sep ++ b)) (a :: ps)

noncomputable def Gr (l sep : List Nat) : Nat → List Nat → Nat → Prop
  | a, [], f => f = a
  | a, c :: r, f => a ≤ c ∧ c + sep.length ≤ l.length ∧ sep <+: l.drop c ∧ (∀ i, a ≤ i → i < c → ¬ sep <+: l.drop i) ∧ Gr l sep (c + sep.length) r f

theorem Gr.snoc {l sep : List Nat} : ∀ {a : Nat} {cuts : List Nat} {f i : Nat}, Gr l sep a cuts f → f ≤ i → i + sep.length ≤ l.length → sep <+: l.drop i → (∀ k, f ≤ k → k < i → ¬ sep <+: l.drop k) → Gr l sep a (cuts ++ [i]) (i + sep.length)
  | a, [], f, i, h, hf, hl, hp, hn => by
    have e : f = a := h
    subst e
    exact ⟨hf, hl, hp, hn, rfl⟩
  | a, c :: r, f, i, ⟨h1, h2, h3, h4, h5⟩, hf, hl, hp, hn => ⟨h1, h2, h3, h4, Gr.snoc h5 hf hl hp hn⟩

theorem occ_gr (l sep : List Nat) (lim : Nat) : ∀ (m i : Nat) (st : Array Nat × Nat), i + m ≤ l.length + 1 → l.length < lim → st.1.size ≤ i → Gr l sep 0 st.1.toList st.2 → (∀ k, st.2 ≤ k → k < i → ¬ (k + sep.length ≤ l.length ∧ sep <+: l.drop k)) → 1 ≤ sep.length →
    Gr l sep 0 (forIn (List.range' i m) st (occBody (S l) (S sep) l.length lim)).run.fst.toList (forIn (List.range' i m) st (occBody (S l) (S sep) l.length lim)).run.snd ∧
    ∀ k, (forIn (List.range' i m) st (occBody (S l) (S sep) l.length lim)).run.snd ≤ k → k < i + m → ¬ (k + sep.length ≤ l.length ∧ sep <+: l.drop k)
  | 0, i, st, _, _, _, hg, hn, _ => ⟨hg, fun k h1 h2 => hn k h1 (by first | lia | omega)⟩
  | m + 1, i, st, hle, hlim, hsz, hg, hn, hs => by
    rw [List.range'_succ, List.forIn_cons]
    unfold occBody
    split
    · rename_i hc
      have ha := (at_L l sep l.length i).mp ⟨hc.1.2, hc.2⟩
      have := occ_gr l sep lim m (i + 1) (st.1.push i, i + (S sep).length) (by first | lia | omega) hlim (by simp; (first | lia | omega)) (by
        rw [S_length]
        simp only [Array.toList_push]
        exact hg.snoc hc.1.1.2 ha.1 ha.2 fun k h1 h2 h3 => hn k h1 h2 ⟨by have := h3.length_le; rw [List.length_drop] at this; (first | lia | omega), h3⟩) (by
        intro k h1 h2
        simp only [S_length] at h1
        (first | lia | omega)) hs
      rw [show i + (m + 1) = i + 1 + m from by first | lia | omega]
      exact this
    · rename_i hc
      have := occ_gr l sep lim m (i + 1) st (by first | lia | omega) hlim (by first | lia | omega) hg (by
        intro k h1 h2 h3
        by_cases hk : k < i
        · exact hn k h1 hk h3
        · have hki : k = i := by first | lia | omega
          subst hki
          have h4 := (at_L l sep l.length k).mpr h3
          exact hc ⟨⟨⟨by first | lia | omega, h1⟩, h4.1⟩, h4.2⟩) hs
      rw [show i + (m + 1) = i + 1 + m from by first | lia | omega]
      exact this

theorem strSub_L (l : List Nat) (i j : Nat) : (strSub (S l) i j).cps.toList = (l.drop i).take (j - i) := by rw [strSub_toList, S_toList]

theorem split_parts (l sep : List Nat) : ∀ (cuts : List Nat) (a f : Nat), Gr l sep a cuts f → (∀ k, f ≤ k → ¬ (k + sep.length ≤ l.length ∧ sep <+: l.drop k)) → a ≤ l.length → 1 ≤ sep.length →
    SplitR sep (l.drop a) ((partsFrom (S l) (S sep).length a cuts).map (·.cps.toList))
  | [], a, f, hg, hn, ha, hs => by
    have e : f = a := hg
    subst e
    show SplitR sep _ [(strSub (S l) f (S l).length).cps.toList]
    rw [strSub_L, S_length, List.take_of_length_le (by simp)]
    refine .last fun i hp => ?_
    rw [List.drop_drop] at hp
    refine hn (f + i) (by first | lia | omega) ⟨?_, hp⟩
    have := hp.length_le
    rw [List.length_drop] at this
    (first | lia | omega)
  | c :: r, a, f, ⟨h1, h2, h3, h4, h5⟩, hn, ha, hs => by
    have ih := split_parts l sep r (c + sep.length) f h5 hn h2 hs
    show SplitR sep _ ((strSub (S l) a c).cps.toList :: (partsFrom (S l) (S sep).length (c + (S sep).length) r).map (·.cps.toList))
    rw [strSub_L, S_length]
    rw [S_length] at ih
    have e1 : l.drop a = (l.drop a).take (c - a) ++ (sep ++ l.drop (c + sep.length)) := by
      have : sep ++ l.drop (c + sep.length) = (l.drop a).drop (c - a) := by
        rw [List.drop_drop, show a + (c - a) = c from by first | lia | omega]
        have e2 : sep = (l.drop c).take sep.length := List.prefix_iff_eq_take.mp h3
        conv => lhs; rw [e2]
        have e3 : ((l.drop c).take sep.length).length = sep.length := by rw [← e2]
        rw [e3, show l.drop (c + sep.length) = (l.drop c).drop sep.length from by rw [List.drop_drop]]
        exact List.take_append_drop _ _
      rw [this, List.take_append_drop]
    have hlen : ((l.drop a).take (c - a)).length = c - a := by rw [List.length_take, List.length_drop]; (first | lia | omega)
    conv => rw [e1]
    rw [show ((List.take (c - a) (List.drop a l) ++ (sep ++ List.drop (c + sep.length) l)).take (c - a)) = (l.drop a).take (c - a) from by rw [← e1]]
    refine .cut (fun i hi hp => ?_) ih
    rw [← e1, List.drop_drop] at hp
    rw [hlen] at hi
    exact h4 (a + i) (by first | lia | omega) (by first | lia | omega) hp

noncomputable def splitF (l sep : List Nat) : List (List Nat) := (Txt.split (S l) (S sep)).map (·.cps.toList)

theorem splitF_spec (l sep : List Nat) (hs : sep ≠ []) (hk : ∀ c ∈ sep, c < 256) : SplitR sep l (splitF l sep) := by
  have hs1 : 1 ≤ sep.length := by cases sep with | nil => exact absurd rfl hs | cons => simp
  have hg := occ_gr l sep (l.length + 1) (l.length + 1) 0 (#[], 0) (by first | lia | omega) (by first | lia | omega) (by simp) rfl (by intro k _ h; (first | lia | omega)) hs1
  have eo : occurrences (S l) (S sep) 0 (S l).length ((S l).length + 1) = (forIn (List.range' 0 (l.length + 1)) ((#[] : Array Nat), 0) (occBody (S l) (S sep) l.length (l.length + 1))).run.fst.toList := by
    rw [occ_eq, S_length]; rfl
  have hn : ∀ k, (forIn (List.range' 0 (l.length + 1)) ((#[] : Array Nat), 0) (occBody (S l) (S sep) l.length (l.length + 1))).run.snd ≤ k → ¬ (k + sep.length ≤ l.length ∧ sep <+: l.drop k) := by
    intro k h1 h2
    exact hg.2 k h1 (by first | lia | omega) h2
  have main := split_parts l sep _ 0 _ hg.1 hn (Nat.zero_le _) hs1
  rw [List.drop_zero] at main
  unfold splitF Txt.split
  split
  · rename_i h1
    simp only [Bool.or_eq_true, decide_eq_true_eq] at h1
    show SplitR sep l [(S l).cps.toList]
    rw [S_toList]
    refine .last fun i hp => ?_
    rcases h1 with h1 | h1
    · rw [S_length, S_length] at h1
      have := hp.length_le
      rw [List.length_drop] at this
      (first | lia | omega)
    · have : Builtin.Str.strKind (S sep) = 1 := by
        unfold Builtin.Str.strKind
        rw [if_pos]
        simpa [S] using hk
      rw [this] at h1
      unfold Builtin.Str.strKind at h1
      split at h1 <;> (try split at h1) <;> (first | lia | omega)
  · split
    · rename_i h1 h2
      rw [eo] at h2
      rw [List.isEmpty_iff.mp h2] at main
      show SplitR sep l [(S l).cps.toList]
      rw [S_toList]
      have : SplitR sep l [(strSub (S l) 0 (S l).length).cps.toList] := main
      rwa [strSub_L, S_length, List.drop_zero, List.take_of_length_le (by simp)] at this
    · rw [partsBetween_eq, eo]
      exact main

theorem SplitR.unique {sep : List Nat} (hs : sep ≠ []) : ∀ {l : List Nat} {ps qs : List (List Nat)}, SplitR sep l ps → SplitR sep l qs → ps = qs := by
  intro l ps qs h
  induction h generalizing qs with
  | @last l hn =>
    intro k
    cases k with
    | last _ => rfl
    | @cut a b ps h1 h2 =>
      exfalso
      refine hn a.length ?_
      rw [List.drop_append_of_le_length (Nat.le_refl _)]
      simp
  | @cut a b ps h1 h2 ih =>
    intro k
    generalize he : a ++ (sep ++ b) = l at k
    cases k with
    | last hn =>
      exfalso
      subst he
      refine hn a.length ?_
      rw [List.drop_append_of_le_length (Nat.le_refl _)]
      simp
    | @cut a' b' ps' h1' h2' =>
      have hp : ∀ (a b : List Nat), sep <+: (a ++ (sep ++ b)).drop a.length := by
        intro a b; rw [List.drop_append_of_le_length (Nat.le_refl _)]; simp
      have hlen : a.length = a'.length := by
        rcases Nat.lt_trichotomy a.length a'.length with q | q | q
        · exact absurd (he ▸ hp a b) (h1' a.length q)
        · exact q
        · exact absurd (he ▸ hp a' b') (h1 a'.length q)
      have := List.append_inj he hlen
      obtain ⟨rfl, e2⟩ := this
      have := List.append_cancel_left e2
      subst this
      rw [ih h2']
end
section

theorem map_S (g : Nat → Nat) (l : List Nat) : (⟨(S l).cps.map g⟩ : Str) = S (l.map g) := by simp [S]
theorem sizeLine_val : sizeLine = 16777216 := by decide
theorem tooLong_of {n : Nat} (h : n ≤ sizeLine) : Builtin.Str.tooLong n = false := by
  unfold Builtin.Str.tooLong; simp only [gt_iff_lt, decide_eq_false_iff_not]; (first | lia | omega)

theorem startswith_L (x y : List Nat) : Txt.startswith (S x) (S y) = y.isPrefixOf x := by
  rw [Bool.eq_iff_iff, List.isPrefixOf_iff_prefix]
  unfold Txt.startswith
  rw [Bool.and_eq_true, subAt_L, List.drop_zero, decide_eq_true_eq, S_length, S_length]
  exact ⟨fun h => h.2, fun h => ⟨by have := h.length_le; (first | lia | omega), h⟩⟩
theorem endswith_L (x y : List Nat) : Txt.endswith (S x) (S y) = y.isSuffixOf x := by
  rw [Bool.eq_iff_iff, List.isSuffixOf_iff_suffix]
  unfold Txt.endswith
  rw [Bool.and_eq_true, subAt_L, decide_eq_true_eq, S_length, S_length]
  constructor
  · rintro ⟨h1, h2⟩
    rw [List.suffix_iff_eq_drop]
    have e := List.prefix_iff_eq_take.mp h2
    rw [List.take_of_length_le (by rw [List.length_drop]; (first | lia | omega))] at e
    exact e
  · intro h
    have := h.length_le
    refine ⟨by first | lia | omega, ?_⟩
    rw [← List.suffix_iff_eq_drop.mp h]
    exact List.prefix_refl _

noncomputable def capL : List Nat → List Nat
  | [] => []
  | c :: r => up1 c :: r.map lo1

theorem titleOf_ascii : ∀ c, c < 128 → Unicode.titleOf c = [up1 c] := by decide +kernel

theorem placed_L (l : List Nat) (f : Nat → Nat → List Nat) (g : Nat → Nat → Nat) (h : ∀ i c, l[i]? = some c → f i c = [g i c]) : PySem.placed (S l) f = (l.mapIdx g).toArray := by
  apply Array.toList_inj.mp
  simp only [PySem.placed, Array.toList_flatten, Array.toList_map, Array.toList_mapIdx]
  rw [map_toList_mapIdx]
  show (l.mapIdx f).flatten = _
  have : ∀ (l : List Nat) (f : Nat → Nat → List Nat) (g : Nat → Nat → Nat), (∀ i c, l[i]? = some c → f i c = [g i c]) → (l.mapIdx f).flatten = l.mapIdx g := by
    intro l
    induction l with
    | nil => intro f g _; rfl
    | cons a r ih =>
      intro f g h
      rw [List.mapIdx_cons, List.mapIdx_cons, List.flatten_cons, h 0 a rfl, ih (fun i c => f (i + 1) c) (fun i c => g (i + 1) c) fun i c hc => h (i + 1) c (by simpa using hc)]
      rfl
  exact this l f g h

theorem capitalized_L (l : List Nat) (hA : ∀ c ∈ l, c < 128) : Txt.capitalized (S l) = S (capL l) := by
  unfold Txt.capitalized
  rw [placed_L l _ (fun i c => if i = 0 then up1 c else lo1 c)]
  · cases l with
    | nil => rfl
    | cons a r =>
      show Str.mk _ = Str.mk _
      congr 2
      rw [List.mapIdx_cons]
      simp only [capL, if_true]
      congr 1
      apply List.ext_getElem?
      intro i
      simp
  · intro i c hc
    have hlt := hA c (List.mem_of_getElem? hc)
    by_cases h0 : i = 0
    · subst h0; simp only [beq_self_eq_true, if_true]; exact titleOf_ascii c hlt
    · rw [if_neg h0, if_neg (by simpa using h0)]
      unfold Unicode.lowerAt
      have hc' : (S l).cps[i]? = some c := by simpa [S] using hc
      rw [hc']
      have hne : (c == 0x3A3) = false := by rw [beq_eq_false_iff_ne]; (first | lia | omega)
      simp only [hne, Bool.false_and, Bool.false_eq_true, if_false]
      exact lowerOf_ascii c hlt
theorem capitalize_L (l : List Nat) (hA : ∀ c ∈ l, c < 128) : Txt.capitalize (S l) = S (capL l) := by
  unfold Txt.capitalize
  split
  · rename_i h
    rw [S_length] at h
    have : l = [] := List.eq_nil_of_length_eq_zero (by simpa using h)
    subst this; rfl
  · exact capitalized_L l hA
theorem capL_length (l : List Nat) : (capL l).length = l.length := by cases l <;> simp [capL]

section
variable {c : Cx} {A : Around} {env : Env} {σ : Sto}

theorem ev_upper {o : Expr} {apos pos : Pos} {l : List Nat} (ho : Ev c A env σ o (.str l)) (hA : ∀ c ∈ l, c < 128) (hl : l.length ≤ sizeLine)
    (hbase : attributeBase o (Str.ofString "upper") env (eval o env) = eval o env := by rfl) (hline : (apos.endLine == pos.line) = true := by rfl) : Ev c A env σ (.Call (.Attribute o (Str.ofString "upper") apos) [] [] pos) (.str (l.map up1)) := by
  refine ev_smeth F.slot_str_upper F.type_str_upper ho evl_nil (.inl rfl) rfl hbase rfl hline ?_
  intro P s t vs ok T RL Q E q
  obtain rfl := RL.nil_inv; clear RL
  have e : Txt.upper (S l) = S (l.map up1) := by rw [upper_ascii (by rw [S_toList]; exact hA), map_S]
  refine SC.upper ?_ ?_
  · rw [e, S_length, List.length_map]; exact tooLong_of hl
  · rw [e]; exact q _ s.heap _ P (Step.refl ok) (.str _ _)
theorem ev_startswith {o x : Expr} {apos pos : Pos} {l y : List Nat} (ho : Ev c A env σ o (.str l)) (hx : Ev c A env σ x (.str y))
    (hbase : attributeBase o (Str.ofString "startswith") env (eval o env) = eval o env := by rfl) (hline : (apos.endLine == pos.line) = true := by rfl) (he : starEach [x] env = [(false, eval x env)] := by rfl) :
    Ev c A env σ (.Call (.Attribute o (Str.ofString "startswith") apos) [x] [] pos) (.bool (y.isPrefixOf l)) := by
  refine ev_smeth F.slot_str_startswith F.type_str_startswith ho (evl_cons hx evl_nil he) (.inr ⟨_, _, he⟩) (by rw [he]; rfl) hbase (by rw [he]; rfl) hline ?_
  intro P s t vs ok T RL Q E q
  have hInv := RL.cons_inv; clear RL; obtain ⟨_, _, rfl, R, RL⟩ := hInv
  obtain rfl := RL.nil_inv; clear RL; obtain ⟨_, rfl⟩ := R.str_inv
  refine SC.startswith ?_
  rw [startswith_L]
  exact q _ s.heap _ P (Step.refl ok) (.bool _)
theorem ev_endswith {o x : Expr} {apos pos : Pos} {l y : List Nat} (ho : Ev c A env σ o (.str l)) (hx : Ev c A env σ x (.str y))
    (hbase : attributeBase o (Str.ofString "endswith") env (eval o env) = eval o env := by rfl) (hline : (apos.endLine == pos.line) = true := by rfl) (he : starEach [x] env = [(false, eval x env)] := by rfl) :
    Ev c A env σ (.Call (.Attribute o (Str.ofString "endswith") apos) [x] [] pos) (.bool (y.isSuffixOf l)) := by
  refine ev_smeth F.slot_str_endswith F.type_str_endswith ho (evl_cons hx evl_nil he) (.inr ⟨_, _, he⟩) (by rw [he]; rfl) hbase (by rw [he]; rfl) hline ?_
  intro P s t vs ok T RL Q E q
  have hInv := RL.cons_inv; clear RL; obtain ⟨_, _, rfl, R, RL⟩ := hInv
  obtain rfl := RL.nil_inv; clear RL; obtain ⟨_, rfl⟩ := R.str_inv
  refine SC.endswith ?_
  rw [endswith_L]
  exact q _ s.heap _ P (Step.refl ok) (.bool _)

theorem gives_find4 (l sub : List Nat) (i j : Int) (t u v w : Tok) : Gives (Builtin.«str.find» ⟨[.str (S l) t, .str (S sub) u, .int i v, .int j w], []⟩)
    (.int (findL l sub (fromIndex (S l).length i) (min (fromIndex (S l).length j) (S l).length))) := by
  show Gives (match Builtin.Str.occurrences (S l) (S sub) (fromIndex (S l).length i) (min (fromIndex (S l).length j) (S l).length) 1 with | k :: _ => retInt k | [] => (do rule "str.find.not-found"; retInt (-1))) _
  have h := occ_findL l sub (fromIndex (S l).length i) (min (fromIndex (S l).length j) (S l).length)
  cases ho : Builtin.Str.occurrences (S l) (S sub) (fromIndex (S l).length i) (min (fromIndex (S l).length j) (S l).length) 1 with
  | nil =>
    rw [ho] at h
    rw [← h]
    exact .rule (.of_eq rfl)
  | cons k _ =>
    rw [ho] at h
    rw [← h]
    exact .of_eq rfl

theorem ev_find4 {o x a b : Expr} {apos pos : Pos} {l y : List Nat} {i j : Nat} (ho : Ev c A env σ o (.str l)) (hx : Ev c A env σ x (.str y)) (ha : Ev c A env σ a (.int (i : Int))) (hb : Ev c A env σ b (.int (j : Int))) (hj : j ≤ l.length)
    (hbase : attributeBase o (Str.ofString "find") env (eval o env) = eval o env := by rfl) (hline : (apos.endLine == pos.line) = true := by rfl) (he : starEach [x, a, b] env = [(false, eval x env), (false, eval a env), (false, eval b env)] := by rfl)
    (he2 : starEach [a, b] env = [(false, eval a env), (false, eval b env)] := by rfl) (he3 : starEach [b] env = [(false, eval b env)] := by rfl) :
    Ev c A env σ (.Call (.Attribute o (Str.ofString "find") apos) [x, a, b] [] pos) (.int (findL l y i j)) := by
  refine ev_smeth F.slot_str_find F.type_str_find ho (evl_cons hx (evl_cons ha (evl_cons hb evl_nil he3) (by rw [he2, he3])) (by rw [he, he2])) (.inr ⟨_, _, he⟩) (by rw [he]; rfl) hbase (by rw [he]; rfl) hline ?_
  intro P s t vs ok T RL Q E q
  have hInv := RL.cons_inv; clear RL; obtain ⟨_, _, rfl, R, RL⟩ := hInv
  have hInv := RL.cons_inv; clear RL; obtain ⟨_, _, rfl, R2, RL⟩ := hInv
  have hInv := RL.cons_inv; clear RL; obtain ⟨_, _, rfl, R3, RL⟩ := hInv
  obtain rfl := RL.nil_inv; clear RL; obtain ⟨_, rfl⟩ := R.str_inv; obtain ⟨_, rfl⟩ := R2.int_inv; obtain ⟨_, rfl⟩ := R3.int_inv
  refine call_gives F.slot_str_find (typeIs_str _ _ _) F.entry_str_find (F.args_str_find_4 _ _ _ _) (gives_find4 _ _ _ _ _ _ _ _) ?_
  have e1 : fromIndex (S l).length (i : Int) = i := by unfold fromIndex; rw [if_neg (by first | lia | omega)]; (first | lia | omega)
  have e2 : fromIndex (S l).length (j : Int) = j := by unfold fromIndex; rw [if_neg (by first | lia | omega)]; (first | lia | omega)
  rw [e1, e2, S_length, Nat.min_eq_left hj]
  exact q _ s.heap _ P (Step.refl ok) (.int _ _)

noncomputable def D.strs (ls : List (List Nat)) : D := .list (ls.map D.str)

theorem repL_strs {P : Facts} : ∀ (l : List (Str × Tok)), RepL c P (strValues l) ((l.map fun p => p.1.cps.toList).map D.str)
  | [] => .nil
  | (x, t) :: r => .cons (by have := Rep.str (c := c) (P := P) x.cps.toList t; rwa [S_eta] at this) (repL_strs r)

noncomputable def OneList (s : Shared) (s' : Shared) : Prop := s' = s ∨ ∃ o tk, s' = { s with heap := s.heap.push o, toks := tk }

theorem SplitR.length_le {sep : List Nat} (hs : sep ≠ []) : ∀ {l : List Nat} {ps : List (List Nat)}, SplitR sep l ps → ps.length ≤ l.length + 1 := by
  intro l ps h
  induction h with
  | last => simp
  | cut _ _ ih =>
    have : 1 ≤ sep.length := by cases sep with | nil => exact absurd rfl hs | cons => simp
    simp only [List.length_cons, List.length_append]
    (first | lia | omega)
end
end
section

noncomputable def del : Sto → String → Sto
  | [], _ => []
  | (y, u) :: r, x => if y = x then del r x else (y, u) :: del r x
noncomputable def set : Sto → String → Slot → Sto
  | [], x, v => [(x, v)]
  | (y, u) :: r, x, v => if y = x then (x, v) :: del r x else (y, u) :: set r x v

theorem mem_del {σ : Sto} {x y : String} {u : Slot} : (y, u) ∈ del σ x → y ≠ x ∧ (y, u) ∈ σ := by
  induction σ with
  | nil => intro h; cases h
  | cons p r ih =>
    obtain ⟨z, w⟩ := p
    intro h
    unfold del at h
    split at h
    · exact ⟨(ih h).1, .tail _ (ih h).2⟩
    · rcases List.mem_cons.mp h with e | h
      · cases e; rename_i hz; exact ⟨hz, .head _⟩
      · exact ⟨(ih h).1, .tail _ (ih h).2⟩
theorem mem_set {σ : Sto} {x y : String} {u v : Slot} : (y, u) ∈ set σ x v → (y = x ∧ u = v) ∨ (y ≠ x ∧ (y, u) ∈ σ) := by
  induction σ with
  | nil => intro h; rcases List.mem_cons.mp h with e | h; · cases e; exact .inl ⟨rfl, rfl⟩
           · cases h
  | cons p r ih =>
    obtain ⟨z, w⟩ := p
    intro h
    unfold set at h
    split at h
    · rcases List.mem_cons.mp h with e | h
      · cases e; exact .inl ⟨rfl, rfl⟩
      · exact .inr ⟨(mem_del h).1, .tail _ (mem_del h).2⟩
    · rename_i hz
      rcases List.mem_cons.mp h with e | h
      · cases e; exact .inr ⟨hz, .head _⟩
      · rcases ih h with q | q
        · exact .inl q
        · exact .inr ⟨q.1, .tail _ q.2⟩

theorem ns_det {h : Heap} {a : Addr} {m m' : Str → Option Value} (x : h.Ns a m) (y : h.Ns a m') (n : Str) : m n = m' n := by
  obtain ⟨o, es, ep, h1, h2, _, h3⟩ := x
  obtain ⟨o', es', ep', h1', h2', _, h3'⟩ := y
  rw [h1] at h1'; cases h1'
  rw [h2] at h2'; cases h2'
  rw [← h3, ← h3']
theorem cell_det {h : Heap} {a : Addr} {m m' : Option Value} (x : h.IsCell a m) (y : h.IsCell a m') : m = m' := by
  obtain ⟨o, h1, h2⟩ := x
  obtain ⟨o', h1', h2'⟩ := y
  rw [h1] at h1'; cases h1'
  rw [h2] at h2'; cases h2'; rfl
theorem VarIs.det {env : Env} {h : Heap} {x : Str} {v v' : Value} (a : VarIs env h x v) (b : VarIs env h x v') : v = v' := by
  rcases a with ⟨h1, m, h2, h3⟩ | ⟨h1, a, h2, h3⟩ <;> rcases b with ⟨k1, m', k2, k3⟩ | ⟨k1, a', k2, k3⟩
  · rw [ns_det h2 k2, k3] at h3; exact (Option.some.inj h3).symm
  · rw [h1] at k1; cases k1
  · rw [h1] at k1; cases k1
  · rw [h2] at k2; cases k2
    exact Option.some.inj (cell_det h3 k3)

structure Frm (c : Cx) (env : Env) (s₀ : Shared) (P₀ : Facts) (σ : Sto) (P : Facts) (s : Shared) : Prop where
  good : Good c env σ P s
  top0 : Tops c s₀.heap
  same : ∃ h tk, s = { s₀ with heap := h, toks := tk }
  ok0 : ∀ a o, P₀ a o → s₀.heap.get? a = some o
  keep : ∀ b o, s₀.heap.get? b = some o → s.heap.get? b = some o
  sub0 : ∀ a o, P₀ a o → P a o
  new0 : ∀ a o, P a o → P₀ a o ∨ s₀.heap.get? a = none
  ns : ∃ m, s.heap.Ns env.locals m
  loc0 : s₀.heap.get? env.locals = none
  locP : ∀ o, ¬ P env.locals o
  cell : ∀ x a, env.cells.lookup x = some a → (∃ v, s.heap.IsCell a v) ∧ s₀.heap.get? a = none ∧ (∀ o, ¬ P a o) ∧ a ≠ env.locals
  apart : ∀ x y a, env.cells.lookup x = some a → env.cells.lookup y = some a → x = y
  ownF : ∀ x d a, (x, Slot.own d) ∈ σ → VarIs env s.heap (Str.ofString x) (.ref a) → s₀.heap.get? a = none ∧ a ≠ env.locals
  ownA : ∀ x y d d' a, (x, Slot.own d) ∈ σ → (y, Slot.own d') ∈ σ → VarIs env s.heap (Str.ofString x) (.ref a) → VarIs env s.heap (Str.ofString y) (.ref a) → x = y

section
variable {c : Cx} {A : Around} {env : Env} {s₀ : Shared} {P₀ : Facts} {σ : Sto} {P : Facts} {s : Shared}

theorem Frm.poke (F : Frm c env s₀ P₀ σ P s) {I : Addr} {P' : Facts} {h' : Heap} {tk : Nat} (hI0 : s₀.heap.get? I = none) (hIL : I ≠ env.locals) (hIc : ∀ x a, env.cells.lookup x = some a → a ≠ I)
    (hIo : ∀ x d a, (x, Slot.own d) ∈ σ → VarIs env s.heap (Str.ofString x) (.ref a) → a ≠ I)
    (hsub : ∀ a o, IsData o → P a o → P' a o) (hsub0 : ∀ a o, P₀ a o → P' a o) (hok : ∀ a o, P' a o → h'.get? a = some o) (hnew : ∀ a o, P' a o → P a o ∨ (a = I ∧ h'.get? I = some o))
    (hk : ∀ b o, b ≠ I → s.heap.get? b = some o → h'.get? b = some o) : Frm c env s₀ P₀ σ P' { s with heap := h', toks := tk } := by
  have nsk : ∀ m, s.heap.Ns env.locals m → h'.Ns env.locals m := fun m hm => hm.at' fun o e => hk _ o (fun e => hIL e.symm) e
  have ck : ∀ x a v, env.cells.lookup x = some a → s.heap.IsCell a v → h'.IsCell a v := fun x a v hx hc => let ⟨o, ho, hd⟩ := hc; ⟨o, hk _ o (hIc x a hx) ho, hd⟩
  have vk : ∀ {x v}, VarIs env s.heap x v → VarIs env h' x v := by
    intro x v V
    rcases V with ⟨h1, m, h2, h3⟩ | ⟨h1, a, h2, h3⟩
    · exact .inl ⟨h1, m, nsk m h2, h3⟩
    · exact .inr ⟨h1, a, h2, ck x a _ h2 h3⟩
  have htop : Tops c h' := F.top0.keeps fun b o e => hk b o (fun e' => by rw [e', hI0] at e; cases e) (F.keep b o e)
  refine ⟨⟨F.good.eok, htop, hok, fun x d hx => ?_, fun x d hx => ?_⟩, F.top0, ?_, F.ok0, fun b o e => ?_, hsub0, fun a o e => ?_, ?_, F.loc0, fun o e => ?_, fun x a hx => ?_, F.apart, fun x d a hx V => ?_, fun x y d d' a hx hy Vx Vy => ?_⟩
  · obtain ⟨v, V, R⟩ := F.good.vars x d hx
    exact ⟨v, vk V, R.only hsub⟩
  · obtain ⟨a, V, hn, O⟩ := F.good.owns x d hx
    have hne := hIo x d a hx V
    refine ⟨a, vk V, fun o e => ?_, (O.only hsub).keeps (fun _ _ e => e) fun o e => hk _ o hne e⟩
    rcases hnew a o e with q | q
    · exact hn o q
    · exact hne q.1
  · obtain ⟨h, t, e⟩ := F.same
    exact ⟨h', tk, by rw [e]⟩
  · refine hk b o (fun e' => ?_) (F.keep b o e)
    rw [e', hI0] at e; cases e
  · rcases hnew a o e with q | ⟨rfl, _⟩
    · exact F.new0 a o q
    · exact .inr hI0
  · obtain ⟨m, hm⟩ := F.ns
    exact ⟨m, nsk m hm⟩
  · rcases hnew _ o e with q | q
    · exact F.locP o q
    · exact hIL q.1.symm
  · obtain ⟨⟨v, hc⟩, h1, h2, h3⟩ := F.cell x a hx
    refine ⟨⟨v, ck x a v hx hc⟩, h1, fun o e => ?_, h3⟩
    rcases hnew _ o e with q | q
    · exact h2 o q
    · exact hIc x a hx q.1
  · obtain ⟨a', V', hn, O⟩ := F.good.owns x d hx
    have := V.det (vk V')
    cases this
    exact F.ownF x d a hx V'
  · obtain ⟨a', V', _, _⟩ := F.good.owns x d hx
    obtain ⟨b', W', _, _⟩ := F.good.owns y d' hy
    obtain rfl := Value.ref.inj (Vx.det (vk V'))
    obtain rfl := Value.ref.inj (Vy.det (vk W'))
    exact F.ownA x y d d' a hx hy V' W'

theorem Frm.step (F : Frm c env s₀ P₀ σ P s) {P' : Facts} {h' : Heap} {tk : Nat} (S : Step P P' s.heap h') : Frm c env s₀ P₀ σ P' { s with heap := h', toks := tk } := by
  have dead : ∀ a o, P' a o → ∀ o', s.heap.get? a = some o' → P a o := fun a o e o' e' => by
    rcases S.new a o e with q | q
    · exact q
    · rw [e'] at q; cases q
  refine ⟨F.good.step S, F.top0, ?_, F.ok0, fun b o e => S.ext b o (F.keep b o e), fun a o e => S.sub a o (F.sub0 a o e), fun a o e => ?_, ?_, F.loc0, fun o e => ?_, fun x a hx => ?_, F.apart, fun x d a hx V => ?_, fun x y d d' a hx hy Vx Vy => ?_⟩
  · obtain ⟨h, t, e⟩ := F.same
    exact ⟨h', tk, by rw [e]⟩
  · rcases S.new a o e with q | q
    · exact F.new0 a o q
    · refine .inr ?_
      cases z : s₀.heap.get? a with
      | none => rfl
      | some o' => rw [F.keep a o' z] at q; cases q
  · obtain ⟨m, hm⟩ := F.ns
    exact ⟨m, hm.keeps S.ext⟩
  · obtain ⟨m, oo, es, ep, ho, _⟩ := F.ns
    exact F.locP o (dead _ o e _ ho)
  · obtain ⟨⟨v, hc⟩, h1, h2, h3⟩ := F.cell x a hx
    refine ⟨⟨v, hc.keeps S.ext⟩, h1, fun o e => ?_, h3⟩
    obtain ⟨oo, ho, _⟩ := hc
    exact h2 o (dead _ o e _ ho)
  · obtain ⟨a', V', hn, O⟩ := F.good.owns x d hx
    have := V.det (V'.keeps S.ext)
    cases this
    exact F.ownF x d a hx V'
  · obtain ⟨a', V', _, _⟩ := F.good.owns x d hx
    obtain ⟨b', W', _, _⟩ := F.good.owns y d' hy
    obtain rfl := Value.ref.inj (Vx.det (V'.keeps S.ext))
    obtain rfl := Value.ref.inj (Vy.det (W'.keeps S.ext))
    exact F.ownA x y d d' a hx hy V' W'

theorem Frm.weaken (F : Frm c env s₀ P₀ σ P s) {σ' : Sto} (hs : ∀ p ∈ σ', p ∈ σ) : Frm c env s₀ P₀ σ' P s :=
  { F with
    good := { F.good with vars := fun x d hx => F.good.vars x d (hs _ hx), owns := fun x d hx => F.good.owns x d (hs _ hx) }
    ownF := fun x d a hx V => F.ownF x d a (hs _ hx) V
    ownA := fun x y d d' a hx hy V W => F.ownA x y d d' a (hs _ hx) (hs _ hy) V W }

theorem ofString_inj {x y : String} (h : Str.ofString x = Str.ofString y) : x = y := by
  rw [Str.ofString_eq_toList, Str.ofString_eq_toList] at h
  have h1 := congrArg Str.cps h
  have h2 : x.toList.map Char.toNat = y.toList.map Char.toNat := by simpa using h1
  have h3 : x.toList = y.toList := by
    refine List.map_inj_right ?_ |>.mp h2
    intro a b hab
    exact Char.ext (UInt32.toNat_inj.mp hab)
  exact String.ext h3

noncomputable def StoreOk (env : Env) (x : String) : Prop := env.kindOf (Str.ofString x) = some .local ∨ (env.kindOf (Str.ofString x) = some .cell ∧ (env.cells.lookup (Str.ofString x)).isSome = true)

noncomputable def SlotIs (c : Cx) (env : Env) (s₀ : Shared) (P : Facts) (s : Shared) (σ : Sto) (x : String) (v : Value) : Slot → Prop
  | .val d => Rep c P v d
  | .own d => ∃ a, v = .ref a ∧ (∀ o, ¬ P a o) ∧ OwnObj c P s.heap a d ∧ s₀.heap.get? a = none ∧ a ≠ env.locals ∧ ∀ y d', y ≠ x → (y, Slot.own d') ∈ σ → ∀ b, VarIs env s.heap (Str.ofString y) (.ref b) → b ≠ a

theorem Frm.storeV (F : Frm c env s₀ P₀ σ P s) {x : String} {v : Value} {u : Slot} (hx : StoreOk env x) (hu : SlotIs c env s₀ P s σ x v u) {Q : Unit → Shared → Prop} {E : Value → Shared → Prop}
    (k : ∀ h' tk, (∀ b o, b ≠ env.locals → (∀ z a, env.cells.lookup z = some a → b ≠ a) → s.heap.get? b = some o → h'.get? b = some o) → (∀ y w, y ≠ x → VarIs env s.heap (Str.ofString y) w → VarIs env h' (Str.ofString y) w) → VarIs env h' (Str.ofString x) v → Frm c env s₀ P₀ (set σ x u) P { s with heap := h', toks := tk } → Q () { s with heap := h', toks := tk }) : wpAny c.M A (storeName env (Str.ofString x) v) Q E s := by
  have fin : ∀ (C : Addr) (h' : Heap) (tk : Nat), Heap.SameBut C s.heap h' → s₀.heap.get? C = none → (∀ o, ¬ P C o) → (∀ a d, OwnObj c P s.heap a d → a ≠ env.locals → a ≠ C) →
      (∃ m, h'.Ns env.locals m) → (∀ y a, env.cells.lookup y = some a → ∃ w, h'.IsCell a w) → VarIs env h' (Str.ofString x) v →
      (∀ y w, y ≠ x → VarIs env s.heap (Str.ofString y) w → VarIs env h' (Str.ofString y) w) → Frm c env s₀ P₀ (set σ x u) P { s with heap := h', toks := tk } := by
    intro C h' tk sb hC0 hCP hCo hns hcell hvx hvy
    have kp : ∀ b o, b ≠ C → s.heap.get? b = some o → h'.get? b = some o := fun b o hb e => sb.extBut b o hb e
    have okP : ∀ a o, P a o → h'.get? a = some o := fun a o e => kp a o (fun e' => hCP o (e' ▸ e)) (F.good.ok a o e)
    have ownk : ∀ a d, a ≠ env.locals → OwnObj c P s.heap a d → OwnObj c P h' a d := fun a d hl O => O.keeps (fun _ _ e => e) fun o e => kp _ o (hCo a d O hl) e
    have htop : Tops c h' := F.top0.keeps fun b o e => kp b o (fun e' => by rw [e', hC0] at e; cases e) (F.keep b o e)
    refine ⟨⟨F.good.eok, htop, okP, fun y d hy => ?_, fun y d hy => ?_⟩, F.top0, ?_, F.ok0, fun b o e => ?_, F.sub0, F.new0, hns, F.loc0, F.locP, fun y a hy => ?_, F.apart, fun y d a hy V => ?_, fun y z d d' a hy hz Vy Vz => ?_⟩
    · rcases mem_set hy with ⟨rfl, e⟩ | ⟨hne, hm⟩
      · subst e; exact ⟨v, hvx, hu⟩
      · obtain ⟨w, V, R⟩ := F.good.vars y d hm
        exact ⟨w, hvy y w hne V, R⟩
    · rcases mem_set hy with ⟨rfl, e⟩ | ⟨hne, hm⟩
      · subst e
        obtain ⟨a, rfl, h1, h2, h3, h4, h5⟩ := hu
        exact ⟨a, hvx, h1, ownk a d h4 h2⟩
      · obtain ⟨a, V, h1, O⟩ := F.good.owns y d hm
        exact ⟨a, hvy y _ hne V, h1, ownk a d (F.ownF y d a hm V).2 O⟩
    · obtain ⟨h, t, e⟩ := F.same
      exact ⟨h', tk, by rw [e]⟩
    · refine kp b o (fun e' => ?_) (F.keep b o e)
      rw [e', hC0] at e; cases e
    · obtain ⟨_, h1, h2, h3⟩ := F.cell y a hy
      exact ⟨hcell y a hy, h1, h2, h3⟩
    · rcases mem_set hy with ⟨rfl, e⟩ | ⟨hne, hm⟩
      · subst e
        obtain ⟨a', rfl, h1, h2, h3, h4, h5⟩ := hu
        obtain rfl := Value.ref.inj (V.det hvx)
        exact ⟨h3, h4⟩
      · obtain ⟨a', V', _, _⟩ := F.good.owns y d hm
        obtain rfl := Value.ref.inj (V.det (hvy y _ hne V'))
        exact F.ownF y d a hm V'
    · rcases mem_set hy with ⟨rfl, e⟩ | ⟨hne, hm⟩ <;> rcases mem_set hz with ⟨rfl, e'⟩ | ⟨hne', hm'⟩
      · rfl
      · subst e
        obtain ⟨a', rfl, h1, h2, h3, h4, h5⟩ := hu
        obtain rfl := Value.ref.inj (Vy.det hvx)
        obtain ⟨b', W', _, _⟩ := F.good.owns z d' hm'
        obtain rfl := Value.ref.inj (Vz.det (hvy z _ hne' W'))
        exact absurd rfl (h5 z d' hne' hm' _ W')
      · subst e'
        obtain ⟨a', rfl, h1, h2, h3, h4, h5⟩ := hu
        obtain rfl := Value.ref.inj (Vz.det hvx)
        obtain ⟨b', W', _, _⟩ := F.good.owns y d hm
        obtain rfl := Value.ref.inj (Vy.det (hvy y _ hne W'))
        exact absurd rfl (h5 y d hne hm _ W')
      · obtain ⟨a', V', _, _⟩ := F.good.owns y d hm
        obtain ⟨b', W', _, _⟩ := F.good.owns z d' hm'
        obtain rfl := Value.ref.inj (Vy.det (hvy y _ hne V'))
        obtain rfl := Value.ref.inj (Vz.det (hvy z _ hne' W'))
        exact F.ownA y z d d' a hm hm' V' W'
  have hkind := F.good.eok.kind
  rcases hx with hl | ⟨hl, hc⟩
  · obtain ⟨m, hm⟩ := F.ns
    refine wpAny_storeName_local hl hm (fun h' hn' hs' => ?_) (by rw [hkind]; rfl)
    have hvy : ∀ y w, y ≠ x → VarIs env s.heap (Str.ofString y) w → VarIs env h' (Str.ofString y) w := by
      intro y w hy V
      rcases V with ⟨h1, m', h2, h3⟩ | ⟨h1, a, h2, h3⟩
      · refine .inl ⟨h1, _, hn', ?_⟩
        have : Str.ofString y ≠ Str.ofString x := fun e => hy (ofString_inj e)
        simp only [if_neg this]
        rw [ns_det hm h2]; exact h3
      · exact .inr ⟨h1, a, h2, h3.sameBut hs' (F.cell _ a h2).2.2.2⟩
    refine k h' _ (fun b o hb _ e => hs'.extBut b o hb e) hvy (.inl ⟨hl, _, hn', by simp⟩) (fin env.locals h' _ hs' F.loc0 F.locP (fun a d _ hne => hne) ⟨_, hn'⟩ (fun y a hy => ?_) (.inl ⟨hl, _, hn', by simp⟩) hvy)
    obtain ⟨⟨w, hw⟩, _, _, h3⟩ := F.cell y a hy
    exact ⟨w, hw.sameBut hs' h3⟩
  · obtain ⟨C, hC⟩ := Option.isSome_iff_exists.mp hc
    obtain ⟨⟨w0, hw0⟩, hC0, hCP, hCL⟩ := F.cell _ C hC
    refine wpAny_storeName_cell hkind hl hC hw0 fun h' hc' hs' => ?_
    have hvy : ∀ y w, y ≠ x → VarIs env s.heap (Str.ofString y) w → VarIs env h' (Str.ofString y) w := by
      intro y w hy V
      rcases V with ⟨h1, m', h2, h3⟩ | ⟨h1, a, h2, h3⟩
      · exact .inl ⟨h1, m', h2.sameBut hs' (Ne.symm hCL), h3⟩
      · refine .inr ⟨h1, a, h2, h3.sameBut hs' fun e => hy ?_⟩
        subst e
        exact ofString_inj (F.apart _ _ _ h2 hC)
    refine k h' s.toks (fun b o _ hb e => hs'.extBut b o (hb _ _ hC) e) hvy (.inr ⟨hl, C, hC, hc'⟩) ?_
    refine fin C h' _ hs' hC0 hCP (fun a d O _ e => ?_) ?_ (fun y a hy => ?_) (.inr ⟨hl, C, hC, hc'⟩) hvy
    · obtain ⟨o, ho, hd⟩ := O.some
      obtain ⟨o', ho', hd'⟩ := hw0
      rw [e, ho'] at ho; cases ho
      rcases hd with ⟨vs, n, rfl⟩ | ⟨vs, n, rfl⟩ | ⟨vs, n, rfl⟩ <;> cases hd'
    · obtain ⟨m, hm⟩ := F.ns
      exact ⟨m, hm.sameBut hs' (Ne.symm hCL)⟩
    · by_cases e : a = C
      · subst e; exact ⟨_, hc'⟩
      · obtain ⟨⟨w, hw⟩, _, _, _⟩ := F.cell y a hy
        exact ⟨w, hw.sameBut hs' e⟩

theorem Frm.store' (F : Frm c env s₀ P₀ σ P s) {x : String} {v : Value} {u : Slot} (hx : StoreOk env x) (hu : SlotIs c env s₀ P s σ x v u) {Q : Unit → Shared → Prop} {E : Value → Shared → Prop}
    (k : ∀ h' tk, (∀ b o, b ≠ env.locals → (∀ z a, env.cells.lookup z = some a → b ≠ a) → s.heap.get? b = some o → h'.get? b = some o) → (∀ y w, y ≠ x → VarIs env s.heap (Str.ofString y) w → VarIs env h' (Str.ofString y) w) → Frm c env s₀ P₀ (set σ x u) P { s with heap := h', toks := tk } → Q () { s with heap := h', toks := tk }) : wpAny c.M A (storeName env (Str.ofString x) v) Q E s :=
  F.storeV hx hu fun h' tk kp vk _ F' => k h' tk kp vk F'
theorem Frm.store (F : Frm c env s₀ P₀ σ P s) {x : String} {v : Value} {u : Slot} (hx : StoreOk env x) (hu : SlotIs c env s₀ P s σ x v u) {Q : Unit → Shared → Prop} {E : Value → Shared → Prop}
    (k : ∀ h' tk, Frm c env s₀ P₀ (set σ x u) P { s with heap := h', toks := tk } → Q () { s with heap := h', toks := tk }) : wpAny c.M A (storeName env (Str.ofString x) v) Q E s :=
  F.store' hx hu fun h' tk _ _ F' => k h' tk F'
end
end
section

noncomputable def Ex (c : Cx) (A : Around) (env : Env) (σ : Sto) (ss : List Stmt) (N : Sto → Prop) (R : D → Prop) : Prop :=
  ∀ ⦃s₀ : Shared⦄ (P₀ P : Facts) (s : Shared), Frm c env s₀ P₀ σ P s → ∀ (Q : Flow → Shared → Prop) (E : Value → Shared → Prop),
    (∀ σ' P' h' tk, N σ' → (∀ a o, P a o → P' a o) → Frm c env s₀ P₀ σ' P' { s with heap := h', toks := tk } → Q .next { s with heap := h', toks := tk }) →
    (∀ d v P' h' tk, R d → (∀ a o, P a o → P' a o) → Frm c env s₀ P₀ [] P' { s with heap := h', toks := tk } → Rep c P' v d → Q (.ret v) { s with heap := h', toks := tk }) →
    wpAny c.M A (execs ss env) Q E s

section
variable {c : Cx} {A : Around} {env : Env} {σ : Sto} {N : Sto → Prop} {R : D → Prop} {rest : List Stmt}

theorem ex_nil (h : N σ) : Ex c A env σ [] N R := by
  intro s₀ P₀ P s F Q E kn kr
  exact wpAny_execs_nil (kn σ P s.heap s.toks h (fun _ _ e => e) F)

theorem ex_weaken {σ' : Sto} {ss : List Stmt} (hs : ∀ p ∈ σ', p ∈ σ) (h : Ex c A env σ' ss N R) : Ex c A env σ ss N R := by
  intro s₀ P₀ P s F Q E kn kr
  exact h P₀ P s (F.weaken hs) Q E kn kr

theorem ex_mono {ss : List Stmt} {N' : Sto → Prop} {R' : D → Prop} (h : Ex c A env σ ss N R) (hN : ∀ σ, N σ → N' σ) (hR : ∀ d, R d → R' d) : Ex c A env σ ss N' R' := by
  intro s₀ P₀ P s F Q E kn kr
  exact h P₀ P s F Q E (fun σ' P' h' tk n => kn σ' P' h' tk (hN _ n)) fun d v P' h' tk r => kr d v P' h' tk (hR _ r)

theorem ex_seq {st : Stmt} {N1 : Sto → Prop} (h1 : ∀ (s₀ : Shared) (P₀ P : Facts) (s : Shared), Frm c env s₀ P₀ σ P s → ∀ (Q : Flow → Shared → Prop) (E : Value → Shared → Prop),
    (∀ σ' P' h' tk, N1 σ' → (∀ a o, P a o → P' a o) → Frm c env s₀ P₀ σ' P' { s with heap := h', toks := tk } → Q .next { s with heap := h', toks := tk }) →
    (∀ d v P' h' tk, R d → (∀ a o, P a o → P' a o) → Frm c env s₀ P₀ [] P' { s with heap := h', toks := tk } → Rep c P' v d → Q (.ret v) { s with heap := h', toks := tk }) →
    wpAny c.M A (exec st env) Q E s) (h2 : ∀ σ', N1 σ' → Ex c A env σ' rest N R) : Ex c A env σ (st :: rest) N R := by
  intro s₀ P₀ P s F Q E kn kr
  refine wpAny_execs_cons (h1 s₀ P₀ P s F _ E (fun σ' P' h' tk n sub F' => ?_) fun d v P' h' tk r sub F' Rv => kr d v P' h' tk r sub F' Rv)
  exact h2 σ' n P₀ P' _ F' Q E (fun σ2 P2 h2 tk2 n2 sub2 F2 => kn σ2 P2 h2 tk2 n2 (fun a o e => sub2 a o (sub a o e)) F2)
    fun d v P2 h2 tk2 r sub2 F2 Rv => kr d v P2 h2 tk2 r (fun a o e => sub2 a o (sub a o e)) F2 Rv

theorem ex_assign {x : String} {e : Expr} {p pos : Pos} {d : D} {σ' : Sto} (he : Ev c A env σ e d) (hx : StoreOk env x) (hσ : set σ x (.val d) = σ') (h : Ex c A env σ' rest N R)
    (hs : swapsWith e (some (.Name (Str.ofString x) p)) pos.line env = pure false := by rfl) : Ex c A env σ (.Assign [.Name (Str.ofString x) p] e pos :: rest) N R := by
  subst hσ
  refine ex_seq (N1 := fun σ' => σ' = set σ x (.val d)) (fun s₀ P₀ P s F Q E kn kr => ?_) (fun σ' e => e ▸ h)
  refine wpAny_Assign_Name (he.val F.good fun v h1 t1 P1 S1 G1 R1 => ?_) hs
  exact (F.step S1).store (u := .val d) hx R1 fun h' tk F' => kn _ P1 h' tk rfl S1.sub F'

noncomputable def EvF (c : Cx) (A : Around) (env : Env) (σ : Sto) (e : Expr) (d : D) : Prop :=
  ∀ ⦃P : Facts⦄ (s : Shared), Good c env σ P s → ∀ (Q : Value → Shared → Prop) (E : Value → Shared → Prop),
    (∀ a h' tk P', Step P P' s.heap h' → s.heap.get? a = none → (∀ o, ¬ P' a o) → OwnObj c P' h' a d → Q (.ref a) { s with heap := h', toks := tk }) → wpAny c.M A (eval e env) Q E s

theorem Frm.ownSlot {s₀ : Shared} {P₀ P P' : Facts} {s : Shared} {h' : Heap} {tk : Nat} (F : Frm c env s₀ P₀ σ P s) (S : Step P P' s.heap h') {a : Addr} {d : D} {x : String} (ha : s.heap.get? a = none) (hP : ∀ o, ¬ P' a o) (O : OwnObj c P' h' a d) :
    SlotIs c env s₀ P' { s with heap := h', toks := tk } σ x (.ref a) (.own d) := by
  refine ⟨a, rfl, hP, O, ?_, ?_, fun y d' hy hm b V e => ?_⟩
  · cases z : s₀.heap.get? a with
    | none => rfl
    | some o => rw [F.keep a o z] at ha; cases ha
  · rintro rfl
    obtain ⟨m, oo, es, ep, ho, _⟩ := F.ns
    rw [ho] at ha; cases ha
  · obtain ⟨b', V', _, O'⟩ := F.good.owns y d' hm
    obtain rfl := Value.ref.inj (V.det (V'.keeps S.ext))
    subst e
    obtain ⟨o, ho, _⟩ := O'.some
    rw [ho] at ha; cases ha

theorem ex_assign_own {x : String} {e : Expr} {p pos : Pos} {d : D} {σ' : Sto} (he : EvF c A env σ e d) (hx : StoreOk env x) (hσ : set σ x (.own d) = σ') (h : Ex c A env σ' rest N R)
    (hs : swapsWith e (some (.Name (Str.ofString x) p)) pos.line env = pure false := by rfl) : Ex c A env σ (.Assign [.Name (Str.ofString x) p] e pos :: rest) N R := by
  subst hσ
  refine ex_seq (N1 := fun σ' => σ' = set σ x (.own d)) (fun s₀ P₀ P s F Q E kn kr => ?_) (fun σ' e => e ▸ h)
  refine wpAny_Assign_Name (he s F.good _ E fun a h1 t1 P1 S1 ha hP O => ?_) hs
  exact (F.step S1).store hx (F.ownSlot S1 ha hP O) fun h' tk F' => kn _ P1 h' tk rfl S1.sub F'

theorem ex_aug {x : String} {e : Expr} {op : Operator} {p pos : Pos} {a b d : D} {σ' : Sto} (hv : (x, Slot.val a) ∈ σ) (he : Ev c A env σ e b) (H : Op2 c A (inplaceOp op) a b d) (hx : StoreOk env x) (hσ : set σ x (.val d) = σ')
    (h : Ex c A env σ' rest N R) : Ex c A env σ (.AugAssign (.Name (Str.ofString x) p) op e pos :: rest) N R := by
  subst hσ
  refine ex_seq (N1 := fun σ' => σ' = set σ x (.val d)) (fun s₀ P₀ P s F Q E kn kr => ?_) (fun σ' e => e ▸ h)
  obtain ⟨v, V, Rv⟩ := F.good.vars _ _ hv
  have go : ∀ Q' : Value → Shared → Prop, Q' v s → wpAny c.M A (loadName env (Str.ofString x)) Q' E s := by
    intro Q' q
    rcases V with ⟨h1, m, h2, h3⟩ | ⟨h1, a, h2, h3⟩
    · exact wpAny_loadName_local F.good.eok.kind h1 h2 h3 q
    · exact wpAny_loadName_cell F.good.eok.kind h1 h2 h3 q
  refine wpAny_AugAssign_Name (go _ (he.val F.good fun u h1 t1 P1 S1 G1 R1 => H _ v u S1.ok (Rv.mono S1.sub) R1 _ E fun r h2 t2 P2 S2 R2 => ?_))
  exact (F.step (S1.trans S2)).store (u := .val d) hx R2 fun h' tk F' => kn _ P2 h' tk rfl (fun a o e => S2.sub _ _ (S1.sub _ _ e)) F'

theorem ex_return {e : Expr} {pos : Pos} {d : D} (he : Ev c A env σ e d) (hr : R d) : Ex c A env σ (.Return (some e) pos :: rest) N R := by
  refine ex_seq (N1 := fun _ => False) (fun s₀ P₀ P s F Q E kn kr => ?_) (fun σ' e => e.elim)
  refine wpAny_Return_some (he.val F.good fun v h1 t1 P1 S1 G1 R1 => ?_)
  exact kr d v P1 h1 t1 hr S1.sub ((F.step S1).weaken fun _ h => (nomatch h)) R1

theorem ex_if {t : Expr} {body orelse : List Stmt} {pos : Pos} {b : Bool} {N1 : Sto → Prop} (ht : EvT c A env σ t b) (h1 : b = true → Ex c A env σ body N1 R) (h2 : b = false → Ex c A env σ orelse N1 R)
    (h : ∀ σ', N1 σ' → Ex c A env σ' rest N R) : Ex c A env σ (.If t body orelse pos :: rest) N R := by
  refine ex_seq (N1 := N1) (fun s₀ P₀ P s F Q E kn kr => ?_) h
  refine wpAny_If (ht s F.good _ E fun h' tk P' S => ?_)
  have go : ∀ ss, Ex c A env σ ss N1 R → wpAny c.M A (execs ss env) Q E { s with heap := h', toks := tk } := fun ss hs =>
    hs P₀ P' _ (F.step S) Q E (fun σ' P2 h2 tk2 n sub F2 => kn σ' P2 h2 tk2 n (fun a o e => sub a o (S.sub a o e)) F2) fun d v P2 h2 tk2 r sub F2 Rv => kr d v P2 h2 tk2 r (fun a o e => sub a o (S.sub a o e)) F2 Rv
  cases b with
  | true => exact go _ (h1 rfl)
  | false => exact go _ (h2 rfl)
theorem ex_if_ret {t : Expr} {body : List Stmt} {pos : Pos} {b : Bool} (ht : EvT c A env σ t b) (h1 : b = true → Ex c A env σ body (fun _ => False) R) (h : b = false → Ex c A env σ rest N R) : Ex c A env σ (.If t body [] pos :: rest) N R :=
  ex_if (N1 := fun σ' => b = false ∧ σ' = σ) ht (fun e => ex_mono (h1 e) (fun _ f => f.elim) fun _ r => r) (fun e => ex_nil ⟨e, rfl⟩) fun σ' ⟨e, es⟩ => es ▸ h e

theorem ex_assert {t : Expr} {pos : Pos} (ht : EvT c A env σ t true) (h : Ex c A env σ rest N R) : Ex c A env σ (.Assert t none pos :: rest) N R := by
  refine ex_seq (N1 := fun σ' => σ' = σ) (fun s₀ P₀ P s F Q E kn kr => ?_) (fun σ' e => e ▸ h)
  exact wpAny_Assert_holds (ht s F.good _ E fun h' tk P' S => ⟨rfl, kn _ P' h' tk rfl S.sub (F.step S)⟩)

theorem aio_cons {t : Value → Sem Unit} {ts : List (Value → Sem Unit)} {v : Value} {vs : List Value} {s : Shared} {Q : Unit → Shared → Prop} {E : Value → Shared → Prop} {M : Model}
    (h : wpAny M A (t v) (fun _ s' => wpAny M A (assignInOrder ts vs) Q E s') E s) : wpAny M A (assignInOrder (t :: ts) (v :: vs)) Q E s := by
  show wpAny M A (do holding vs (t v); assignInOrder ts vs) Q E s
  exact wpAny_bind (wpAny_holding h)
theorem aio_nil {s : Shared} {Q : Unit → Shared → Prop} {E : Value → Shared → Prop} {M : Model} (h : Q () s) : wpAny M A (assignInOrder [] []) Q E s := wpAny_pure h

noncomputable def setAll : Sto → List String → List D → Sto
  | σ, x :: xs, d :: ds => setAll (set σ x (.val d)) xs ds
  | σ, _, _ => σ

noncomputable def Stores (c : Cx) (A : Around) (env : Env) (t : Value → Sem Unit) (x : String) : Prop :=
  ∀ (v : Value) (s : Shared) (Q : Unit → Shared → Prop) (E : Value → Shared → Prop), wpAny c.M A (storeName env (Str.ofString x) v) Q E s → wpAny c.M A (t v) Q E s

inductive StoresAll (c : Cx) (A : Around) (env : Env) : List (Value → Sem Unit) → List String → Prop
  | nil : StoresAll c A env [] []
  | cons {t : Value → Sem Unit} {ts : List (Value → Sem Unit)} {x : String} {xs : List String} : Stores c A env t x → StoreOk env x → StoresAll c A env ts xs → StoresAll c A env (t :: ts) (x :: xs)

theorem storeAll {s₀ : Shared} {P₀ P : Facts} : ∀ {ts : List (Value → Sem Unit)} {xs : List String} {vs : List Value} {ds : List D} {σ : Sto} {s : Shared}, StoresAll c A env ts xs → RepL c P vs ds → xs.length = ds.length → Frm c env s₀ P₀ σ P s →
    ∀ {Q : Unit → Shared → Prop} {E : Value → Shared → Prop}, (∀ h' tk, Frm c env s₀ P₀ (setAll σ xs ds) P { s with heap := h', toks := tk } → Q () { s with heap := h', toks := tk }) → wpAny c.M A (assignInOrder ts vs) Q E s := by
  intro ts xs vs ds σ s h
  induction h generalizing vs ds σ s with
  | nil =>
    intro RL hl F Q E k
    cases ds with
    | nil => obtain rfl := RL.nil_inv; exact aio_nil (k s.heap s.toks F)
    | cons => cases hl
  | cons ht hx r ih =>
    intro RL hl F Q E k
    cases ds with
    | nil => cases hl
    | cons d ds =>
      have hInv := RL.cons_inv; clear RL; obtain ⟨_, _, rfl, Rv, RL⟩ := hInv
      refine aio_cons (ht _ _ _ _ (F.store (u := .val _) hx Rv fun h' tk F' => ?_))
      exact ih RL (Nat.succ.inj hl) F' fun h2 tk2 F2 => k h2 tk2 F2

theorem stores_bind {x : String} : Stores c A env (bindName env (Str.ofString x)) x := fun _ _ _ _ h => wpAny_bindName h
theorem stores_name {x : String} {p : Pos} : Stores c A env (assign (.Name (Str.ofString x) p) env) x := fun _ _ _ _ h => wpAny_assign_Name h

theorem unpack_tup {P : Facts} {s : Shared} {v : Value} {ds : List D} (ok : ∀ a o, P a o → s.heap.get? a = some o) (R : Rep c P v (.tup ds)) (hh : A.handled = none) {n : Nat} (hn : n = ds.length) {Q : List Value → Shared → Prop} {E : Value → Shared → Prop}
    (k : ∀ vs h', Step P P s.heap h' → RepL c P vs ds → Q vs { s with heap := h' }) : wpAny c.M A (unpackItems v n none) Q E s := by
  obtain ⟨a, vs, m, rfl, hp, RL⟩ := R.tup_inv
  have hl := ok _ _ hp
  have e : n = vs.toArray.size := by rw [hn, List.size_toArray, RL.length]
  rw [e]
  refine wpAny_unpackItems_tuple hh ⟨_, hl, rfl, m, rfl⟩ fun h' he => ?_
  refine k vs h' (Step.heap ok fun b o eb => he b o (fun q => ?_) eb) RL
  exact absurd (Heap.lt_size eb) (by rw [q]; exact Nat.lt_irrefl _)

theorem RepL.reverse {P : Facts} {vs : List Value} {ds : List D} (h : RepL c P vs ds) : RepL c P vs.reverse ds.reverse := by
  induction vs generalizing ds with
  | nil => cases h; exact .nil
  | cons v vs ih =>
    cases h with
    | cons h r => rw [List.reverse_cons, List.reverse_cons]; exact (ih r).append (.one h)

theorem ex_assign_swap {names : List Str} {xs : List String} {elts : List Expr} {k : Nat} {tp pos : Pos} {e : Expr} {ds : List D} {σ' : Sto} (he : Ev c A env σ e (.tup ds)) (hh : A.handled = none) (hw : swappedStores [.Tuple elts k tp] e env = pure (some names))
    (hst : StoresAll c A env (names.reverse.map fun n => bindName env n) xs) (hn : names.length = ds.length) (hx : xs.length = ds.length)
    (hσ : setAll σ xs ds.reverse = σ') (h : Ex c A env σ' rest N R)
    (hs : swapsWithSole [.Tuple elts k tp] e pos.line env = pure false := by rfl)  :
    Ex c A env σ (.Assign [.Tuple elts k tp] e pos :: rest) N R := by
  subst hσ
  refine ex_seq (N1 := fun σ' => σ' = setAll σ xs ds.reverse) (fun s₀ P₀ P s F Q E kn kr => ?_) (fun σ' e => e ▸ h)
  refine Assign_Tuple_swapped (he.val F.good fun v h1 t1 P1 S1 G1 R1 => ?_) hs hw
  refine unpack_tup S1.ok R1 hh hn fun vs h2 S2 RL => ?_
  exact storeAll hst RL.reverse (by rw [List.length_reverse]; exact hx) (F.step (S1.trans S2)) fun h' tk F' => kn _ P1 h' tk rfl S1.sub F'
end
end
section

theorem mem_del_of {σ : Sto} {x y : String} {u : Slot} (hy : y ≠ x) : (y, u) ∈ σ → (y, u) ∈ del σ x := by
  induction σ with
  | nil => intro h; cases h
  | cons p r ih =>
    obtain ⟨z, w⟩ := p
    intro h
    unfold del
    split
    · rename_i hz
      rcases List.mem_cons.mp h with e | h
      · cases e; exact absurd hz hy
      · exact ih h
    · rcases List.mem_cons.mp h with e | h
      · cases e; exact .head _
      · exact .tail _ (ih h)

section
variable {c : Cx} {A : Around} {env : Env} {s₀ : Shared} {P₀ : Facts} {σ : Sto} {P : Facts} {s : Shared} {N : Sto → Prop} {R : D → Prop} {rest : List Stmt}

theorem Frm.put (F : Frm c env s₀ P₀ (del σ x) P s) {v : Value} {u : Slot} (hvx : VarIs env s.heap (Str.ofString x) v) (hu : SlotIs c env s₀ P s (del σ x) x v u) : Frm c env s₀ P₀ (set σ x u) P s := by
  have mem : ∀ {y w}, (y, w) ∈ set σ x u → (y = x ∧ w = u) ∨ (y ≠ x ∧ (y, w) ∈ del σ x) := fun h => (mem_set h).imp id fun ⟨h1, h2⟩ => ⟨h1, mem_del_of h1 h2⟩
  refine ⟨⟨F.good.eok, F.good.tops, F.good.ok, fun y d hy => ?_, fun y d hy => ?_⟩, F.top0, F.same, F.ok0, F.keep, F.sub0, F.new0, F.ns, F.loc0, F.locP, F.cell, F.apart, fun y d a hy V => ?_, fun y z d d' a hy hz Vy Vz => ?_⟩
  · rcases mem hy with ⟨rfl, e⟩ | ⟨hne, hm⟩
    · subst e; exact ⟨v, hvx, hu⟩
    · exact F.good.vars y d hm
  · rcases mem hy with ⟨rfl, e⟩ | ⟨hne, hm⟩
    · subst e
      obtain ⟨a, rfl, h1, h2, h3, h4, h5⟩ := hu
      exact ⟨a, hvx, h1, h2⟩
    · exact F.good.owns y d hm
  · rcases mem hy with ⟨rfl, e⟩ | ⟨hne, hm⟩
    · subst e
      obtain ⟨a', rfl, h1, h2, h3, h4, h5⟩ := hu
      obtain rfl := Value.ref.inj (V.det hvx)
      exact ⟨h3, h4⟩
    · exact F.ownF y d a hm V
  · rcases mem hy with ⟨rfl, e⟩ | ⟨hne, hm⟩ <;> rcases mem hz with ⟨rfl, e'⟩ | ⟨hne', hm'⟩
    · rfl
    · subst e
      obtain ⟨a', rfl, h1, h2, h3, h4, h5⟩ := hu
      obtain rfl := Value.ref.inj (Vy.det hvx)
      exact absurd rfl (h5 z d' hne' hm' _ Vz)
    · subst e'
      obtain ⟨a', rfl, h1, h2, h3, h4, h5⟩ := hu
      obtain rfl := Value.ref.inj (Vz.det hvx)
      exact absurd rfl (h5 y d hne hm _ Vy)
    · exact F.ownA y z d d' a hm hm' Vy Vz

theorem del_sub {x : String} : ∀ p ∈ del σ x, p ∈ σ := fun ⟨_, _⟩ h => (mem_del h).2

theorem cell_ne_data {h : Heap} {a b : Addr} {v : Option Value} {d : D} (hc : h.IsCell a v) (O : OwnObj c P h b d) : a ≠ b := by
  rintro rfl
  obtain ⟨o, ho, hd⟩ := O.some
  obtain ⟨o', ho', hd'⟩ := hc
  rw [ho'] at ho; cases ho
  rcases hd with ⟨vs, n, rfl⟩ | ⟨vs, n, rfl⟩ | ⟨vs, n, rfl⟩ <;> cases hd'

theorem Frm.mutate (F : Frm c env s₀ P₀ σ P s) {x : String} {d d' : D} {a : Addr} (hx : (x, Slot.own d) ∈ σ) (V : VarIs env s.heap (Str.ofString x) (.ref a)) {h' : Heap} {tk : Nat} (sb : ∀ b o, b ≠ a → s.heap.get? b = some o → h'.get? b = some o) (O : OwnObj c P h' a d') :
    Frm c env s₀ P₀ (set σ x (.own d')) P { s with heap := h', toks := tk } := by
  obtain ⟨a', V', hnP, O'⟩ := F.good.owns x d hx
  obtain rfl := Value.ref.inj (V.det V')
  obtain ⟨ha0, haL⟩ := F.ownF x d a hx V
  have hcell : ∀ y b, env.cells.lookup y = some b → b ≠ a := fun y b hy => by
    obtain ⟨⟨w, hw⟩, _⟩ := F.cell y b hy
    exact cell_ne_data hw O'
  have F1 := (F.weaken (del_sub (x := x))).poke (I := a) (P' := P) (h' := h') (tk := tk) ha0 haL hcell
    (fun y d2 b hy W e => (mem_del hy).1 (by subst e; exact F.ownA y x d2 d b (mem_del hy).2 hx W V))
    (fun _ _ _ e => e) F.sub0 (fun b o e => sb b o (fun q => hnP o (q ▸ e)) (F.good.ok b o e)) (fun _ _ e => .inl e) sb
  refine F1.put (v := .ref a) ?_ ⟨a, rfl, hnP, O, ha0, haL, fun y d2 hy hm b W e => ?_⟩
  · rcases V with ⟨h1, m, h2, h3⟩ | ⟨h1, b, h2, h3⟩
    · exact .inl ⟨h1, m, h2.at' fun o e => sb _ o (fun q => haL q.symm) e, h3⟩
    · obtain ⟨o, ho, hd⟩ := h3
      exact .inr ⟨h1, b, h2, o, sb _ o (hcell _ _ h2) ho, hd⟩
  · subst e
    obtain ⟨b', W', _, _⟩ := F.good.owns y d2 (mem_del hm).2
    have W2 : VarIs env h' (Str.ofString y) (.ref b') := by
      rcases W' with ⟨h1, m, h2, h3⟩ | ⟨h1, b, h2, h3⟩
      · exact .inl ⟨h1, m, h2.at' fun o e => sb _ o (fun q => haL q.symm) e, h3⟩
      · obtain ⟨o, ho, hd⟩ := h3
        exact .inr ⟨h1, b, h2, o, sb _ o (hcell _ _ h2) ho, hd⟩
    obtain rfl := Value.ref.inj (W.det W2)
    exact hy (F.ownA y x d2 d _ (mem_del hm).2 hx W' V)

theorem Frm.freeze (F : Frm c env s₀ P₀ σ P s) {x : String} {d : D} (hx : (x, Slot.own d) ∈ σ) : ∃ P', (∀ a o, P a o → P' a o) ∧ Frm c env s₀ P₀ (set σ x (.val d)) P' s := by
  obtain ⟨a, V, hnP, O⟩ := F.good.owns x d hx
  obtain ⟨ha0, haL⟩ := F.ownF x d a hx V
  obtain ⟨o, ho, hd⟩ := O.some
  have hcell : ∀ y b, env.cells.lookup y = some b → b ≠ a := fun y b hy => by
    obtain ⟨⟨w, hw⟩, _⟩ := F.cell y b hy
    exact cell_ne_data hw O
  have F1 := (F.weaken (del_sub (x := x))).poke (I := a) (P' := fun b q => P b q ∨ (b = a ∧ q = o)) (h' := s.heap) (tk := s.toks) ha0 haL hcell
    (fun y d2 b hy W e => (mem_del hy).1 (by subst e; exact F.ownA y x d2 d b (mem_del hy).2 hx W V))
    (fun _ _ _ e => .inl e) (fun _ _ e => .inl (F.sub0 _ _ e)) (fun b q e => by
      rcases e with e | ⟨rfl, rfl⟩
      · exact F.good.ok b q e
      · exact ho) (fun b q e => by
      rcases e with e | ⟨rfl, rfl⟩
      · exact .inl e
      · exact .inr ⟨rfl, ho⟩) (fun _ _ _ e => e)
  refine ⟨_, fun _ _ e => .inl e, F1.put (v := .ref a) V ?_⟩
  cases d with
  | list ds =>
    obtain ⟨vs, n, e, RL⟩ := O
    rw [ho] at e; cases e
    exact .list (.inr ⟨rfl, rfl⟩) (RL.mono fun _ _ e => .inl e)
  | dict kvs =>
    obtain ⟨hne, vs, n, e, RL⟩ := O
    rw [ho] at e; cases e
    exact .dict hne (.inr ⟨rfl, rfl⟩) (RL.mono fun _ _ e => .inl e)
  | _ => exact O.elim

theorem ex_freeze {x : String} {d : D} {ss : List Stmt} {σ' : Sto} (hx : (x, Slot.own d) ∈ σ) (hσ : set σ x (.val d) = σ') (h : Ex c A env σ' ss N R) : Ex c A env σ ss N R := by
  subst hσ
  intro s₀ P₀ P s F Q E kn kr
  obtain ⟨P', hsub, F'⟩ := F.freeze hx
  exact h P₀ P' s F' Q E (fun σ' P2 h2 tk2 n sub F2 => kn σ' P2 h2 tk2 n (fun a o e => sub a o (hsub a o e)) F2) fun d v P2 h2 tk2 r sub F2 Rv => kr d v P2 h2 tk2 r (fun a o e => sub a o (hsub a o e)) F2 Rv

theorem load_own {x : String} {p : Pos} {v : Value} (G : Good c env σ P s) (V : VarIs env s.heap (Str.ofString x) v) (hd : ((Str.ofString x) == ("__debug__" : Str)) = false) {Q : Value → Shared → Prop} {E : Value → Shared → Prop} (q : Q v s) :
    wpAny c.M A (eval (.Name (Str.ofString x) p) env) Q E s := by
  refine wpAny_Name ?_ hd
  rcases V with ⟨h1, m, h2, h3⟩ | ⟨h1, a, h2, h3⟩
  · exact wpAny_loadName_local G.eok.kind h1 h2 h3 q
  · exact wpAny_loadName_cell G.eok.kind h1 h2 h3 q

theorem ex_append {x : String} {e : Expr} {p1 apos cpos pos : Pos} {ds : List D} {d : D} {σ' : Sto} (hx : (x, Slot.own (.list ds)) ∈ σ) (he : Ev c A env σ e d) (hlen : ds.length < sizeLine)
    (hσ : set σ x (.own (.list (ds ++ [d]))) = σ') (h : Ex c A env σ' rest N R)
    (hd : ((Str.ofString x) == ("__debug__" : Str)) = false := by decide +kernel)
    (hst : starEach [e] env = [(false, eval e env)] := by rfl) (hline : (apos.endLine == cpos.line) = true := by rfl) (hi : interactive env = false := by rfl)
    (hsw : swapsWith (.Call (.Attribute (.Name (Str.ofString x) p1) (Str.ofString "append") apos) [e] [] cpos) none pos.line env = pure false := by rfl) :
    Ex c A env σ (.Expr (.Call (.Attribute (.Name (Str.ofString x) p1) (Str.ofString "append") apos) [e] [] cpos) pos :: rest) N R := by
  subst hσ
  refine ex_seq (N1 := fun σ' => σ' = set σ x (.own (.list (ds ++ [d])))) (fun s₀ P₀ P s F Q E kn kr => ?_) (fun σ' e => e ▸ h)
  obtain ⟨a, V, hnP, O⟩ := F.good.owns _ _ hx
  rw [exec_Expr env _ pos hi hsw]
  refine wpAny_bind (wpAny_standAt (wpAny_bind ?_))
  refine wpAny_Call_method (T := "list") (id := "list.append") rfl (by rw [hst]; rfl) hline PySem.F.plainAttrs_list slot_list_append type_list_append (load_own F.good V hd ?_)
  obtain ⟨vs, n, ho, RL⟩ := O
  have hl : s.heap.PlainList a vs.toArray := ⟨n, ho⟩
  refine ⟨hl.isList.typeIs, fun b e => by cases e; exact ⟨_, ho, rfl⟩, Calls.callWith_builtin (by rw [hst]; rfl) ?_⟩
  refine evalArgs_L (evl_cons he evl_nil hst) (.inr ⟨_, _, hst⟩) F.good fun us h1 t1 P1 S1 G1 R1 => ?_
  have hInv := R1.cons_inv; clear R1; obtain ⟨_, _, rfl, Ru, R1⟩ := hInv
  obtain rfl := R1.nil_inv; clear R1
  have ho1 : h1.get? a = some (listO vs n) := S1.ext _ _ ho
  refine wpAny_list_append_plain (hsz := by rw [List.size_toArray, RL.length]; (first | lia | omega)) (⟨n, ho1⟩ : Heap.PlainList h1 a vs.toArray) fun h2 hl2 hs2 => ?_
  refine wpAny_dropValue ?_
  obtain ⟨n2, ho2⟩ := hl2
  have F1 := F.step (tk := t1) S1
  refine kn _ P1 h2 t1 rfl S1.sub (F1.mutate (a := a) hx (V.keeps S1.ext) (fun b o hb e => hs2.extBut b o hb e) ⟨vs ++ [_], n2, ?_, (RL.mono S1.sub).append (.one Ru)⟩)
  rw [ho2]; simp
end
end
section

noncomputable def ownedIters : List String := ["enumerate", "zip", "dict_itemiterator", "dict_reverseitemiterator", "odict_iterator", "itertools.zip_longest", "itertools.pairwise"]

structure It (c : Cx) (A : Around) (P : Facts) (ds : List D) (I : Addr) (fp : List Addr) (Pv : Nat → Value → Prop) (St : Nat → Heap → Prop) : Prop where
  walks : Walks c.prog c.w A I fp [I] ds.length Pv St
  rep : ∀ i v, i < ds.length → Pv i v → ∃ d, ds[i]? = some d ∧ Rep c P v d
  fps : ∀ b ∈ fp, b = I ∨ ∃ o, P b o
  self : I ∈ fp
  live : ∀ i h, St i h → ∃ o n, h.get? I = some o ∧ ¬ IsData o ∧ o.cls = .type n ∧ n ∉ ownedIters

noncomputable def PyI (c : Cx) (A : Around) (P : Facts) (x : Value) (ds : List D) : Prop :=
  ∀ (s : Shared), (∀ a o, P a o → s.heap.get? a = some o) → ∀ (Q : Value → Shared → Prop) (E : Value → Shared → Prop),
    (∀ I fp Pv St h' tk, It c A P ds I fp Pv St → s.heap.get? I = none → (∀ b o, s.heap.get? b = some o → h'.get? b = some o) → St 0 h' → Q (.ref I) { s with heap := h', toks := tk }) → wpAny c.M A (pyIter x) Q E s

noncomputable def EvI (c : Cx) (A : Around) (env : Env) (σ : Sto) (e : Expr) (ds : List D) : Prop :=
  ∀ ⦃P : Facts⦄ (s : Shared), Good c env σ P s → ∀ (Q : Value → Shared → Prop) (E : Value → Shared → Prop),
    (∀ x h' tk P', Step P P' s.heap h' → PyI c A P' x ds → Q x { s with heap := h', toks := tk }) → wpAny c.M A (eval e env) Q E s

section
variable {c : Cx} {A : Around} {env : Env} {σ : Sto}

theorem fresh_none (h : Heap) : h.get? h.objs.size = none := by
  cases z : h.get? h.objs.size with
  | none => rfl
  | some o' => exact absurd (Heap.lt_size z) (Nat.lt_irrefl _)
theorem fields_not_data {cls : Value} {vs : Array Value} : ¬ IsData { cls := cls, dict := none, data := .fields vs, slots := #[] } := by
  rintro (⟨_, _, h⟩ | ⟨_, _, h⟩ | ⟨_, _, h⟩) <;> cases h
theorem fields_not_data' {o : Obj} {vs : Array Value} (h : o.data = .fields vs) : ¬ IsData o := by
  rintro (⟨_, _, rfl⟩ | ⟨_, _, rfl⟩ | ⟨_, _, rfl⟩) <;> cases h

theorem pyI_list {P : Facts} {x : Value} {ds : List D} (hh : A.handled = none) (R : Rep c P x (.list ds)) : PyI c A P x ds := by
  intro s ok Q E k
  obtain ⟨a, vs, n, rfl, hp, RL⟩ := R.list_inv
  have hl := isList_of ok hp
  refine wpAny_pyIter_list hl ?_
  have hne : a ≠ s.heap.objs.size := by
    intro e; have := ok _ _ hp; rw [e, fresh_none] at this; cases this
  have W := Walks.list (prog := c.prog) (w := c.w) hh s.heap.objs.size a hne vs.toArray
  rw [show vs.toArray.size = ds.length from by rw [List.size_toArray, RL.length]] at W
  refine k _ _ _ _ _ s.toks ⟨W, fun i v _ hv => ?_, fun b hb => ?_, by simp, fun i h st => ?_⟩ (fresh_none _) (fun b o e => Heap.get?_push_of_some _ e) ⟨⟨_, Heap.get?_push_size _ rfl, rfl, rfl⟩, hl.push _⟩
  · exact RL.get' (by simpa using hv)
  · rcases List.mem_cons.mp hb with e | hb
    · exact .inl e
    · rw [List.mem_singleton.mp hb]; exact .inr ⟨_, hp⟩
  · obtain ⟨⟨o, ho, hc, hd⟩, _⟩ := st
    exact ⟨o, _, ho, fields_not_data' hd, hc, by decide⟩

theorem evi_list {e : Expr} {ds : List D} (hh : A.handled = none) (h : Ev c A env σ e (.list ds)) : EvI c A env σ e ds := by
  intro P s G Q E k
  exact h s G Q E fun v h' tk P' S R => k v h' tk P' S (pyI_list hh R)
theorem letgo_ok {target : Expr} {I : Addr} {v : Value} {s : Shared} {o : Obj} {n : String} (ho : s.heap.get? I = some o) (hc : o.cls = .type n) (hn : n ∉ ownedIters) {Q : Unit → Shared → Prop} {E : Value → Shared → Prop} (q : Q () s) :
    wpAny c.M A (letOwnedTupleGo target (.ref I) v) Q E s := by
  have go : wpAny c.M A (do
    let (.ref r, .ref a) := (Value.ref I, v) | return
    let o ← load r
    match o.cls, o.data with
    | .type n, .fields vs =>
      if ["enumerate", "zip", "dict_itemiterator", "dict_reverseitemiterator", "odict_iterator", "itertools.zip_longest", "itertools.pairwise"].contains n && vs[0]? == some (rawInt a) then
        rule "for.unpacks-the-owned-tuple"
        updateField r 0 .none
    | _, _ => pure () : Sem Unit) Q E s := by
    cases v with
    | ref a =>
      refine wpAny_bind (wpAny_load ho ?_)
      rw [hc]
      cases hd : o.data with
      | fields vs =>
        dsimp only
        have : (["enumerate", "zip", "dict_itemiterator", "dict_reverseitemiterator", "odict_iterator", "itertools.zip_longest", "itertools.pairwise"].contains n) = false := by
          rw [Bool.eq_false_iff]; intro h; exact hn (List.contains_iff_mem.mp h)
        rw [this, Bool.false_and]
        exact wpAny_pure q
      | _ => exact wpAny_pure q
    | _ => exact wpAny_pure q
  cases target with
  | Tuple => exact go
  | List => exact go
  | _ => exact wpAny_pure q

noncomputable def Binds (c : Cx) (A : Around) (env : Env) (target : Expr) (d : D) (f : Sto → Sto) : Prop :=
  ∀ (σ : Sto) (s₀ : Shared) (P₀ P : Facts) (s : Shared) (v : Value), Frm c env s₀ P₀ σ P s → Rep c P v d → ∀ (Q : Unit → Shared → Prop) (E : Value → Shared → Prop),
    (∀ h' tk, Frm c env s₀ P₀ (f σ) P { s with heap := h', toks := tk } → Q () { s with heap := h', toks := tk }) → wpAny c.M A (assign target env v) Q E s

theorem binds_name {x : String} {p : Pos} {d : D} (hx : StoreOk env x) : Binds c A env (.Name (Str.ofString x) p) d (fun σ => set σ x (.val d)) := by
  intro σ s₀ P₀ P s v F R Q E k
  exact wpAny_assign_Name (F.store (u := .val d) hx R k)
theorem binds_tup {xs : List String} {elts : List Expr} {k : Nat} {tp : Pos} {ds : List D} (hh : A.handled = none) (hst : StoresAll c A env ((assignEach elts env).map (·.2)) xs) (hn : xs.length = ds.length)
    (hlen : (assignEach elts env).length = xs.length := by rfl) (hstar : (assignEach elts env).findIdx? (·.1) = none := by rfl) : Binds c A env (.Tuple elts k tp) (.tup ds) (fun σ => setAll σ xs ds) := by
  intro σ s₀ P₀ P s v F R Q E q
  show wpAny c.M A (do standAt tp; unpack v (assignEach elts env)) Q E _
  refine wpAny_bind (wpAny_standAt ?_)
  unfold unpack
  rw [hstar, hlen]
  refine wpAny_bind (wpAny_holding (unpack_tup F.good.ok R hh hn fun vs h2 S2 RL => ?_))
  exact storeAll hst RL hn (F.step (tk := s.toks) S2) fun h' tk F' => q h' tk F'

end
end
section

section
variable {c : Cx} {A : Around} {env : Env} {σ : Sto} {N : Sto → Prop} {R : D → Prop} {rest : List Stmt}

theorem ex_end {σ' : Sto} (hs : ∀ p ∈ σ', p ∈ σ) (h : N σ') : Ex c A env σ [] N R := ex_weaken hs (ex_nil h)

theorem exec_For (target iter body orelse pos) : exec (.For target iter body orelse pos) env = (do
    standAt pos
    let x ← foldedSetIterable iter env (← eval iter env)
    standAt iter.pos
    runOwn (.forLoop target (← holding [x] (pyIter x)) body orelse env) env) := rfl

theorem Frm.lay {s₀ : Shared} {P₀ P : Facts} {s : Shared} (F : Frm c env s₀ P₀ σ P s) {I : Addr} {o : Obj} {h' : Heap} {tk : Nat} (hI : s.heap.get? I = none) (hext : ∀ b o, s.heap.get? b = some o → h'.get? b = some o) (ho : h'.get? I = some o) :
    Frm c env s₀ P₀ σ (fun a q => P a q ∨ (a = I ∧ q = o)) { s with heap := h', toks := tk } :=
  F.step (Step.more F.good.ok hext hI ho)

theorem Frm.turn {s₀ : Shared} {P₀ P : Facts} {s : Shared} (F : Frm c env s₀ P₀ σ P s) {I : Addr} {o o' : Obj} {h' : Heap} {tk : Nat} (hI0 : s₀.heap.get? I = none) (hP : P I o) (hd : ¬ IsData o)
    (hk : ∀ b q, b ≠ I → s.heap.get? b = some q → h'.get? b = some q) (ho : h'.get? I = some o') : Frm c env s₀ P₀ σ (fun a q => (P a q ∧ a ≠ I) ∨ (a = I ∧ q = o')) { s with heap := h', toks := tk } := by
  refine F.poke (I := I) hI0 (fun e => F.locP o (e ▸ hP)) (fun x a hx e => (F.cell x a hx).2.2.1 o (e ▸ hP)) (fun x d a hx V e => ?_) (fun a q hq e => ?_) (fun a q e => ?_) (fun a q e => ?_) (fun a q e => ?_) hk
  · obtain ⟨a', V', hn, _⟩ := F.good.owns x d hx
    obtain rfl := Value.ref.inj (V.det V')
    exact hn o (e ▸ hP)
  · refine .inl ⟨e, fun e' => ?_⟩
    subst e'
    have h1 := F.good.ok _ _ e
    rw [F.good.ok _ _ hP] at h1
    cases h1; exact hd hq
  · refine .inl ⟨F.sub0 a q e, fun e' => ?_⟩
    subst e'
    have := F.ok0 _ _ e
    rw [hI0] at this; cases this
  · rcases e with ⟨e, hne⟩ | ⟨rfl, rfl⟩
    · exact hk _ _ hne (F.good.ok _ _ e)
    · exact ho
  · rcases e with ⟨e, hne⟩ | ⟨rfl, rfl⟩
    · exact .inl e
    · exact .inr ⟨rfl, ho⟩
theorem Frm.over {s₀ : Shared} {P₀ P : Facts} {s : Shared} (F : Frm c env s₀ P₀ σ P s) {I : Addr} {o : Obj} {h' : Heap} {tk : Nat} (hI0 : s₀.heap.get? I = none) (hP : P I o) (hd : ¬ IsData o)
    (hk : ∀ b q, b ≠ I → s.heap.get? b = some q → h'.get? b = some q) : Frm c env s₀ P₀ σ (fun a q => P a q ∧ a ≠ I) { s with heap := h', toks := tk } := by
  refine F.poke (I := I) hI0 (fun e => F.locP o (e ▸ hP)) (fun x a hx e => (F.cell x a hx).2.2.1 o (e ▸ hP)) (fun x d a hx V e => ?_) (fun a q hq e => ?_) (fun a q e => ?_) (fun a q e => ?_) (fun a q e => .inl e.1) hk
  · obtain ⟨a', V', hn, _⟩ := F.good.owns x d hx
    obtain rfl := Value.ref.inj (V.det V')
    exact hn o (e ▸ hP)
  · refine ⟨e, fun e' => ?_⟩
    subst e'
    have h1 := F.good.ok _ _ e
    rw [F.good.ok _ _ hP] at h1
    cases h1; exact hd hq
  · refine ⟨F.sub0 a q e, fun e' => ?_⟩
    subst e'
    have := F.ok0 _ _ e
    rw [hI0] at this; cases this
  · exact hk _ _ e.2 (F.good.ok _ _ e.1)

structure ForJ (c : Cx) (env : Env) (s₀ : Shared) (P₀ P1 : Facts) (n : Nat) (J : Nat → Sto → Prop) (St : Nat → Heap → Prop) (I : Addr) (s : Shared) (k : Nat) (s' : Shared) (i : Nat) (σ' : Sto) (P' : Facts) (h' : Heap) (tk' : Nat) (o : Obj) : Prop where
  es : s' = { s with heap := h', toks := tk' }
  ek : k = n + 1 - i
  hi : i ≤ n
  hJ : J i σ'
  F' : Frm c env s₀ P₀ σ' P' s'
  hsub : ∀ a q, P1 a q → P' a q
  hPI : P' I o
  hdo : ¬ IsData o
  hst' : St i h'

theorem ex_for {target iter : Expr} {body : List Stmt} {pos : Pos} {ds : List D} (J : Nat → Sto → Prop) (f : D → Sto → Sto) (hiter : EvI c A env σ iter ds) (hbind : ∀ d ∈ ds, Binds c A env target d (f d)) (h0 : J 0 σ)
    (hbody : ∀ i d σ', ds[i]? = some d → J i σ' → Ex c A env (f d σ') body (J (i + 1)) R) (hrest : ∀ σ', J ds.length σ' → Ex c A env σ' rest N R)
    (hfold : ∀ x, foldedSetIterable iter env x = pure x := by intro _; rfl) : Ex c A env σ (.For target iter body [] pos :: rest) N R := by
  refine ex_seq (N1 := J ds.length) (fun s₀ P₀ P s F Q E kn kr => ?_) hrest
  rw [exec_For]
  refine wpAny_bind (wpAny_standAt (wpAny_bind (hiter s F.good _ E fun x h1 t1 P1 S1 hpy => ?_)))
  rw [hfold]
  refine wpAny_bind (wpAny_pure (wpAny_bind (wpAny_standAt (wpAny_bind (wpAny_holding (hpy _ S1.ok _ E fun I fp Pv St h2 t2 it hI hext hst => ?_))))))
  have F1 := F.step (tk := t1) S1
  have hI0 : s₀.heap.get? I = none := by
    cases z : s₀.heap.get? I with
    | none => rfl
    | some o => rw [F1.keep I o z] at hI; cases hI
  obtain ⟨oI, nI, hoI, hdI, hcI, hnI⟩ := it.live 0 h2 hst
  have F2 := F1.lay (tk := t2) hI hext hoI
  refine wpAny_runOwn (h := none) ?_
  show codeAny c.M A (.forLoop target (.ref I) body [] env) _ _
  refine codeAny_forLoop_any (fun k s' => ∃ i σ' P' h' tk' o, ForJ c env s₀ P₀ P1 ds.length J St I s k s' i σ' P' h' tk' o) ?_ (ds.length + 1)
    ⟨0, σ, _, h2, t2, oI, rfl, rfl, Nat.zero_le _, h0, F2, fun _ _ e => .inl e, .inr ⟨rfl, rfl⟩, hdI, hst⟩
  rintro k s' ⟨i, σ', P', h', tk', o, es, ek, hi, hJ, F', hsub, hPI, hdo, hst'⟩
  subst es; subst ek
  by_cases hlt : i < ds.length
  · refine it.walks.item i _ _ _ hlt hst' fun v h3 t3 hPv hst3 hk3 => ?_
    have hk3' : ∀ b q, b ≠ I → h'.get? b = some q → h3.get? b = some q := fun b q hb e => hk3 b q (by simpa using hb) e
    obtain ⟨o3, n3, ho3, hd3, hc3, hn3⟩ := it.live (i + 1) h3 hst3
    have F3 := F'.turn (tk := t3) hI0 hPI hdo hk3' ho3
    obtain ⟨d, hd, Rv⟩ := it.rep i v hlt hPv
    refine letgo_ok ho3 hc3 hn3 ?_
    have Rv3 : Rep c (fun a q => (P' a q ∧ a ≠ I) ∨ (a = I ∧ q = o3)) v d := by
      refine (Rv.mono hsub).only fun a q hq e => .inl ⟨e, fun e' => ?_⟩
      subst e'
      have h1 := F'.good.ok _ _ e
      rw [F'.good.ok _ _ hPI] at h1
      cases h1; exact hdo hq
    refine hbind d (List.mem_of_getElem? hd) σ' s₀ P₀ _ _ v F3 Rv3 _ _ fun h4 t4 F4 => ?_
    refine hbody i d σ' hd hJ P₀ _ _ F4 _ _ (fun σ5 P5 h5 t5 hJ5 hsub5 F5 => ?_) (fun d5 v5 P5 h5 t5 r5 hsub5 F5 R5 => ?_)
    · refine ⟨ds.length + 1 - (i + 1), by first | lia | omega, i + 1, σ5, P5, h5, t5, o3, rfl, rfl, hlt, hJ5, F5, fun a q e => ?_, hsub5 _ _ (.inr ⟨rfl, rfl⟩), hd3, ?_⟩
      · by_cases ha : a = I
        · subst ha
          exact absurd (S1.ok _ _ e) (by rw [hI]; intro h; cases h)
        · exact hsub5 a q (.inl ⟨hsub a q e, ha⟩)
      · refine it.walks.frame _ _ _ hst3 fun b hb q e => ?_
        rcases it.fps b hb with rfl | ⟨qb, hqb⟩
        · rw [ho3] at e; cases e
          exact F5.good.ok _ _ (hsub5 _ _ (.inr ⟨rfl, rfl⟩))
        · have hbI : b ≠ I := by
            rintro rfl
            exact absurd (S1.ok _ _ hqb) (by rw [hI]; intro h; cases h)
          have e1 : h3.get? b = some qb := hk3' b qb hbI (F'.good.ok _ _ (hsub _ _ hqb))
          rw [e1] at e; cases e
          exact F5.good.ok _ _ (hsub5 _ _ (.inl ⟨hsub _ _ hqb, hbI⟩))
    · refine kr d5 v5 P5 h5 t5 r5 (fun a q e => hsub5 a q (.inl ⟨hsub _ _ (S1.sub _ _ e), ?_⟩)) F5 R5
      rintro rfl
      exact absurd (S1.ok _ _ (S1.sub _ _ e)) (by rw [hI]; intro h; cases h)
  · have hin : i = ds.length := by first | lia | omega
    subst hin
    refine it.walks.done _ _ _ hst' fun h3 t3 hk3 => wpAny_execs_nil ?_
    have hk3' : ∀ b q, b ≠ I → h'.get? b = some q → h3.get? b = some q := fun b q hb e => hk3 b q (by simpa using hb) e
    refine kn σ' _ h3 t3 hJ (fun a q e => ?_) (F'.over hI0 hPI hdo hk3')
    refine ⟨hsub _ _ (S1.sub _ _ e), ?_⟩
    rintro rfl
    exact absurd (S1.ok _ _ (S1.sub _ _ e)) (by rw [hI]; intro h; cases h)

end
end
section

noncomputable def rangeD (a st : Int) (n : Nat) : List D := (List.range n).map fun (k : Nat) => D.int (a + k * st)
theorem rangeD_length (a st : Int) (n : Nat) : (rangeD a st n).length = n := by simp [rangeD]
theorem rangeD_get {a st : Int} {n i : Nat} {d : D} (h : (rangeD a st n)[i]? = some d) : i < n ∧ d = .int (a + i * st) := by
  unfold rangeD at h
  rw [List.getElem?_map] at h
  by_cases hi : i < n
  · rw [List.getElem?_range hi] at h
    exact ⟨hi, (Option.some.inj h).symm⟩
  · rw [List.getElem?_eq_none (by simpa using hi)] at h; cases h

section
variable {c : Cx} {A : Around} {env : Env} {σ : Sto}

theorem pyI_range {P : Facts} (hh : A.handled = none) {a b st : Int} {t u v : Tok} {r : Addr} {n : Nat} (hP : P r { cls := .type "range", dict := none, data := .fields #[.int a t, .int b u, .int st v], slots := #[] })
    (hsm : Builtin.Range.small a b st = true) (hsz : Builtin.Range.rangeSize a b st = (n : Int)) : PyI c A P (.ref r) (rangeD a st n) := by
  intro s ok Q E k
  refine wpAny_pyIter_range (ok _ _ hP) hsm ?_
  have W := Walks.range (prog := c.prog) (w := c.w) hh s.heap.objs.size a st (rangeD a st n).length
  refine k _ _ _ _ _ s.toks ⟨W, fun i v hi hv => ?_, fun b hb => .inl (List.mem_singleton.mp hb), by simp, fun i h stt => ⟨_, _, stt, fields_not_data, rfl, by decide⟩⟩ (fresh_none _) (fun b o e => Heap.get?_push_of_some _ e) ?_
  · obtain ⟨t, rfl⟩ := hv
    refine ⟨.int (a + i * st), ?_, .int _ _⟩
    rw [rangeD_length] at hi
    unfold rangeD
    rw [List.getElem?_map, List.getElem?_range hi]; rfl
  · have e1 : (a + ((0 : Nat) : Int) * st) = a := by simp
    rw [e1]
    have : (((rangeD a st n).length : Nat) : Int) - ((0 : Nat) : Int) = Builtin.Range.rangeSize a b st := by rw [hsz, rangeD_length]; simp
    rw [this]
    exact Heap.get?_push_size _ rfl

theorem small_ok {a b st : Int} (ha : -1000000 ≤ a ∧ a ≤ 1000000) (hb : -1000000 ≤ b ∧ b ≤ 1000000) (hs : st = 1 ∨ st = -1) : Builtin.Range.small a b st = true := by
  rcases hs with rfl | rfl
  · exact small_one (by first | lia | omega) (by first | lia | omega) (by first | lia | omega) (by first | lia | omega)
  · unfold Builtin.Range.small Builtin.Range.rangeFitsLong Builtin.Range.rangeSize
    simp only [Int.reduceNeg, gt_iff_lt, Int.reduceLT, if_false, Bool.and_eq_true, decide_eq_true_eq, Bool.or_eq_true, beq_iff_eq]
    have r : ∀ x : Int, -10000000 ≤ x → x ≤ 10000000 → -2 ^ 63 ≤ x ∧ x < 2 ^ 63 := by intro x h1 h2; (first | lia | omega)
    split
    · exact ⟨⟨⟨⟨r a (by first | lia | omega) (by first | lia | omega), r b (by first | lia | omega) (by first | lia | omega)⟩, r (-1) (by decide) (by decide)⟩, r _ (by first | lia | omega) (by first | lia | omega)⟩, .inr (r _ (by first | lia | omega) (by first | lia | omega))⟩
    · exact ⟨⟨⟨⟨r a (by first | lia | omega) (by first | lia | omega), r b (by first | lia | omega) (by first | lia | omega)⟩, r (-1) (by decide) (by decide)⟩, r 0 (by decide) (by decide)⟩, .inl rfl⟩

theorem evi_range {es : List Expr} {np pos : Pos} {ds : List D} {a b st : Int} {n : Nat} (hh : A.handled = none) (hk : env.kindOf (Str.ofString "range") = some .globalImplicit) (hg : c.mg (Str.ofString "range") = none)
    (ha : EvL c A env σ pos es ds) (hds : ds = [.int b] ∧ a = 0 ∧ st = 1 ∨ ds = [.int a, .int b] ∧ st = 1 ∨ ds = [.int a, .int b, .int st] ∧ st = -1)
    (hA : -1000000 ≤ a ∧ a ≤ 1000000) (hB : -1000000 ≤ b ∧ b ≤ 1000000) (hn : (n : Int) = max 0 ((b - a) * st))
    (hne : starEach es env = [] ∨ ∃ x r, starEach es env = (false, x) :: r) (hpl : (backTo pos (starEach es env)).any (·.1) = false) :
    EvI c A env σ (.Call (.Name (Str.ofString "range") np) es [] pos) (rangeD a st n) := by
  intro P s G Q E k
  refine wpAny_Call_NameR (load_builtin G hk hg Boot.«range» (by decide +kernel) (by decide +kernel) (PySem.callWith_type hpl (evalArgs_L ha hne G fun vs h1 t1 P1 S1 G1 R1 => ?_)))
  have hst : st = 1 ∨ st = -1 := by rcases hds with ⟨_, _, h⟩ | ⟨_, h⟩ | ⟨_, h⟩ <;> (first | lia | omega)
  have hsz : Builtin.Range.rangeSize a b st = (n : Int) := by
    unfold Builtin.Range.rangeSize
    rcases hst with rfl | rfl
    · simp only [Int.reduceLT, gt_iff_lt, if_true, Int.ediv_one]
      split <;> (first | lia | omega)
    · simp only [Int.reduceNeg, gt_iff_lt, Int.reduceLT, if_false, Int.neg_neg, Int.ediv_one]
      split <;> (first | lia | omega)
  have fin : ∀ (t u v : Tok) (tk : Nat), Q (.ref h1.objs.size) { s with heap := h1.push { cls := .type "range", data := .fields #[.int a t, .int b u, .int st v] }, toks := tk } := by
    intro t u v tk
    have S2 := push_step (o := { cls := .type "range", dict := none, data := .fields #[.int a t, .int b u, .int st v], slots := #[] }) S1.ok
    exact k _ _ _ _ (S1.trans S2) (pyI_range hh (.inr ⟨rfl, rfl⟩) (small_ok hA hB hst) hsz)
  rcases hds with ⟨rfl, rfl, rfl⟩ | ⟨rfl, rfl⟩ | ⟨rfl, rfl⟩
  · have hInv := R1.cons_inv; clear R1; obtain ⟨_, _, rfl, Ra, R1⟩ := hInv
    obtain rfl := R1.nil_inv; clear R1; obtain ⟨_, rfl⟩ := Ra.int_inv
    exact call_range_1 (fin _ _ _ _)
  · have hInv := R1.cons_inv; clear R1; obtain ⟨_, _, rfl, Ra, R1⟩ := hInv
    have hInv := R1.cons_inv; clear R1; obtain ⟨_, _, rfl, Rb, R1⟩ := hInv
    obtain rfl := R1.nil_inv; clear R1; obtain ⟨_, rfl⟩ := Ra.int_inv; obtain ⟨_, rfl⟩ := Rb.int_inv
    exact call_range_2 (fin _ _ _ _)
  · have hInv := R1.cons_inv; clear R1; obtain ⟨_, _, rfl, Ra, R1⟩ := hInv
    have hInv := R1.cons_inv; clear R1; obtain ⟨_, _, rfl, Rb, R1⟩ := hInv
    have hInv := R1.cons_inv; clear R1; obtain ⟨_, _, rfl, Rc, R1⟩ := hInv
    obtain rfl := R1.nil_inv; clear R1; obtain ⟨_, rfl⟩ := Ra.int_inv; obtain ⟨_, rfl⟩ := Rb.int_inv; obtain ⟨_, rfl⟩ := Rc.int_inv
    refine call_range_3 (by first | lia | omega) (fin _ _ _ _) (.inl ?_)
    exact PyProof.noPylong_of_log2 (by decide +kernel)

theorem evi_range1 {e : Expr} {np pos : Pos} {b : Int} (hh : A.handled = none) (hk : env.kindOf (Str.ofString "range") = some .globalImplicit) (hg : c.mg (Str.ofString "range") = none) (he : Ev c A env σ e (.int b)) (hB : -1000000 ≤ b ∧ b ≤ 1000000)
    (hs : starEach [e] env = [(false, eval e env)] := by rfl) : EvI c A env σ (.Call (.Name (Str.ofString "range") np) [e] [] pos) (rangeD 0 1 b.toNat) :=
  evi_range (b := b) hh hk hg (evl_cons he evl_nil hs) (.inl ⟨rfl, rfl, rfl⟩) (by first | lia | omega) hB (by first | lia | omega) (.inr ⟨_, _, hs⟩) (by rw [hs]; rfl)
end
end
section

theorem Walks.bound {prog : Program} {w : World} {A : Around} {I : Addr} {fp wr : List Addr} {n : Nat} {P : Nat → Value → Prop} {St : Nat → Heap → Prop} (W : Walks prog w A I fp wr n P St) : Walks prog w A I fp wr n (fun i v => i < n ∧ P i v) St where
  sub := W.sub
  frame := W.frame
  item := fun i s Q E hi st hQ => W.item i s Q E hi st fun v h' tk hP => hQ v h' tk ⟨hi, hP⟩
  done := W.done
  self := W.self

noncomputable def Fun (P : Facts) : Prop := ∀ a o o', P a o → P a o' → o = o'

noncomputable def Det (c : Cx) (d : D) : Prop := ∀ (P : Facts), Fun P → ∀ v d', Rep c P v d → Rep c P v d' → d = d'
theorem det_int {c : Cx} (i : Int) : Det c (.int i) := by
  intro P hf v d' h h'
  obtain ⟨t, rfl⟩ := h.int_inv
  cases h'; rfl
theorem det_str {c : Cx} (l : List Nat) : Det c (.str l) := by
  intro P hf v d' h h'
  obtain ⟨t, rfl⟩ := h.str_inv
  generalize he : Value.str (S l) t = v at h'
  cases h' with
  | str l' t' => injection he with e1 e2; rw [S_inj.mp e1]
  | _ => cases he
theorem det_ints {c : Cx} (ns : List Int) : ∀ d ∈ ns.map D.int, Det c d := by
  intro d hd; obtain ⟨i, _, rfl⟩ := List.mem_map.mp hd; exact det_int i
theorem Good.func {c : Cx} {env : Env} {σ : Sto} {P : Facts} {s : Shared} (G : Good c env σ P s) : Fun P := fun a o o' h h' => by
  have := G.ok a o h; rw [G.ok a o' h'] at this; exact (Option.some.inj this).symm

noncomputable def Scalar : D → Prop
  | .none => True | .bool _ => True | .int _ => True | .str _ => True | _ => False
theorem Rep.scalar {c : Cx} {P P' : Facts} {v : Value} {d : D} (h : Rep c P v d) (hs : Scalar d) : Rep c P' v d := by
  cases h with
  | none => exact .none
  | bool => exact .bool _
  | int => exact .int _ _
  | str => exact .str _ _
  | tup | list | dict => exact hs.elim
end
section

noncomputable def EvIfs (c : Cx) (A : Around) (env : Env) (σ : Sto) (ifs : List Expr) (b : Bool) : Prop :=
  match ifs with
  | [] => b = true
  | [t] => EvT c A env σ t b
  | _ => False

structure Caps (env : Env) (scope : Scope) (cl : List (Str × Addr)) (x : String) (σ σc : Sto) : Prop where
  sub : ∀ p ∈ σc, p ∈ σ
  vals : ∀ y d, (y, Slot.own d) ∉ σc
  cell : ∀ p ∈ σc, env.kindOf (Str.ofString p.1) = some .cell ∧ (relabel scope env).names.lookup (Str.ofString p.1) = some .cell ∧ cl.lookup (Str.ofString p.1) = env.cells.lookup (Str.ofString p.1)

section
variable {c : Cx} {A : Around} {env : Env} {σ σc : Sto}

theorem paired_all {P P' : Facts} {ds : List D} {p : Value → Bool} {F : Value → Value → Prop} {pz : D → Bool} {g : D → D} (hp : ∀ v d, d ∈ ds → Rep c P v d → p v = pz d) (hF : ∀ v d y, d ∈ ds → Rep c P v d → F v y → Rep c P' y (g d)) :
    ∀ {vs ys : List Value} {es : List D}, (∀ d ∈ es, d ∈ ds) → RepL c P vs es → Paired F (vs.filter p) ys → RepL c P' ys ((es.filter pz).map g) := by
  intro vs
  induction vs with
  | nil => intro ys es _ R h; cases R; cases h; exact .nil
  | cons v vs ih =>
    intro ys es hm R h
    cases R with
    | @cons _ _ d es Rv RL =>
      rw [List.filter_cons] at h
      rw [List.filter_cons]
      cases hq : pz d with
      | false =>
        rw [hp v d (hm d (.head _)) Rv, hq] at h
        exact ih (fun e he => hm e (.tail _ he)) RL h
      | true =>
        rw [hp v d (hm d (.head _)) Rv, hq] at h
        simp only [if_true] at h ⊢
        cases h with
        | cons h1 h2 => exact .cons (hF v d _ (hm d (.head _)) Rv h1) (ih (fun e he => hm e (.tail _ he)) RL h2)

noncomputable def EvK (c : Cx) (A : Around) (env : Env) (σ : Sto) (e : Expr) (d : D) : Prop :=
  ∀ ⦃P : Facts⦄ (s : Shared), Good c env σ P s → ∀ (Q : Value → Shared → Prop) (E : Value → Shared → Prop),
    (∀ v h' tk, (∀ b o, s.heap.get? b = some o → h'.get? b = some o) → Rep c P v d → Q v { s with heap := h', toks := tk }) → wpAny c.M A (eval e env) Q E s
theorem evk_of_ev {e : Expr} {d : D} (h : Ev c A env σ e d) (hs : Scalar d) : EvK c A env σ e d := fun P s G Q E k =>
  h s G Q E fun v h' tk _ S R => k v h' tk S.ext (R.scalar hs)
theorem comp_core {scope : Scope} {cl : List (Str × Addr)} {x : String} {ifs : List Expr} {elt : Expr} {ds : List D} {pz : D → Bool} {g : D → D} {P : Facts} {s : Shared} (G : Good c env σ P s)
    (hkind : scope.kind = .function) (hx : scope.names.lookup (Str.ofString x) = some .local) (hcap : Caps env scope cl x σ σc)
    (hdet : ∀ d ∈ ds, Det c d)
    (htest : ∀ (C : Addr) (d : D), d ∈ ds → EvIfs c A (compEnvC scope cl C env) ((x, .val d) :: σc) ifs (pz d))
    (helt : ∀ (C : Addr) (d : D), d ∈ ds → pz d = true → EvK c A (compEnvC scope cl C env) ((x, .val d) :: σc) elt (g d))
    {I : Addr} {fp : List Addr} {Pv : Nat → Value → Prop} {St : Nat → Heap → Prop} {h2 : Heap} {t2 : Nat} (it : It c A P ds I fp Pv St) (hI : s.heap.get? I = none) (hext : ∀ b o, s.heap.get? b = some o → h2.get? b = some o) (hst : St 0 h2) :
    ∃ (p : Value → Bool) (F : Value → Value → Prop), (∀ v d, d ∈ ds → Rep c P v d → p v = pz d) ∧ (∀ v d y, d ∈ ds → Rep c P v d → F v y → Rep c P y (g d)) ∧
      QuietOnC c.prog c.w A env scope cl (Str.ofString x) ifs elt [I] (fun i v => i < ds.length ∧ Pv i v) p F { s with heap := h2, toks := t2 } := by
  classical
  have hfun := G.func
  have hpq : ∀ v d, d ∈ ds → Rep c P v d → decide (∃ d, d ∈ ds ∧ Rep c P v d ∧ pz d = true) = pz d := by
    intro v d hd R
    cases hq : pz d with
    | true => exact decide_eq_true ⟨d, hd, R, hq⟩
    | false =>
      refine decide_eq_false ?_
      rintro ⟨d', _, R', hq'⟩
      rw [hdet d hd P hfun v d' R R', hq'] at hq; cases hq
  refine ⟨fun v => decide (∃ d, d ∈ ds ∧ Rep c P v d ∧ pz d = true), fun v y => ∃ d ∈ ds, Rep c P v d ∧ Rep c P y (g d), hpq, ?_, ?_⟩
  · rintro v d y hd R ⟨d', _, R', h⟩
    rw [hdet d hd P hfun v d' R R']; exact h
  · have good : ∀ (C : Addr) (d : D) (v : Value) (s₃ : Shared) (m₃ : Str → Option Value), Rep c P v d → s₃.heap.Ns C m₃ → m₃ (Str.ofString x) = some v → (∀ b o, b ∉ [I] → h2.get? b = some o → s₃.heap.get? b = some o) →
        Good c (compEnvC scope cl C env) ((x, .val d) :: σc) P s₃ := by
      intro C d v s₃ m₃ R hn hm hk
      have ext : ∀ b o, s.heap.get? b = some o → s₃.heap.get? b = some o := fun b o e => hk b o (fun hb => by rw [List.mem_singleton.mp hb, hI] at e; cases e) (hext b o e)
      refine ⟨⟨hkind, G.eok.globals, G.eok.builtins⟩, G.tops.keeps ext, fun a o e => ext _ _ (G.ok a o e), fun y d' hy => ?_, fun y d' hy => ?_⟩
      · rcases List.mem_cons.mp hy with e | hy
        · cases e
          exact ⟨v, .inl ⟨lookup_relabel_local hx, m₃, hn, hm⟩, R⟩
        · obtain ⟨w, V, R'⟩ := G.vars y d' (hcap.sub _ hy)
          obtain ⟨k1, k2, k3⟩ := hcap.cell _ hy
          refine ⟨w, .inr ⟨k2, ?_⟩, R'⟩
          rcases V with ⟨h1, _⟩ | ⟨h1, a, h2, h3⟩
          · rw [k1] at h1; cases h1
          · exact ⟨a, k3.trans h2, h3.keeps ext⟩
      · rcases List.mem_cons.mp hy with e | hy
        · cases e
        · exact absurd hy (hcap.vals y d')
    constructor
    · intro C i v s₃ m₃ E' _ hP hn hm hk _
      obtain ⟨d, hd, R⟩ := it.rep i v hP.1 hP.2
      have hdm := List.mem_of_getElem? hd
      have hpd := hpq v d hdm R
      have ht := htest C d hdm
      have Gc := good C d v s₃ m₃ R hn hm hk
      rcases ifs with _ | ⟨t, _ | ⟨t2, r⟩⟩
      · exact wpAny_tests_nil ⟨ht ▸ hpd.symm, s₃.heap, s₃.toks, rfl, fun _ _ e => e⟩
      · exact wpAny_tests_one (ht s₃ Gc _ E' fun h' tk P' S => ⟨hpd.symm, h', tk, rfl, S.ext⟩)
      · exact ht.elim
    · intro C i v s₃ m₃ E' _ hP hpv hn hm hk _
      obtain ⟨d, hd, R⟩ := it.rep i v hP.1 hP.2
      have hdm := List.mem_of_getElem? hd
      have hq : pz d = true := by
        rw [← hpq v d hdm R]; exact hpv
      exact helt C d hdm hq s₃ (good C d v s₃ m₃ R hn hm hk) _ E' fun y h' tk ext Ry => ⟨⟨d, hdm, R, Ry⟩, h', tk, rfl, ext⟩

theorem repL_of_places {P : Facts} {ds : List D} {vs : List Value} {Pv : Nat → Value → Prop} (hlen : vs.length = ds.length) (hP : ∀ j v, vs[j]? = some v → j < ds.length ∧ Pv j v) (rep : ∀ i v, i < ds.length → Pv i v → ∃ d, ds[i]? = some d ∧ Rep c P v d) : RepL c P vs ds := by
  induction vs generalizing ds Pv with
  | nil => cases ds with
    | nil => exact .nil
    | cons => cases hlen
  | cons v vs ih =>
    cases ds with
    | nil => cases hlen
    | cons d ds =>
      obtain ⟨d', h1, h2⟩ := rep 0 v (by simp) (hP 0 v rfl).2
      simp at h1; subst h1
      refine .cons h2 (ih (Pv := fun j => Pv (j + 1)) (by simpa using hlen) (fun j u hj => ?_) fun i u hi hu => ?_)
      · have := hP (j + 1) u (by simpa using hj)
        exact ⟨by simpa using this.1, this.2⟩
      · obtain ⟨d', h1, h2⟩ := rep (i + 1) u (by simpa using hi) hu
        exact ⟨d', by simpa using h1, h2⟩

theorem ev_listcompK {x : String} {px pos : Pos} {iter elt : Expr} {ifs : List Expr} {scope : Scope} {cl : List (Str × Addr)} {ds : List D} (pz : D → Bool) (g : D → D) (hdet : ∀ d ∈ ds, Det c d)
    (hiter : EvI c A env σ iter ds) (hcap : Caps env scope cl x σ σc)
    (htest : ∀ (C : Addr) (d : D), d ∈ ds → EvIfs c A (compEnvC scope cl C env) ((x, .val d) :: σc) ifs (pz d))
    (helt : ∀ (C : Addr) (d : D), d ∈ ds → pz d = true → EvK c A (compEnvC scope cl C env) ((x, .val d) :: σc) elt (g d))
    (hlen : ds.length ≤ sizeLine)
    (hclos : closureFor scope env = pure cl) (hcell : ∀ y ∈ scope.names, y.2 ≠ .cell) (hkind : scope.kind = .function)
    (hnames : ∀ y ∈ scope.names, y.2 = .local → scope.names.lookup y.1 = some .local) (hx : scope.names.lookup (Str.ofString x) = some .local)
    (hfold : ∀ x, foldedSetIterable iter env x = pure x := by intro _; rfl) :
    Ev c A env σ (.ListComp elt [⟨.Name (Str.ofString x) px, iter, ifs, 0⟩] scope pos) (.list ((ds.filter pz).map g)) := by
  intro P s G Q E k
  rw [eval_ListComp]
  refine wpAny_comprehension_free (use := none) rfl hfold hclos hkind hnames (hiter s G _ E fun xv h1 t1 P1 S1 hpy => hpy _ S1.ok _ E fun I fp Pv St h2 t2 it hI hext hst => ?_)
  have G1 := G.step (tk := t1) S1
  obtain ⟨p, F, hp, hF, hq⟩ := comp_core G1 hkind hx hcap hdet htest helt (t2 := t2) it hI hext hst
  refine comp_block_walkC (RR := fun acc C => compPost c.M A E none Q acc C) (Walks.bound it.walks) hlen p F hcell hkind hx hst ?_ hq ?_
  · intro b hb
    rcases it.fps b hb with rfl | ⟨o, ho⟩
    · obtain ⟨o, n, ho, _⟩ := it.live 0 h2 hst
      exact Heap.lt_size ho
    · exact Heap.lt_size (hext _ _ (S1.ok _ _ ho))
  · intro Da C h' tk m' ys vs hD hC hDC hn hl hpl hlen' hP hFF hk
    refine ⟨m', hn, fun h'' hs'' => ?_⟩
    have hI' : ∀ b o, h1.get? b = some o → b ∉ [I] := fun b o e hb => by rw [List.mem_singleton.mp hb] at e; rw [hI] at e; cases e
    have ext1 : ∀ b o, h1.get? b = some o → h''.get? b = some o := fun b o e => hs''.extBut b o (by rintro rfl; have := hext _ _ e; rw [hC] at this; cases this) (hk b o (hI' b o e) (hext b o e))
    have hpl2 := hpl.extBut hs''.extBut hDC
    obtain ⟨n, ho⟩ := hpl2
    have hD1 : h1.get? Da = none := by
      cases z : h1.get? Da with
      | none => rfl
      | some o => rw [hext _ _ z] at hD; cases hD
    have S2 : Step P1 (fun a q => P1 a q ∨ (a = Da ∧ q = listO ys.toList n)) h1 h'' := Step.more S1.ok ext1 hD1 (by rw [ho])
    have RL : RepL c P1 vs ds := repL_of_places hlen' hP it.rep
    have RY : RepL c P1 ys.toList ((ds.filter pz).map g) := paired_all hp (fun v d y hd Rv hf => hF v d y hd Rv hf) (fun _ h => h) RL hFF
    exact k _ _ _ _ (S1.trans S2) (.list (.inr ⟨rfl, rfl⟩) (RY.mono S2.sub))
theorem ev_listcomp {x : String} {px pos : Pos} {iter elt : Expr} {ifs : List Expr} {scope : Scope} {cl : List (Str × Addr)} {ds : List D} (pz : D → Bool) (g : D → D) (hdet : ∀ d ∈ ds, Det c d)
    (hiter : EvI c A env σ iter ds) (hcap : Caps env scope cl x σ σc)
    (htest : ∀ (C : Addr) (d : D), d ∈ ds → EvIfs c A (compEnvC scope cl C env) ((x, .val d) :: σc) ifs (pz d))
    (helt : ∀ (C : Addr) (d : D), d ∈ ds → pz d = true → Ev c A (compEnvC scope cl C env) ((x, .val d) :: σc) elt (g d))
    (hsc : (∀ d ∈ ds, Scalar (g d))) (hlen : ds.length ≤ sizeLine)
    (hclos : closureFor scope env = pure cl) (hcell : ∀ y ∈ scope.names, y.2 ≠ .cell) (hkind : scope.kind = .function)
    (hnames : ∀ y ∈ scope.names, y.2 = .local → scope.names.lookup y.1 = some .local) (hx : scope.names.lookup (Str.ofString x) = some .local)
    (hfold : ∀ x, foldedSetIterable iter env x = pure x := by intro _; rfl) :
    Ev c A env σ (.ListComp elt [⟨.Name (Str.ofString x) px, iter, ifs, 0⟩] scope pos) (.list ((ds.filter pz).map g)) :=
  ev_listcompK pz g hdet hiter hcap htest (fun C d hd hp => evk_of_ev (helt C d hd hp) (hsc d hd)) hlen hclos hcell hkind hnames hx hfold
end
end
section

section
variable {c : Cx} {A : Around} {env : Env} {σ σc : Sto} {N : Sto → Prop} {R : D → Prop} {rest : List Stmt}

theorem ex_assign_compK {x y : String} {px py pos spos : Pos} {iter elt : Expr} {ifs : List Expr} {scope : Scope} {cl : List (Str × Addr)} {ds : List D} {σ' : Sto} (pz : D → Bool) (g : D → D) (hdet : ∀ d ∈ ds, Det c d)
    (hiter : EvI c A env σ iter ds) (hcap : Caps env scope cl x σ σc)
    (htest : ∀ (C : Addr) (d : D), d ∈ ds → EvIfs c A (compEnvC scope cl C env) ((x, .val d) :: σc) ifs (pz d))
    (helt : ∀ (C : Addr) (d : D), d ∈ ds → pz d = true → EvK c A (compEnvC scope cl C env) ((x, .val d) :: σc) elt (g d))
    (hlen : ds.length ≤ sizeLine)
    (hclos : closureFor scope env = pure cl) (hcell : ∀ y ∈ scope.names, y.2 ≠ .cell) (hkind : scope.kind = .function)
    (hnames : ∀ y ∈ scope.names, y.2 = .local → scope.names.lookup y.1 = some .local) (hx : scope.names.lookup (Str.ofString x) = some .local)
    (hy : StoreOk env y) (hσ : set σ y (.val (.list ((ds.filter pz).map g))) = σ') (h : Ex c A env σ' rest N R)
    (hsw : swapsWith (.ListComp elt [⟨.Name (Str.ofString x) px, iter, ifs, 0⟩] scope pos) (some (.Name (Str.ofString y) py)) spos.line env = pure true)
    (hfold : ∀ x, foldedSetIterable iter env x = pure x := by intro _; rfl) :
    Ex c A env σ (.Assign [.Name (Str.ofString y) py] (.ListComp elt [⟨.Name (Str.ofString x) px, iter, ifs, 0⟩] scope pos) spos :: rest) N R := by
  subst hσ
  refine ex_seq (N1 := fun σ' => σ' = set σ y (.val (.list ((ds.filter pz).map g)))) (fun s₀ P₀ P s F Q E kn kr => ?_) (fun σ' e => e ▸ h)
  rw [exec_Assign_Name_used _ _ _ _ hsw]
  refine wpAny_bind (wpAny_standAt (wpAny_bind ?_))
  show wpAny _ A (do let _ ← comprehension (.ListComp elt [⟨.Name (Str.ofString x) px, iter, ifs, 0⟩] scope pos) scope env _ (newList []) false (eval iter env) (some (assign (.Name (Str.ofString y) py) env))) _ _ s
  have G := F.good
  refine wpAny_bind (wpAny_mono (wpAny_comprehension_free (use := some (assign (.Name (Str.ofString y) py) env)) (Q := fun _ s' => Q .next s') rfl hfold hclos hkind hnames
    (hiter s G _ E fun xv h1 t1 P1 S1 hpy => hpy _ S1.ok _ E fun I fp Pv St h2 t2 it hI hext hst => ?_)) (fun _ s' hq => wpAny_pure (wpAny_pure hq)) fun _ _ e => e)
  have G1 := G.step (tk := t1) S1
  obtain ⟨p, Fr, hp, hF, hq⟩ := comp_core G1 hkind hx hcap hdet htest helt (t2 := t2) it hI hext hst
  refine comp_block_walkC (RR := fun acc C => compPost c.M A E (some (assign (.Name (Str.ofString y) py) env)) (fun _ s' => Q .next s') acc C) (Walks.bound it.walks) hlen p Fr hcell hkind hx hst ?_ hq ?_
  · intro b hb
    rcases it.fps b hb with rfl | ⟨o, ho⟩
    · obtain ⟨o, n, ho, _⟩ := it.live 0 h2 hst
      exact Heap.lt_size ho
    · exact Heap.lt_size (hext _ _ (S1.ok _ _ ho))
  · intro Da C h' tk m' ys vs hD hC hDC hn hl hpl hlen' hP hFF hk
    have hI' : ∀ b o, h1.get? b = some o → b ∉ [I] := fun b o e hb => by rw [List.mem_singleton.mp hb] at e; rw [hI] at e; cases e
    have ext1 : ∀ b o, h1.get? b = some o → h'.get? b = some o := fun b o e => hk b o (hI' b o e) (hext b o e)
    obtain ⟨n, ho⟩ := hpl
    have hD1 : h1.get? Da = none := by
      cases z : h1.get? Da with
      | none => rfl
      | some o => rw [hext _ _ z] at hD; cases hD
    have hC1 : h1.get? C = none := by
      cases z : h1.get? C with
      | none => rfl
      | some o => rw [hext _ _ z] at hC; cases hC
    have S2 : Step P1 (fun a q => P1 a q ∨ (a = Da ∧ q = listO ys.toList n)) h1 h' := Step.more S1.ok ext1 hD1 (by rw [ho])
    have RY : RepL c P1 ys.toList ((ds.filter pz).map g) := paired_all hp (fun v d y hd Rv hf => hF v d y hd Rv hf) (fun _ h => h) (repL_of_places hlen' hP it.rep) hFF
    have F2 := F.step (tk := tk) (S1.trans S2)
    show wpAny _ A (assign (.Name (Str.ofString y) py) env (.ref Da)) _ _ _
    have hCL : C ≠ env.locals := by
      rintro rfl
      obtain ⟨m, oo, es, ep, ho, _⟩ := F.ns
      rw [S1.ext _ _ ho] at hC1; cases hC1
    have hCc : ∀ z a, env.cells.lookup z = some a → a ≠ C := by
      rintro z a hz rfl
      obtain ⟨⟨v, o, ho, _⟩, _⟩ := F.cell z a hz
      rw [S1.ext _ _ ho] at hC1; cases hC1
    refine wpAny_assign_Name (F2.store' (u := .val (.list ((ds.filter pz).map g))) hy (.list (.inr ⟨rfl, rfl⟩) (RY.mono S2.sub)) fun h3 t3 kp vk F3 => ?_)
    -- the name space of the comprehension is where it was
    refine ⟨m', hn.at' fun o e => kp C o hCL (fun z a hz e' => hCc z a hz e'.symm) e, fun h4 hs4 => ?_⟩
    have hC0 : s₀.heap.get? C = none := by
      cases z : s₀.heap.get? C with
      | none => rfl
      | some o => rw [S1.ext _ _ (F.keep C o z)] at hC1; cases hC1
    refine kn _ _ h4 t3 rfl (fun a o e => S2.sub _ _ (S1.sub _ _ e)) (F3.poke (I := C) hC0 hCL hCc (fun z d a hz V e => ?_) (fun _ _ _ e => e) F3.sub0 (fun a o e => ?_) (fun _ _ e => .inl e) fun b o hb e => hs4.extBut b o hb e)
    · obtain ⟨hm, hm2⟩ | ⟨hne, hm⟩ := mem_set hz
      · cases hm2
      · obtain ⟨a1, V1, hn1, O1⟩ := F.good.owns z d hm
        obtain rfl := Value.ref.inj (V.det (vk z _ hne (V1.keeps (S1.trans S2).ext)))
        subst e
        obtain ⟨o, ho, _⟩ := O1.some
        rw [S1.ext _ _ ho] at hC1; cases hC1
    · rcases e with e | ⟨rfl, rfl⟩
      · refine hs4.extBut _ _ ?_ (F3.good.ok _ _ (.inl e))
        rintro rfl
        rw [S1.ok _ _ e] at hC1; cases hC1
      · exact hs4.extBut _ _ hDC (F3.good.ok _ _ (.inr ⟨rfl, rfl⟩))
theorem ex_assign_comp {x y : String} {px py pos spos : Pos} {iter elt : Expr} {ifs : List Expr} {scope : Scope} {cl : List (Str × Addr)} {ds : List D} {σ' : Sto} (pz : D → Bool) (g : D → D) (hdet : ∀ d ∈ ds, Det c d)
    (hiter : EvI c A env σ iter ds) (hcap : Caps env scope cl x σ σc)
    (htest : ∀ (C : Addr) (d : D), d ∈ ds → EvIfs c A (compEnvC scope cl C env) ((x, .val d) :: σc) ifs (pz d))
    (helt : ∀ (C : Addr) (d : D), d ∈ ds → pz d = true → Ev c A (compEnvC scope cl C env) ((x, .val d) :: σc) elt (g d))
    (hsc : (∀ d ∈ ds, Scalar (g d))) (hlen : ds.length ≤ sizeLine)
    (hclos : closureFor scope env = pure cl) (hcell : ∀ y ∈ scope.names, y.2 ≠ .cell) (hkind : scope.kind = .function)
    (hnames : ∀ y ∈ scope.names, y.2 = .local → scope.names.lookup y.1 = some .local) (hx : scope.names.lookup (Str.ofString x) = some .local)
    (hy : StoreOk env y) (hσ : set σ y (.val (.list ((ds.filter pz).map g))) = σ') (h : Ex c A env σ' rest N R)
    (hsw : swapsWith (.ListComp elt [⟨.Name (Str.ofString x) px, iter, ifs, 0⟩] scope pos) (some (.Name (Str.ofString y) py)) spos.line env = pure true)
    (hfold : ∀ x, foldedSetIterable iter env x = pure x := by intro _; rfl) :
    Ex c A env σ (.Assign [.Name (Str.ofString y) py] (.ListComp elt [⟨.Name (Str.ofString x) px, iter, ifs, 0⟩] scope pos) spos :: rest) N R :=
  ex_assign_compK pz g hdet hiter hcap htest (fun C d hd hp => evk_of_ev (helt C d hd hp) (hsc d hd)) hlen hclos hcell hkind hnames hx hy hσ h hsw hfold
end
end
section

theorem bindL_other {k : Str → Option NameKind} {n : Str} : ∀ {binds : List (Str × Value)} {m : Str → Option Value}, n ∉ binds.map (·.1) → bindL k binds m n = m n
  | [], _, _ => rfl
  | (a, v) :: r, m, h => by
    unfold bindL
    rw [List.map_cons, List.mem_cons, not_or] at h
    rw [bindL_other h.2]
    split
    · exact if_neg h.1
    · rfl
theorem bindL_mem {k : Str → Option NameKind} {n : Str} {v : Value} (hk : k n = some .local) : ∀ {binds : List (Str × Value)} {m : Str → Option Value}, (binds.map (·.1)).Nodup → (n, v) ∈ binds → bindL k binds m n = some v
  | (a, w) :: r, m, hn, h => by
    unfold bindL
    rw [List.map_cons, List.nodup_cons] at hn
    rcases List.mem_cons.mp h with e | h
    · cases e
      rw [bindL_other hn.1, if_pos hk]; exact if_pos rfl
    · exact bindL_mem hk hn.2 h
theorem bindC_other {k : Str → Option NameKind} {n : Str} : ∀ {binds : List (Str × Value)} {m : Str → Option Value}, n ∉ binds.map (·.1) → bindC k binds m n = m n
  | [], _, _ => rfl
  | (a, v) :: r, m, h => by
    unfold bindC
    rw [List.map_cons, List.mem_cons, not_or] at h
    rw [bindC_other h.2]
    split
    · rfl
    · exact if_neg h.1
theorem bindC_mem {k : Str → Option NameKind} {n : Str} {v : Value} (hk : k n ≠ some .local) : ∀ {binds : List (Str × Value)} {m : Str → Option Value}, (binds.map (·.1)).Nodup → (n, v) ∈ binds → bindC k binds m n = some v
  | (a, w) :: r, m, hn, h => by
    unfold bindC
    rw [List.map_cons, List.nodup_cons] at hn
    rcases List.mem_cons.mp h with e | h
    · cases e
      rw [bindC_other hn.1, if_neg hk]; exact if_pos rfl
    · exact bindC_mem hk hn.2 h

noncomputable def paramSto : List String → List D → Sto
  | x :: xs, d :: ds => (x, .val d) :: paramSto xs ds
  | _, _ => []

theorem param_mem {c : Cx} {P : Facts} : ∀ {xs : List String} {vs : List Value} {ds : List D} {y : String} {u : Slot}, xs.length = ds.length → RepL c P vs ds → (y, u) ∈ paramSto xs ds → ∃ d v, u = .val d ∧ Rep c P v d ∧ (Str.ofString y, v) ∈ (xs.map Str.ofString).zip vs := by
  intro xs
  induction xs with
  | nil => intro vs ds y u hl RL h; cases h
  | cons x xs ih =>
    intro vs ds y u hl RL h
    cases ds with
    | nil => cases hl
    | cons d ds =>
      have hInv := RL.cons_inv; clear RL; obtain ⟨_, _, rfl, R, RL⟩ := hInv
      rcases List.mem_cons.mp h with e | h
      · cases e; exact ⟨_, _, rfl, R, .head _⟩
      · obtain ⟨d, v, h1, h2, h3⟩ := ih (Nat.succ.inj hl) RL h
        exact ⟨d, v, h1, h2, .tail _ h3⟩

theorem call_cellsB {c : Cx} {A : Around} {s : Shared} {R : Result → Shared → Prop} {a : Addr} {o : Obj} {fd : FuncData} {body : List Stmt} {vals : List Value} {binds : List (Str × Value)}
    (hroom : A.depth < recursionLimit) (ho : s.heap.get? a = some o) (hdata : o.data = .func fd) (hlim : s.heap.NoLimit) (hcd : s.heap.CodeRec fd.code fd.qualname)
    (hbody : fd.body = .stmts body) (hbind : BindsTo s fd ⟨vals, []⟩ binds) (hclo : fd.closure = [])
    (hkind : ∀ x ∈ binds, fd.scope.names.lookup x.1 = some .local ∨ (fd.scope.names.lookup x.1 = some .cell ∧ ((cellsFrom (s.heap.objs.size + 1) fd.scope.names []).lookup x.1).isSome = true))
    (h : ∀ s₁, InCallC s (callEnvC fd s.heap.objs.size a).locals (bindL (callEnvC fd s.heap.objs.size a).kindOf binds fun _ => none) (callEnvC fd s.heap.objs.size a).cells
        (bindC (callEnvC fd s.heap.objs.size a).kindOf binds fun _ => none) s₁ →
      wpAny c.M (A.deeper (callEnvC fd s.heap.objs.size a)) (execs body (callEnvC fd s.heap.objs.size a)) (fun f s' => R (.ok (.ret (match f with | .ret v => v | _ => .none))) s')
        (fun e s' => wpAny c.M (A.deeper (callEnvC fd s.heap.objs.size a)) (leaving (callEnvC fd s.heap.objs.size a) e) (fun _ s'' => R (.error e) s'') (fun e' s'' => R (.error e') s'') s') s₁)
    (hco : fd.scope.isCoroutine = false) (hgen : fd.scope.isGenerator = false) (hk : fd.scope.kind = .function) :
    codeAny c.M A (.call (.ref a) ⟨vals, []⟩) R s := by
  refine codeAny_call_function hroom ho hdata hco hgen hbody hcd ?_
  rw [hclo]
  refine hbind _ _ _ _ (wpAny_newFunctionEnv_cells hk hkind fun env he s' x => ?_)
  subst he
  exact ⟨hlim.keeps x.toInCall.keep, codeAny_func (h s' x)⟩

theorem len1 {l : List Value} (h : l.length = 1) : ∃ a, l = [a] := List.length_eq_one_iff.mp h
theorem len2 {l : List Value} (h : l.length = 2) : ∃ a b, l = [a, b] := by
  cases l with
  | nil => cases h
  | cons a r => obtain ⟨b, rfl⟩ := len1 (Nat.succ.inj h); exact ⟨a, b, rfl⟩
theorem fn_introD {c : Cx} {n : Nat} {f : Addr} {o : Obj} {fd : FuncData} {body : List Stmt} {xs : List String} {args0 : List D} {res : D} (ev : List Value) (ed : List D) (hev : ∀ P, RepL c P ev ed)
    (hK : c.K.lookup f = some o) (ho : o.data = .func fd) (hcode : codeIn c.K fd.code fd.qualname = true) (hbody : fd.body = .stmts body) (hclo : fd.closure = []) (hglob : fd.globals = mainGlobals) (hbi : fd.builtins = builtinsNs)
    (hlen : xs.length = (args0 ++ ed).length) (hbind : ∀ (s : Shared) (vals : List Value), c.K.In s.heap → vals.length = args0.length → BindsTo s fd ⟨vals, []⟩ ((xs.map Str.ofString).zip (vals ++ ev)))
    (hkinds : (xs.all fun x => fd.scope.names.lookup (Str.ofString x) == some .local || fd.scope.names.lookup (Str.ofString x) == some .cell) = true) (hnd : (xs.map Str.ofString).Nodup)
    (hco : fd.scope.isCoroutine = false) (hgen : fd.scope.isGenerator = false) (hk : fd.scope.kind = .function)
    (h : ∀ (A : Around) (L : Addr), AOk n A → Ex c A (callEnvC fd L f) (paramSto xs (args0 ++ ed)) body (fun _ => False) (fun d => d = res)) : Fn c (n + 1) f args0 res := by
  intro A hA P s vals T ok RL0 R q
  have RL : RepL c P (vals ++ ev) (args0 ++ ed) := RL0.append (hev P)
  have hb0 := hbind s vals T.k RL0.length
  revert RL hb0
  generalize vals ++ ev = vs
  generalize args0 ++ ed = args at hlen h
  intro RL hb0
  have hvl : vs.length = xs.length := by rw [RL.length, hlen]
  have hall : (((xs.map Str.ofString).zip vs).all fun y => fd.scope.names.lookup y.1 == some .local || fd.scope.names.lookup y.1 == some .cell) = true := by
    rw [List.all_eq_true]
    intro y hy
    have h1 := (List.of_mem_zip hy).1
    obtain ⟨z, hz, e⟩ := List.mem_map.mp h1
    have := List.all_eq_true.mp hkinds z hz
    rw [← e]; exact this
  refine call_cellsB hA.room (T.k _ _ hK) ho T.lim (codeRec_of T.k hcode) hbody hb0 hclo (kindsX hall _) (fun s₁ x => ?_) hco hgen hk
  have hzn : (((xs.map Str.ofString).zip vs).map (·.1)).Nodup := by
    rw [List.map_fst_zip (by simp [hvl])]; exact hnd
  have fresh : ∀ b, s.heap.objs.size ≤ b → s.heap.get? b = none := fun b hb => by
    cases z : s.heap.get? b with
    | none => rfl
    | some o => exact absurd (Heap.lt_size z) (Nat.not_lt.mpr hb)
  have hL : (callEnvC fd s.heap.objs.size f).locals = s.heap.objs.size := rfl
  have cellA : ∀ y a, (callEnvC fd s.heap.objs.size f).cells.lookup y = some a → s.heap.objs.size < a := fun y a hy => x.above y a (mem_of_lookup hy)
  have ok1 : ∀ a o, P a o → s₁.heap.get? a = some o := fun a o e => x.toInCall.keep a o (ok a o e)
  have Fm : Frm c (callEnvC fd s.heap.objs.size f) s P (paramSto xs args) P s₁ := by
    refine ⟨⟨⟨hk, hglob, hbi⟩, T.keeps x.toInCall.keep, ok1, fun y d hy => ?_, fun y d hy => ?_⟩, T, x.toInCall.same, ok, x.toInCall.keep, fun _ _ e => e, fun _ _ e => .inl e, ⟨_, x.toInCall.ns⟩, fresh _ (Nat.le_refl _), fun o e => ?_, fun y a hy => ⟨⟨_, x.cell y a hy⟩, fresh a (Nat.le_of_lt (cellA y a hy)), fun o e => ?_, Nat.ne_of_gt (cellA y a hy)⟩,
      fun y z a hy hz => name_of_addr x.apart (mem_of_lookup hy) (mem_of_lookup hz), fun y d a hy => ?_, fun y z d d' a hy => ?_⟩
    · obtain ⟨d', v, e, Rv, hm⟩ := param_mem hlen RL hy
      cases e
      refine ⟨v, ?_, Rv⟩
      have hkk := List.all_eq_true.mp hall _ hm
      rcases Bool.or_eq_true_iff.mp hkk with hl | hc
      · have hl' : (callEnvC fd s.heap.objs.size f).kindOf (Str.ofString y) = some .local := by show fd.scope.names.lookup (Str.ofString y) = some .local; simpa using hl
        exact .inl ⟨hl', _, x.toInCall.ns, bindL_mem hl' hzn hm⟩
      · have hc' : (callEnvC fd s.heap.objs.size f).kindOf (Str.ofString y) = some .cell := by show fd.scope.names.lookup (Str.ofString y) = some .cell; simpa using hc
        refine .inr ⟨hc', ?_⟩
        rcases kindsX hall (s.heap.objs.size + 1) _ hm with q | ⟨_, q⟩
        · have : (callEnvC fd s.heap.objs.size f).kindOf (Str.ofString y) = some .local := q
          rw [hc'] at this; cases this
        · obtain ⟨a, ha⟩ := Option.isSome_iff_exists.mp q
          refine ⟨a, ha, ?_⟩
          have := x.cell _ a ha
          rwa [bindC_mem (by rw [hc']; intro e; cases e) hzn hm] at this
    · obtain ⟨d', v, e, _⟩ := param_mem hlen RL hy
      cases e
    · have := ok _ _ e
      rw [show (callEnvC fd s.heap.objs.size f).locals = s.heap.objs.size from rfl, fresh _ (Nat.le_refl _)] at this; cases this
    · have := ok _ _ e
      rw [fresh a (Nat.le_of_lt (cellA y a hy))] at this; cases this
    · obtain ⟨d', v, e, _⟩ := param_mem hlen RL hy
      cases e
    · obtain ⟨d', v, e, _⟩ := param_mem hlen RL hy
      cases e
  obtain ⟨hh, tt, rfl⟩ := x.toInCall.same
  refine h (A.deeper _) s.heap.objs.size (hA.deeper _) P P _ Fm _ _ (fun σ' P' h' tk hN => hN.elim) fun d v P' h' tk hR hsub F' Rv => ?_
  subst hR
  exact q v h' tk P' ⟨F'.keep, hsub, F'.new0, F'.good.ok⟩ Rv

theorem fn_intro {c : Cx} {n : Nat} {f : Addr} {o : Obj} {fd : FuncData} {body : List Stmt} {xs : List String} {args : List D} {res : D}
    (hK : c.K.lookup f = some o) (ho : o.data = .func fd) (hcode : codeIn c.K fd.code fd.qualname = true) (hbody : fd.body = .stmts body) (hclo : fd.closure = []) (hglob : fd.globals = mainGlobals) (hbi : fd.builtins = builtinsNs)
    (hlen : xs.length = args.length) (hbind : ∀ vals : List Value, vals.length = xs.length → bindArgs fd ⟨vals, []⟩ = pure ((xs.map Str.ofString).zip vals))
    (hkinds : (xs.all fun x => fd.scope.names.lookup (Str.ofString x) == some .local || fd.scope.names.lookup (Str.ofString x) == some .cell) = true) (hnd : (xs.map Str.ofString).Nodup)
    (hco : fd.scope.isCoroutine = false) (hgen : fd.scope.isGenerator = false) (hk : fd.scope.kind = .function)
    (h : ∀ (A : Around) (L : Addr), AOk n A → Ex c A (callEnvC fd L f) (paramSto xs args) body (fun _ => False) (fun d => d = res)) : Fn c (n + 1) f args res := by
  refine fn_introD [] [] (fun _ => .nil) hK ho hcode hbody hclo hglob hbi (by rw [List.append_nil]; exact hlen) (fun s vals _ hl => ?_) hkinds hnd hco hgen hk (by rw [List.append_nil]; exact h)
  rw [List.append_nil]
  exact BindsTo.of_eq (hbind vals (by rw [hl, hlen]))
end
section
set_option maxRecDepth 100000
set_option maxHeartbeats 8000000
open_top hd for PySem.Challenge.rw_qc0002_01
end
section
set_option maxRecDepth 100000
theorem lit_empty : Str.ofString "" = S [] := by decide +kernel
theorem lit_dots : Str.ofString "..." = S [46, 46, 46] := by decide +kernel
theorem lit_blank : Str.ofString " " = S [32] := by decide +kernel
theorem lit_tab : Str.ofString "\t" = S [9] := by decide +kernel
theorem lit_nlb : Str.ofString "\n " = S [10, 32] := by decide +kernel
theorem lit_nl : Str.ofString "\n" = S [10] := by decide +kernel
theorem lit_aq : Str.ofString "a'" = S [97, 39] := by decide +kernel
theorem lit_ab : Str.ofString "ab" = S [97, 98] := by decide +kernel
theorem lit_ba : Str.ofString "ba" = S [98, 97] := by decide +kernel
theorem lit_aqb : Str.ofString "a'b" = S [97, 39, 98] := by decide +kernel
theorem lit_abb : Str.ofString "abb" = S [97, 98, 98] := by decide +kernel
theorem lit_A : Str.ofString "A" = S [65] := by decide +kernel
theorem lit_B : Str.ofString "B" = S [66] := by decide +kernel
theorem lit_bb : Str.ofString "  " = S [32, 32] := by decide +kernel
theorem lit_a : Str.ofString "a" = S [97] := by decide +kernel
theorem lit_b : Str.ofString "b" = S [98] := by decide +kernel
noncomputable def mgOf (K : Frag) : Str → Option Value := match K.lookup 3 with
  | some ⟨_, _, .dict es _, _⟩ => nsFind es
  | _ => fun _ => none

theorem set_nil (x : String) (u : Slot) : set [] x u = [(x, u)] := rfl
theorem set_miss {y x : String} {v u : Slot} {σ σ' : Sto} (h : y ≠ x) (e : set σ x u = σ') : set ((y, v) :: σ) x u = (y, v) :: σ' := by rw [set, if_neg h, e]
theorem set_hit {x : String} {v u : Slot} {σ σ' : Sto} (e : del σ x = σ') : set ((x, v) :: σ) x u = (x, u) :: σ' := by rw [set, if_pos rfl, e]
theorem del_nil (x : String) : del [] x = [] := rfl
theorem del_miss {y x : String} {v : Slot} {σ σ' : Sto} (h : y ≠ x) (e : del σ x = σ') : del ((y, v) :: σ) x = (y, v) :: σ' := by rw [del, if_neg h, e]
theorem del_hit {x : String} {v : Slot} {σ σ' : Sto} (e : del σ x = σ') : del ((x, v) :: σ) x = σ' := by rw [del, if_pos rfl, e]
theorem setAll_nil (σ : Sto) : setAll σ [] [] = σ := rfl
theorem setAll_cons {σ σ1 σ2 : Sto} {x : String} {xs : List String} {d : D} {ds : List D} (h1 : set σ x (.val d) = σ1) (h2 : setAll σ1 xs ds = σ2) : setAll σ (x :: xs) (d :: ds) = σ2 := by rw [setAll, h1, h2]
theorem setAll_rev2 {σ σ' : Sto} {xs : List String} {a b : D} (h : setAll σ xs [b, a] = σ') : setAll σ xs [a, b].reverse = σ' := h
theorem set_ps {x y : String} {xs : List String} {d : D} {ds : List D} {u : Slot} {σ' : Sto} (h : set ((x, .val d) :: paramSto xs ds) y u = σ') : set (paramSto (x :: xs) (d :: ds)) y u = σ' := h
theorem set_ps0 (y : String) (u : Slot) : set (paramSto [] []) y u = [(y, u)] := rfl
theorem del_ps {x y : String} {xs : List String} {d : D} {ds : List D} {σ' : Sto} (h : del ((x, .val d) :: paramSto xs ds) y = σ') : del (paramSto (x :: xs) (d :: ds)) y = σ' := h
theorem del_ps0 (y : String) : del (paramSto [] []) y = [] := rfl
theorem ex_conv {c : Cx} {A : Around} {env : Env} {σ σ' : Sto} {ss : List Stmt} {N : Sto → Prop} {R : D → Prop} (h : σ = σ') (k : Ex c A env σ' ss N R) : Ex c A env σ ss N R := h ▸ k
section
variable {c : Cx} {A : Around} {env : Env} {σ : Sto}
theorem evo_none : EvO c A env σ none none := trivial
theorem evo_some {e : Expr} {i : Int} (h : Ev c A env σ e (.int i)) : EvO c A env σ (some e) (some i) := h
theorem ev_ifexp_str {t x y : Expr} {pos : Pos} {a b : List Nat} {q : Bool} (ht : EvT c A env σ t q) (hx : q = true → Ev c A env σ x (.str a)) (hy : q = false → Ev c A env σ y (.str b)) : Ev c A env σ (.IfExp t x y pos) (.str (if q then a else b)) := by
  have h := ev_ifexp (pos := pos) ht hx hy
  cases q <;> exact h
theorem ev_ifexp_int {t x y : Expr} {pos : Pos} {a b : Int} {q : Bool} (ht : EvT c A env σ t q) (hx : q = true → Ev c A env σ x (.int a)) (hy : q = false → Ev c A env σ y (.int b)) : Ev c A env σ (.IfExp t x y pos) (.int (if q then a else b)) := by
  have h := ev_ifexp (pos := pos) ht hx hy
  cases q <;> exact h
end
end
section
set_option maxRecDepth 100000

section
variable {c : Cx} {A : Around} {env : Env} {σ : Sto} {N : Sto → Prop} {R : D → Prop} {rest : List Stmt}

theorem ev_global_str {n : String} {p : Pos} {l : List Nat} {t : Tok} (hk : env.kindOf (Str.ofString n) = some .globalImplicit) (hg : c.mg (Str.ofString n) = some (.str (S l) t)) (hd : ((Str.ofString n) == ("__debug__" : Str)) = false := by decide +kernel) :
    Ev c A env σ (.Name (Str.ofString n) p) (.str l) := by
  intro P s G Q E q
  exact load_global G hk hg hd (q _ s.heap s.toks P (Step.refl G.ok) (.str _ _))

theorem ev_len_own {np pos p : Pos} {x : String} {ds : List D} (hk : env.kindOf (Str.ofString "len") = some .globalImplicit) (hg : c.mg (Str.ofString "len") = none)
    (hx : (x, Slot.own (.list ds)) ∈ σ) (hn : ds.length < 2 ^ 62) (hd : ((Str.ofString x) == ("__debug__" : Str)) = false := by decide +kernel) :
    Ev c A env σ (.Call (.Name (Str.ofString "len") np) [.Name (Str.ofString x) p] [] pos) (.int ds.length) := by
  intro P s G Q E q
  obtain ⟨a, V, hnP, O⟩ := G.owns _ _ hx
  refine wpAny_Call_NameR (load_builtin G hk hg Boot.«len» (by decide +kernel) (by decide +kernel) (Calls.callWith_builtin rfl (Calls.evalArgs_plain (Calls.spliced_cons (load_own G V hd (Calls.spliced_nil ?_))))))
  obtain ⟨vs, n, ho, RL⟩ := O
  refine len_list (items := vs.toArray) ⟨_, ho, rfl, n, rfl⟩ (by rw [List.size_toArray, RL.length]; (first | lia | omega)) ?_
  rw [List.size_toArray, RL.length]
  exact q _ s.heap _ P (Step.refl G.ok) (.int _ _)

theorem ev_item_own {x : String} {p pos : Pos} {e : Expr} {ds : List D} {i : Int} {j : Nat} {d : D} (hx : (x, Slot.own (.list ds)) ∈ σ) (hi : Ev c A env σ e (.int i)) (hj : seqIndex? i ds.length = some j) (hdj : ds[j]? = some d) (hf : -1000000 < i ∧ i < 1000000)
    (hs : ∀ o i, subscripted e false o i = operate [o, i] (getItem o i) := by intro _ _; rfl) (hd : ((Str.ofString x) == ("__debug__" : Str)) = false := by decide +kernel) :
    Ev c A env σ (.Subscript (.Name (Str.ofString x) p) e pos) d := by
  intro P s G Q E q
  obtain ⟨a, V, hnP, O⟩ := G.owns _ _ hx
  refine my_Subscript (load_own G V hd (hi.val G fun w h2 t2 P2 S2 G2 R2 => ?_)) (fun o i => ⟨_, hs o i⟩)
  obtain ⟨_, rfl⟩ := R2.int_inv
  obtain ⟨vs, n, ho, RL⟩ := O
  obtain ⟨y, hy, Ry⟩ := RL.get hdj
  have hl : h2.IsList a vs.toArray := ⟨_, S2.ext _ _ ho, rfl, n, rfl⟩
  exact ⟨"list", _, slot_list_getitem.lookup, hl.typeIs, getItem_L hl hf (by rw [RL.length]; exact hj) hy (q y h2 t2 P2 S2 (Ry.mono S2.sub))⟩

theorem RepL.eraseIdx {P : Facts} {vs : List Value} {ds : List D} (h : RepL c P vs ds) (k : Nat) : RepL c P (vs.eraseIdx k) (ds.eraseIdx k) := by
  induction vs generalizing ds k with
  | nil => cases h; exact .nil
  | cons v vs ih =>
    cases h with
    | cons h r => cases k with
      | zero => exact r
      | succ k => exact .cons h (ih r k)

theorem ex_del_own {x : String} {p pos dpos : Pos} {e : Expr} {ds : List D} {i : Int} {j : Nat} {σ' : Sto} (hx : (x, Slot.own (.list ds)) ∈ σ) (hi : Ev c A env σ e (.int i)) (hj : seqIndex? i ds.length = some j) (hf : -1000000 < i ∧ i < 1000000) (hlen : ds.length ≤ sizeLine)
    (hσ : set σ x (.own (.list (ds.eraseIdx j))) = σ') (h : Ex c A env σ' rest N R) (hd : ((Str.ofString x) == ("__debug__" : Str)) = false := by decide +kernel) :
    Ex c A env σ (.Delete [.Subscript (.Name (Str.ofString x) p) e pos] dpos :: rest) N R := by
  subst hσ
  refine ex_seq (N1 := fun σ' => σ' = set σ x (.own (.list (ds.eraseIdx j)))) (fun s₀ P₀ P s F Q E kn kr => ?_) (fun σ' e => e ▸ h)
  obtain ⟨a, V, hnP, O⟩ := F.good.owns _ _ hx
  refine wpAny_Delete (wpAny_deleteEach_cons (wpAny_delete_Subscript (load_own F.good V hd (hi.val F.good fun w h2 t2 P2 S2 G2 R2 => ?_))))
  obtain ⟨_, rfl⟩ := R2.int_inv
  obtain ⟨vs, n, ho, RL⟩ := O
  refine wpAny_delItem_plain (items := vs.toArray) (k := j) ⟨n, S2.ext _ _ ho⟩ ?_ (by rw [List.size_toArray, RL.length]; exact hj) (fun h3 hl3 hs3 => wpAny_deleteEach_nil ?_) (by rw [List.size_toArray, RL.length]; exact hlen)
  · unfold Builtin.List.listFitsIndex; simp only [Bool.and_eq_true, decide_eq_true_eq]; (first | lia | omega)
  · obtain ⟨n3, ho3⟩ := hl3
    refine kn _ P2 h3 t2 rfl S2.sub ((F.step (tk := t2) S2).mutate (a := a) hx (V.keeps S2.ext) (fun b o hb e => hs3.extBut b o hb e) ⟨vs.eraseIdx j, n3, ?_, (RL.mono S2.sub).eraseIdx j⟩)
    rw [ho3]
    simp only [Option.some.injEq, Obj.mk.injEq, Data.seq.injEq, and_true, true_and]
    apply Array.toList_inj.mp
    simp

theorem splitF_length (l sep : List Nat) (hs : sep ≠ []) (hk : ∀ c ∈ sep, c < 256) : (splitF l sep).length ≤ l.length + 1 := (splitF_spec l sep hs hk).length_le hs

theorem my_split {s : Shared} {x y : Str} {t u : Tok} {Q : Value → Shared → Prop} {E : Value → Shared → Prop} (hy : (y.length == 0) = false)
    (hq : ∀ (l : List (Str × Tok)) (tk : Nat), l.map (·.1) = Txt.split x y → Q (.ref s.heap.objs.size) { s with heap := s.heap.push { cls := .type "list", data := .seq (strValues l).toArray }, toks := tk })
    (hsz : x.length ≤ sizeLine) (hsz2 : (Builtin.Str.partsBetween x (Builtin.Str.occurrences x y 0 x.length (x.length + 1)) y.length).length ≤ sizeLine) :
    wpAny c.M A (call (.builtin "str.split") [.str x t, .str y u]) Q E s := by
  cases h1 : (decide (x.length < y.length) || decide (Builtin.Str.strKind x < Builtin.Str.strKind y))
  · cases hf : (Builtin.Str.occurrences x y 0 x.length (x.length + 1)).isEmpty
    · refine call_meets F.slot_str_split (typeIs_str _ _ _) F.entry_str_split (F.args_str_split_2 _ _) (meets_str_split_sep x y t u h1 hy hf hsz hsz2) ?_
      show wants Q E _ { s with toks := _, heap := s.heap.push { cls := .type "list", data := .seq (strsFrom s.toks (Builtin.Str.partsBetween x (Builtin.Str.occurrences x y 0 x.length (x.length + 1)) y.length)).toArray } }
      rw [strsFrom_eq]
      exact hq (numbered s.toks _) _ ((numbered_texts _ _).trans ((if_neg (ne_true_of_eq_false h1)).trans (if_neg (ne_true_of_eq_false hf))).symm)
    · exact call_meets F.slot_str_split (typeIs_str _ _ _) F.entry_str_split (F.args_str_split_2 _ _) (meets_str_split_not_found x y t u h1 hy hf) (hq [(x, t)] _ ((if_neg (ne_true_of_eq_false h1)).trans (if_pos hf)).symm)
  · exact call_meets F.slot_str_split (typeIs_str _ _ _) F.entry_str_split (F.args_str_split_2 _ _) (meets_str_split_cannot_occur x y t u h1) (hq [(x, t)] _ (if_pos h1).symm)

theorem parts_length (x y : Str) (cuts : List Nat) (w : Nat) : (Builtin.Str.partsBetween x cuts w).length = cuts.length + 1 := by
  unfold Builtin.Str.partsBetween
  simp

theorem evf_split {o x : Expr} {apos pos : Pos} {l sep : List Nat} (ho : Ev c A env σ o (.str l)) (hx : Ev c A env σ x (.str sep)) (hs : sep ≠ []) (hl : l.length < 1000000)
    (hbase : attributeBase o (Str.ofString "split") env (eval o env) = eval o env := by rfl) (hline : (apos.endLine == pos.line) = true := by rfl) (he : starEach [x] env = [(false, eval x env)] := by rfl) :
    EvF c A env σ (.Call (.Attribute o (Str.ofString "split") apos) [x] [] pos) (.list ((splitF l sep).map D.str)) := by
  intro P s G Q E q
  refine wpAny_Call_method hbase (by rw [he]; rfl) hline F.plainAttrs_str F.slot_str_split F.type_str_split (ho.val G fun v h1 t1 P1 S1 G1 R1 => ?_)
  obtain ⟨_, rfl⟩ := R1.str_inv
  refine ⟨typeIs_str _ _ _, fun _ e => (nomatch e), Calls.callWith_builtin (by rw [he]; rfl) (evalArgs_L (evl_cons hx evl_nil he) (.inr ⟨_, _, he⟩) G1 fun vs h2 t2 P2 S2 G2 R2 => ?_)⟩
  have hInv := R2.cons_inv; clear R2; obtain ⟨_, _, rfl, Ru, R2⟩ := hInv
  obtain rfl := R2.nil_inv; clear R2; obtain ⟨_, rfl⟩ := Ru.str_inv
  refine my_split ?_ ?_ ?_ ?_
  · rw [S_length]; simpa using hs
  · intro ll tk e
    have S3 : Step P2 P2 h2 (h2.push { cls := .type "list", data := .seq (strValues ll).toArray }) := Step.heap S2.ok fun b o e => Heap.get?_push_of_some _ e
    refine q _ _ _ P2 ((S1.trans S2).trans S3) ?_ (fun o ho => ?_) ⟨strValues ll, 0, Heap.get?_push_size _ rfl, ?_⟩
    · cases z : s.heap.get? h2.objs.size with
      | none => rfl
      | some o => have := S2.ext _ _ (S1.ext _ _ z); rw [fresh_none] at this; cases this
    · have := S2.ok _ _ ho; rw [fresh_none] at this; cases this
    · have := repL_strs (c := c) (P := P2) ll
      rwa [show (ll.map fun p => p.1.cps.toList) = splitF l sep from by unfold splitF; rw [← e, List.map_map]; rfl] at this
  · rw [S_length, sizeLine_val]; (first | lia | omega)
  · rw [parts_length _ (S sep)]
    have := StrLaws.occ_length_le (S l) (S sep) 0 (S l).length ((S l).length + 1)
    rw [S_length] at this ⊢
    rw [sizeLine_val]; (first | lia | omega)
end
end
section

noncomputable def dots : List Nat := [46, 46, 46]
noncomputable def scan (got : List Nat) (e : Nat) : List (List Nat) → Nat → Bool
  | [], _ => true
  | w :: r, st => if findL got w st e < 0 then false else scan got e r ((findL got w st e).toNat + w.length)
noncomputable def matchB (got : List Nat) (ws : List (List Nat)) (st : Nat) : Bool :=
  if ws.getLastD [] = [] then (if got.length < st then false else scan got got.length ws st)
  else if (ws.getLastD []).isSuffixOf got = false then false
  else if got.length - (ws.getLastD []).length < st then false else scan got (got.length - (ws.getLastD []).length) ws.dropLast st
noncomputable def matchF (want got : List Nat) : Bool :=
  if Txt.contains (S want) (S dots) = false then decide (want = got)
  else if (splitF want dots).headD [] = [] then matchB got (splitF want dots) 0
  else if ((splitF want dots).headD []).isPrefixOf got = false then false
  else matchB got (splitF want dots).tail ((splitF want dots).headD []).length

theorem findL_le {l sub : List Nat} {lo hi : Nat} (h : ¬ findL l sub lo hi < 0) : (findL l sub lo hi).toNat + sub.length ≤ hi ∧ lo ≤ (findL l sub lo hi).toNat ∧ findL l sub lo hi = ((findL l sub lo hi).toNat : Int) := by
  rcases findL_spec l sub lo hi with ⟨e, _⟩ | ⟨k, e, h1, h2, _⟩
  · rw [e] at h; exact absurd (by decide) h
  · rw [e]; simp; (first | lia | omega)

theorem eraseIdx_last {α : Type} (l : List α) (h : l ≠ []) : l.eraseIdx (l.length - 1) = l.dropLast := by
  rw [List.dropLast_eq_take, List.eraseIdx_eq_take_drop_succ]
  have : 0 < l.length := List.length_pos_iff.mpr h
  rw [List.drop_of_length_le (by first | lia | omega), List.append_nil]

theorem SplitR.elem {sep l : List Nat} {ps : List (List Nat)} (h : SplitR sep l ps) : ∀ u ∈ ps, u.length ≤ l.length := by
  induction h with
  | last _ => intro u hu; simp at hu; subst hu; exact Nat.le_refl _
  | cut _ _ ih =>
    intro u hu
    rcases List.mem_cons.mp hu with rfl | hu
    · simp
    · have := ih u hu; simp; (first | lia | omega)
theorem splitF_elem (l sep : List Nat) (hs : sep ≠ []) (hk : ∀ c ∈ sep, c < 256) : ∀ u ∈ splitF l sep, u.length ≤ l.length := (splitF_spec l sep hs hk).elem

theorem split_two (want : List Nat) (h : Txt.contains (S want) (S dots) = true) : 2 ≤ (splitF want dots).length := by
  have hs := splitF_spec want dots (by decide) (by decide)
  obtain ⟨i, hi, hp⟩ := (contains_L _ _).mp h
  generalize hps : splitF want dots = ps at hs
  cases hs with
  | last hn => exact absurd hp (hn i)
  | cut h1 h2 =>
    rename_i a b qs
    have : 1 ≤ qs.length := by cases h2 <;> simp
    simp; (first | lia | omega)
end
local macro_rules | `(tactic| walk_at "mmem") => `(tactic| first | exact List.Mem.head _ | (refine List.Mem.tail _ ?_; walk_at "mmem"))
local macro_rules | `(tactic| walk_at "mset") => `(tactic| first
  | with_reducible exact set_nil _ _
  | (with_reducible apply set_miss; decide; walk_at "mset")
  | (with_reducible apply set_hit; walk_at "mset")
  | with_reducible exact del_nil _
  | (with_reducible apply del_miss; decide; walk_at "mset")
  | (with_reducible apply del_hit; walk_at "mset")
  | with_reducible exact setAll_nil _
  | (with_reducible apply setAll_cons; walk_at "mset"; walk_at "mset")
  | (with_reducible apply setAll_rev2; walk_at "mset")
  | (with_reducible apply set_ps; walk_at "mset")
  | with_reducible exact set_ps0 _ _
  | (with_reducible apply del_ps; walk_at "mset")
  | with_reducible exact del_ps0 _)
local macro_rules | `(tactic| walk_at "msub") => `(tactic| first | exact List.forall_mem_nil _ | exact List.forall_mem_cons.mpr ⟨(by walk_at "mmem"), (by walk_at "msub")⟩)
local macro_rules | `(tactic| walk_at "mside") => `(tactic| first | (first | lia | omega) | assumption | decide | exact IntMulOk.of_left (by decide) | (simp only [List.length_append, List.length_map, List.length_cons, List.length_nil, List.length_take, List.length_drop, sizeLine_val]; (first | lia | omega)))
local macro_rules | `(tactic| walk_at "mop") => `(tactic| first
  | (with_reducible (first | exact op_add_int | exact op_sub_int | exact op_lt_int | exact op_gt_int | exact op_ge_int | exact op_eq_int | exact op_ne_int | exact op_eq_str | exact op_ne_str | exact op_is_bool | exact op_isnot_bool | exact op_notin_str | exact op_iadd_int | exact op_isub_int))
  | (with_reducible exact op_add_str (by walk_at "mside"))
  | (with_reducible exact op_iadd_str (by walk_at "mside"))
  | (with_reducible exact op_mod (by walk_at "mside"))
  | (with_reducible exact op_floordiv (by walk_at "mside") (by walk_at "mside"))
  | (with_reducible exact op_mul_int (by walk_at "mside")))
local macro_rules | `(tactic| walk_at "mevo") => `(tactic| first | ((with_reducible show EvO _ _ _ _ none _); exact evo_none) | exact evo_some (by walk_at "mev"))
local macro_rules | `(tactic| walk_at "mev") => `(tactic| first
  | ((with_reducible show Ev _ _ _ _ (Expr.Name _ _) _); exact ev_name (by walk_at "mmem"))
  | ((with_reducible show Ev _ _ _ _ (Expr.Constant (Const.int _) _ _) _); exact ev_int)
  | ((with_reducible show Ev _ _ _ _ (Expr.Constant (Const.str _) _ _) _); exact ev_str (by (with_reducible (first | exact lit_empty | exact lit_dots | exact lit_blank | exact lit_tab | exact lit_nlb | exact lit_a | exact lit_b | exact lit_nl | exact lit_bb | exact lit_aq | exact lit_ab | exact lit_ba | exact lit_aqb | exact lit_abb | exact lit_A | exact lit_B))))
  | ((with_reducible show Ev _ _ _ _ (Expr.Constant (Const.bool _) _ _) _); exact ev_bool)
  | ((with_reducible show Ev _ _ _ _ (Expr.BinOp _ _ _ _) _); exact ev_binop (by walk_at "mev") (by walk_at "mev") (by walk_at "mop"))
  | ((with_reducible show Ev _ _ _ _ (Expr.Compare _ _ _ _) _); exact ev_cmp (by walk_at "mev") (by walk_at "mev") (by walk_at "mop"))
  | ((with_reducible show Ev _ _ _ _ (Expr.UnaryOp _ _ _) _); exact ev_neg (by walk_at "mev"))
  | ((with_reducible show Ev _ _ _ _ (Expr.Call (Expr.Name (Str.ofString "len") _) _ _ _) _); first | (exact ev_len rfl rfl (by walk_at "mev") rfl (by walk_at "mside")) | (exact ev_len_own rfl rfl (by walk_at "mmem") (by walk_at "mside")))
  | ((with_reducible show Ev _ _ _ _ (Expr.Subscript _ (Expr.Slice _ _ _ _) _) _); first | (exact ev_slice_str (by walk_at "mev") (by walk_at "mevo") (by walk_at "mevo") (by walk_at "mside")) | (exact ev_slice_list (by walk_at "mev") (by walk_at "mevo") (by walk_at "mevo") (by walk_at "mside")))
  | ((with_reducible show Ev _ _ _ _ (Expr.Call (Expr.Attribute _ (Str.ofString "upper") _) _ _ _) _); exact ev_upper (by walk_at "mev") (by walk_at "mside") (by walk_at "mside"))
  | ((with_reducible show Ev _ _ _ _ (Expr.Call (Expr.Attribute _ (Str.ofString "startswith") _) _ _ _) _); exact ev_startswith (by walk_at "mev") (by walk_at "mev"))
  | ((with_reducible show Ev _ _ _ _ (Expr.Call (Expr.Attribute _ (Str.ofString "endswith") _) _ _ _) _); exact ev_endswith (by walk_at "mev") (by walk_at "mev"))
  | ((with_reducible show Ev _ _ _ _ (Expr.Tuple _ _ _) _); exact ev_tuple (by walk_at "mevl"))
  | ((with_reducible show Ev _ _ _ _ (Expr.List _ _) _); exact ev_list (by walk_at "mevl")))
local macro_rules | `(tactic| walk_at "mevl") => `(tactic| first | ((with_reducible show EvL _ _ _ _ _ [] _); exact evl_nil) | exact evl_cons (by walk_at "mev") (by walk_at "mevl"))
local macro_rules | `(tactic| walk_at "mevt") => `(tactic| first
  | ((with_reducible show EvT _ _ _ _ (Expr.Compare _ _ _ _) _); exact evt_cmp (by walk_at "mev") (by walk_at "mev") (by walk_at "mop"))
  | ((with_reducible show EvT _ _ _ _ (Expr.BoolOp BoolOp.And [_, _] _) _); exact evt_and (by walk_at "mevt") (by intro hc; (try simp only [decide_eq_true_eq] at hc); walk_at "mevt"))
  | ((with_reducible show EvT _ _ _ _ (Expr.BoolOp BoolOp.Or [_, _] _) _); exact evt_or (by walk_at "mevt") (by intro hc; (try simp only [decide_eq_false_iff_not] at hc); walk_at "mevt"))
  | exact evt_of_ev (by walk_at "mev") rfl)
section
set_option maxRecDepth 100000
noncomputable def cx1 (w : World) (mb : Str → Option Value) : Cx := { prog := Challenge.rw_qc0002_01.row.prog, w := w, K := Mine.hd.heap_39 w.params, mg := mgOf (Mine.hd.heap_39 w.params), mb := mb }

theorem seqIndex_nat {n : Nat} {i : Int} (h0 : 0 ≤ i) (h1 : i < n) : seqIndex? i n = some i.toNat := by
  unfold seqIndex?; dsimp only; rw [if_neg (show ¬ i < 0 by first | lia | omega), if_pos (by simp only [Bool.and_eq_true, decide_eq_true_eq]; (first | lia | omega))]
theorem seqIndex_neg {n : Nat} {i : Int} (h0 : i < 0) (h1 : -(n : Int) ≤ i) : seqIndex? i n = some (n - (-i).toNat) := by
  unfold seqIndex?; dsimp only; rw [if_pos h0, if_pos (by simp only [Bool.and_eq_true, decide_eq_true_eq]; (first | lia | omega))]
  congr 1; (first | lia | omega)

end
section
set_option maxRecDepth 100000
theorem lit_dotsD : (S dots) = Str.ofString "..." := by decide +kernel

structure MatJ1 (want got w0 : List Nat) (res : Bool) (σ' : Sto) (ws : List (List Nat)) (st : Nat) : Prop where
  es : σ' = [("want", .val (.str want)), ("got", .val (.str got)), ("ws", .own (.list (ws.map D.str))), ("endpos", .val (.int got.length)), ("startpos", .val (.int st)), ("w", .val (.str w0))]
  er : res = matchB got ws st
  l1 : 1 ≤ ws.length
  l2 : ws.length ≤ 200000
  hst : st ≤ got.length
  hel : ∀ u ∈ ws, u.length ≤ want.length
structure MatJ2 (want got w1 : List Nat) (ws : List (List Nat)) (st : Nat) (σ' : Sto) (vs : List (List Nat)) (e : Nat) : Prop where
  es : σ' = [("want", .val (.str want)), ("got", .val (.str got)), ("ws", .own (.list (vs.map D.str))), ("endpos", .val (.int e)), ("startpos", .val (.int st)), ("w", .val (.str w1))]
  hE : (if w1 = [] then (if got.length < st then false else scan got got.length ws st) else if w1.isSuffixOf got = false then false else if got.length - w1.length < st then false else scan got (got.length - w1.length) ws.dropLast st) = (if e < st then false else scan got e vs st)
  he : e ≤ got.length
  hel : ∀ u ∈ vs, u.length ≤ want.length
structure MatJ3 (want got : List Nat) (vs : List (List Nat)) (e st i : Nat) (σ : Sto) (q : Nat) (y : List Nat) : Prop where
  hq : q ≤ got.length
  hsc : scan got e vs st = scan got e (vs.drop i) q
  es : σ = [("want", .val (.str want)), ("got", .val (.str got)), ("ws", .val (.list (vs.map D.str))), ("endpos", .val (.int e)), ("startpos", .val (.int q)), ("w", .val (.str y))]

theorem fn_match (w : World) (mb : Str → Option Value) (want got : List Nat) (hw : want.length < 100000) (hg : got.length < 100000) : Fn (cx1 w mb) 1 21 [.str want, .str got] (.bool (matchF want got)) := by
  refine fn_intro (xs := ["want", "got"]) rfl rfl rfl rfl rfl rfl rfl rfl ?_ rfl (by decide +kernel) rfl rfl rfl ?_
  · intro vals h
    obtain ⟨_, _, rfl⟩ := len2 h; exact rfl
  intro A L hA
  refine ex_if_ret (b := !Txt.contains (S want) (S dots)) (evt_cmp (ev_global_str (l := dots) rfl (by rw [lit_dotsD]; rfl)) (by walk_at "mev") op_notin_str) ?_ ?_
  · intro hc
    refine ex_return (by walk_at "mev") ?_
    unfold matchF
    rw [if_pos (by simpa using hc)]
  intro hc
  have hc' : Txt.contains (S want) (S dots) = true := by simpa using hc
  have h2 := split_two want hc'
  have hlen := splitF_length want dots (by decide) (by decide)
  have hm : matchF want got = if (splitF want dots).headD [] = [] then matchB got (splitF want dots) 0 else if ((splitF want dots).headD []).isPrefixOf got = false then false else matchB got (splitF want dots).tail ((splitF want dots).headD []).length := by
    unfold matchF; rw [if_neg (by rw [hc']; decide)]
  rw [hm]
  refine ex_assign_own (evf_split (l := want) (sep := dots) (by walk_at "mev") (ev_global_str rfl (by rw [lit_dotsD]; rfl)) (by decide) (by first | lia | omega)) (.inl rfl) (by walk_at "mset") ?_
  have hel' := splitF_elem want dots (by decide) (by decide)
  generalize splitF want dots = ws at h2 hlen hel'
  have hel := hel'
  have hwl : (ws.map D.str).length = ws.length := List.length_map _
  refine ex_assert (evt_cmp (ev_len_own rfl rfl (by walk_at "mmem") (by rw [hwl]; (first | lia | omega))) (by walk_at "mev") (by
    have := op_ge_int (c := cx1 w mb) (A := A) (a := ((ws.map D.str).length : Int)) (b := 2)
    rwa [show decide (((ws.map D.str).length : Int) ≥ 2) = true from by rw [hwl]; simp; (first | lia | omega)] at this)) ?_
  refine ex_assign_swap (names := [Str.ofString "startpos", Str.ofString "endpos"]) (xs := ["endpos", "startpos"]) (ds := [.int 0, .int got.length]) (by walk_at "mev") hA.handled rfl (.cons stores_bind (.inl rfl) (.cons stores_bind (.inl rfl) .nil)) rfl rfl (by walk_at "mset") ?_
  generalize hres : (if ws.headD [] = [] then matchB got ws 0 else if (ws.headD []).isPrefixOf got = false then false else matchB got ws.tail (ws.headD []).length) = res
  obtain ⟨w0, r0, rfl⟩ : ∃ w0 r0, ws = w0 :: r0 := by cases ws with | nil => simp at h2 | cons a b => exact ⟨a, b, rfl⟩
  change (if w0 = [] then matchB got (w0 :: r0) 0 else if w0.isPrefixOf got = false then false else matchB got r0 w0.length) = res at hres
  have hlw0 : w0.length < 2 ^ 62 := by have := hel w0 (by simp); (first | lia | omega)
  refine ex_assign (d := .str w0) (ev_item_own (i := 0) (j := 0) (by walk_at "mmem") (by walk_at "mev") (seqIndex_nat (by first | lia | omega) (by simp)) rfl (by first | lia | omega)) (.inl rfl) (by walk_at "mset") ?_
  refine ex_if (b := w0.length != 0) (N1 := fun σ' => ∃ (ws : List (List Nat)) (st : Nat), MatJ1 want got w0 res σ' ws st)
    (evt_of_ev (d := .str w0) (by walk_at "mev") (if_pos hlw0)) ?_ ?_ ?_
  · intro hb
    have hne : w0 ≠ [] := by rintro rfl; simp at hb
    simp only [hne, reduceIte] at hres
    refine ex_if (b := w0.isPrefixOf got) (N1 := fun σ' => w0.isPrefixOf got = true ∧ σ' = [("want", .val (.str want)), ("got", .val (.str got)), ("ws", .own (.list (r0.map D.str))), ("endpos", .val (.int got.length)), ("startpos", .val (.int w0.length)), ("w", .val (.str w0))]) (by walk_at "mevt") ?_ ?_ ?_
    · intro hp
      refine ex_assign (by walk_at "mev") (.inl rfl) (by walk_at "mset") ?_
      refine ex_del_own (i := 0) (j := 0) (by walk_at "mmem") (by walk_at "mev") (seqIndex_nat (by first | lia | omega) (by simp)) (by first | lia | omega) (by rw [hwl, sizeLine_val]; (first | lia | omega)) (by walk_at "mset") ?_
      exact ex_nil ⟨hp, rfl⟩
    · intro hp
      refine ex_return (by walk_at "mev") ?_
      simp only [hp, reduceIte] at hres; rw [← hres]
    · rintro σ' ⟨hp, rfl⟩
      refine ex_nil ⟨r0, w0.length, rfl, ?_, ?_, ?_, ?_, ?_⟩
      · simp [hp] at hres; exact hres.symm
      · simp at h2; (first | lia | omega)
      · simp at hlen; (first | lia | omega)
      · exact (List.isPrefixOf_iff_prefix.mp hp).length_le
      · intro u hu; exact hel u (List.mem_cons_of_mem _ hu)
  · intro hb
    have hne : w0 = [] := by simpa using hb
    simp only [hne, reduceIte] at hres
    exact ex_nil ⟨w0 :: r0, 0, rfl, by rw [hne]; exact hres.symm, by first | lia | omega, by first | lia | omega, by first | lia | omega, hel⟩
  rintro σ' ⟨ws, st, rfl, rfl, hl1, hl2, hst, hel⟩
  clear hwl h2 hlen hel' hres hm hc hc'
  have hwl : (ws.map D.str).length = ws.length := List.length_map _
  have hlast : ws[ws.length - 1]? = some (ws.getLastD []) := by
    rw [List.getLastD_eq_getLast?, List.getLast?_eq_getElem?, List.getElem?_eq_getElem (by first | lia | omega)]; rfl
  have hmemL : ws.getLastD [] ∈ ws := List.mem_of_getElem? hlast
  have hll : (ws.getLastD []).length ≤ want.length := hel _ hmemL
  have hll' : (ws.getLastD []).length < 2 ^ 62 := by first | lia | omega
  refine ex_assign (d := .str (ws.getLastD [])) (ev_item_own (i := -1) (j := ws.length - 1) (by walk_at "mmem") (by walk_at "mev") (by rw [hwl]; exact seqIndex_neg (by first | lia | omega) (by first | lia | omega)) (by rw [List.getElem?_map, hlast]; rfl) (by first | lia | omega)) (.inl rfl) (by walk_at "mset") ?_
  unfold matchB
  generalize ws.getLastD [] = w1 at hlast hmemL hll hll'
  refine ex_if (b := w1.length != 0) (N1 := fun σ' => ∃ (vs : List (List Nat)) (e : Nat), MatJ2 want got w1 ws st σ' vs e)
    (evt_of_ev (d := .str w1) (by walk_at "mev") (if_pos hll')) ?_ ?_ ?_
  · intro hb
    have hne : w1 ≠ [] := by rintro rfl; simp at hb
    simp only [hne, reduceIte]
    refine ex_if (b := w1.isSuffixOf got) (N1 := fun σ' => w1.isSuffixOf got = true ∧ σ' = [("want", .val (.str want)), ("got", .val (.str got)), ("ws", .own (.list (ws.dropLast.map D.str))), ("endpos", .val (.int ((got.length - w1.length : Nat) : Int))), ("startpos", .val (.int st)), ("w", .val (.str w1))]) (by walk_at "mevt") ?_ ?_ ?_
    · intro hp
      have hsl : w1.length ≤ got.length := (List.isSuffixOf_iff_suffix.mp hp).length_le
      refine ex_aug (a := .int got.length) (d := .int ((got.length - w1.length : Nat) : Int)) (by walk_at "mmem") (by walk_at "mev") (by rw [Int.ofNat_sub hsl]; walk_at "mop") (.inl rfl) (by walk_at "mset") ?_
      refine ex_del_own (i := -1) (j := ws.length - 1) (by walk_at "mmem") (by walk_at "mev") (by rw [hwl]; exact seqIndex_neg (by first | lia | omega) (by first | lia | omega)) (by first | lia | omega) (by rw [hwl, sizeLine_val]; (first | lia | omega)) (by walk_at "mset") ?_
      refine ex_nil ⟨hp, ?_⟩
      rw [← hwl, eraseIdx_last _ (by intro h; rw [h] at hwl; simp at hwl; (first | lia | omega)), List.map_dropLast]
    · intro hp
      refine ex_return (by walk_at "mev") ?_
      simp [hp]
    · rintro σ' ⟨hp, rfl⟩
      refine ex_nil ⟨ws.dropLast, got.length - w1.length, rfl, ?_, by first | lia | omega, ?_⟩
      · simp [hne, hp]
      · intro u hu; exact hel u (List.dropLast_subset _ hu)
  · intro hb
    have hne : w1 = [] := by simpa using hb
    exact ex_nil ⟨ws, got.length, rfl, by simp only [hne, reduceIte], by first | lia | omega, hel⟩
  rintro σ' ⟨vs, e, rfl, hE, he, hel'⟩
  rw [hE]
  refine ex_if_ret (b := decide ((st : Int) > e)) (by walk_at "mevt") ?_ ?_
  · intro hb
    simp only [decide_eq_true_eq] at hb
    refine ex_return (by walk_at "mev") ?_
    rw [if_pos (by first | lia | omega)]
  intro hb
  simp only [decide_eq_false_iff_not] at hb
  rw [if_neg (by first | lia | omega)]
  refine ex_freeze (x := "ws") (by walk_at "mmem") (by walk_at "mset") ?_
  refine ex_for (J := fun i σ => ∃ (q : Nat) (y : List Nat), MatJ3 want got vs e st i σ q y)
    (f := fun d σ => set σ "w" (.val d)) (evi_list hA.handled (by walk_at "mev")) (fun d _ => binds_name (.inl rfl)) ⟨st, _, hst, rfl, rfl⟩ ?_ ?_
  · rintro i d σ' hd ⟨q, y, hq, hsc, rfl⟩
    rw [List.getElem?_map] at hd
    obtain ⟨u, hu, rfl⟩ := Option.map_eq_some_iff.mp hd
    have hul : u.length ≤ want.length := hel' u (List.mem_of_getElem? hu)
    have hdrop : vs.drop i = u :: vs.drop (i + 1) := by
      obtain ⟨hlt, hge⟩ := List.getElem?_eq_some_iff.mp hu
      rw [List.drop_eq_getElem_cons hlt, hge]
    rw [hdrop, scan] at hsc
    refine ex_conv (show Mine.set _ "w" _ = _ by walk_at "mset") ?_
    refine ex_assign (d := .int (findL got u q e)) (ev_find4 (by walk_at "mev") (by walk_at "mev") (by walk_at "mev") (by walk_at "mev") he) (.inl rfl) (by walk_at "mset") ?_
    refine ex_if_ret (b := decide (findL got u q e < 0)) (by walk_at "mevt") ?_ ?_
    · intro hb
      simp only [decide_eq_true_eq] at hb
      refine ex_return (by walk_at "mev") ?_
      rw [hsc, if_pos hb]
    intro hb
    simp only [decide_eq_false_iff_not] at hb
    obtain ⟨f1, f2, f3⟩ := findL_le hb
    rw [if_neg hb] at hsc
    refine ex_aug (a := .int (findL got u q e)) (d := .int (((findL got u q e).toNat + u.length : Nat) : Int)) (by walk_at "mmem") (by walk_at "mev") (by rw [Int.natCast_add, ← f3]; walk_at "mop") (.inl rfl) (by walk_at "mset") ?_
    exact ex_nil ⟨_, u, by first | lia | omega, hsc, rfl⟩
  · rintro σ' ⟨q, y, hq, hsc, rfl⟩
    refine ex_return (by walk_at "mev") ?_
    rw [hsc, List.drop_of_length_le (by rw [List.length_map]; (first | lia | omega)), scan]
end
section
open Builtin Builtin.Str Builtin.Int
set_option maxRecDepth 100000

theorem map_mro : mroOf (.type "map") = pure [.type "map", .type "object"] := by rw [mroOf_type]; kernel_rfl
theorem map_new : typeLookup (.type "map") "__new__" = pure (some (.builtin "map.__new__")) := by rw [typeLookup_type, builtinLookup_eq_fast]; kernel_rfl
theorem map_init : PySem.Slot "map" "__init__" "object.__init__" :=
  .of (owner := "object") (n := "__init__") (by rw [typeLookup_type, builtinLookup_eq_fast]; kernel_rfl) (by decide +kernel) (by decide +kernel) (by decide +kernel)
    (by first | exact .inl (by decide +kernel) | exact .inr (by decide +kernel)) (by rw [isSubtype_type]; kernel_rfl)
theorem map_sub : isSubtype (.type "map") (.type "map") = pure true := by rw [isSubtype_type]; kernel_rfl
theorem map_called : TypeCalled "map" "map.__new__" "object.__init__" :=
  ⟨by decide +kernel, by decide +kernel, ⟨_, _, map_mro⟩, madeBy_type map_mro map_new (by decide +kernel), by decide +kernel, map_sub, map_init⟩
theorem map_typeCall (a b : Value) : checkTypeCall "map" ⟨[a, b], []⟩ = pure () := by kernel_rfl
theorem map_newCall (a b : Value) : checkBuiltinCall "map.__new__" ⟨[.type "map", a, b], []⟩ = pure () := by kernel_rfl
theorem map_entry_new : entryFor table "map.__new__" = some Builtin.«map.__new__» := entryFor_of_tree (by kernel_rfl)
theorem map_owner : Manifest.owners.lookup (String.ofList ['p', 'a', 'm'].reverse) = some Manifest.sig_map := by kernel_rfl
theorem map_next : PySem.Slot "map" "__next__" "map.__next__" :=
  .of (owner := "map") (n := "__next__") (by rw [typeLookup_type, builtinLookup_eq_fast]; kernel_rfl) (by decide +kernel) (by decide +kernel) (by decide +kernel)
    (by first | exact .inl (by decide +kernel) | exact .inr (by decide +kernel)) (by rw [isSubtype_type]; kernel_rfl)
theorem map_iter : PySem.Slot "map" "__iter__" "map.__iter__" :=
  .of (owner := "map") (n := "__iter__") (by rw [typeLookup_type, builtinLookup_eq_fast]; kernel_rfl) (by decide +kernel) (by decide +kernel) (by decide +kernel)
    (by first | exact .inl (by decide +kernel) | exact .inr (by decide +kernel)) (by rw [isSubtype_type]; kernel_rfl)
theorem map_entry_next : entryFor table "map.__next__" = some Builtin.«map.__next__» := entryFor_of_tree (by kernel_rfl)
theorem map_entry_iter : entryFor table "map.__iter__" = some Builtin.«dict_keyiterator.__iter__» :=
  entryFor_alias (id' := "dict_keyiterator.__iter__") (by kernel_rfl) (by first | rfl | decide +kernel | (unfold String.splitOn; simp +decide [String.splitOnAux])) (by decide +kernel) (by kernel_rfl)
theorem map_args_next (a : Value) : argsOk "map.__next__" ⟨[a], []⟩ := by
  unfold argsOk; rw [signature?_of (id := "map.__next__") (n := ['_', '_', 't', 'x', 'e', 'n', '_', '_']) (o := ['p', 'a', 'm']) (by kernel_rfl) map_owner]; kernel_rfl
theorem map_args_iter (a : Value) : argsOk "map.__iter__" ⟨[a], []⟩ := by
  unfold argsOk; rw [signature?_of (id := "map.__iter__") (n := ['_', '_', 'r', 'e', 't', 'i', '_', '_']) (o := ['p', 'a', 'm']) (by kernel_rfl) map_owner]; kernel_rfl
theorem map_no_len : typeLookup (.type "map") "__len__" = pure none := by rw [typeLookup_type, builtinLookup_eq_fast]; kernel_rfl
theorem map_no_hint : typeLookup (.type "map") "__length_hint__" = pure none := by rw [typeLookup_type, builtinLookup_eq_fast]; kernel_rfl


end
section
open Builtin Builtin.Str Builtin.Int
set_option maxRecDepth 100000
theorem map_newClass (f a : Value) : SmallTypes.newClass "map" ⟨[.type "map", f, a], []⟩ = pure (.type "map", [f, a]) := by
  unfold SmallTypes.newClass
  simp only [isType, map_sub, pure_bind, Bool.not_true, Bool.false_eq_true, if_false]

noncomputable def jObj (l : Addr) : Obj := { cls := .type "list_iterator", data := .fields #[.ref l, .int 0 0] }
noncomputable def tObj (J : Addr) : Obj := { cls := .type "tuple", data := .seq [Value.ref J].toArray }
noncomputable def mObj (f : Value) (T : Addr) : Obj := { cls := .type "map", data := .fields [Value.ref T, f].toArray }

theorem map_made (f : Value) (l : Addr) (items : Array Value) : Meets (Builtin.«map.__new__» ⟨[.type "map", f, .ref l], []⟩) (fun _ R s => s.heap.IsList l items ∧
    R (.ok (.ret (.ref (((s.heap.push (jObj l)).push (tObj s.heap.objs.size)).objs.size)))) { s with heap := ((s.heap.push (jObj l)).push (tObj s.heap.objs.size)).push (mObj f (s.heap.push (jObj l)).objs.size) }) := by
  refine Meets.of_wp fun prog w A R s hs => ?_
  obtain ⟨hl, hR⟩ := hs
  unfold Builtin.«map.__new__»
  refine wpAny_bind (wpAny_of_eq (map_newClass _ _) ?_)
  dsimp only
  refine wpAny_bind (wpAny_of_eq (a := ()) rfl ?_)
  dsimp only [List.length_cons, List.length_nil]
  rw [if_neg (by decide)]
  refine wpAny_bind ?_
  unfold SmallTypes.iterAll
  simp only [List.drop_succ_cons, List.drop_zero, List.forIn_cons, List.forIn_nil]
  refine wpAny_bind (wpAny_bind (wpAny_bind (wpAny_holding (wpAny_pyIter_list hl (wpAny_pure (wpAny_pure (wpAny_pure ?_)))))))
  refine wpAny_bind (wpAny_newObj_type (data := .seq [Value.ref s.heap.objs.size].toArray) ?_ (by simp [sizeOk, sizeLine_val]))
  refine wpAny_bind (wpAny_newObj_type (data := .fields [Value.ref (s.heap.push (jObj l)).objs.size, f].toArray) ?_ (by simp [sizeOk, sizeLine_val]))
  exact wpAny_pure ⟨_, rfl, hR⟩

section
variable {c : Cx} {A : Around} {s : Shared} {E : Value → Shared → Prop}

theorem call_map {f : Value} {l : Addr} {items : Array Value} {Q : Value → Shared → Prop} (hl : s.heap.IsList l items)
    (q : Q (.ref (((s.heap.push (jObj l)).push (tObj s.heap.objs.size)).objs.size)) { s with heap := ((s.heap.push (jObj l)).push (tObj s.heap.objs.size)).push (mObj f (s.heap.push (jObj l)).objs.size) }) :
    wpAny c.M A (call (.type "map") [f, .ref l]) Q E s :=
  callType_new map_called (by decide) (map_typeCall _ _) (map_newCall _ _) (fun obj => F.args_object_init_3 obj _ _) map_entry_new (map_made f l items) ⟨hl, ⟨_, Heap.get?_push_size _ rfl, rfl⟩, q⟩

structure MapSt (f : Value) (I T J l : Addr) (items : Array Value) (i : Nat) (h : Heap) : Prop where
  obj : h.get? I = some (mObj f T)
  tup : h.get? T = some (tObj J)
  it : h.IsListIter J l i
  lst : h.IsList l items

theorem MapSt.keep {f : Value} {I T J l : Addr} {items : Array Value} {i : Nat} {h h' : Heap} (x : MapSt f I T J l items i h) (k : ∀ b ∈ [I, T, J, l], ∀ o, h.get? b = some o → h'.get? b = some o) : MapSt f I T J l items i h' :=
  ⟨k I (by simp) _ x.obj, k T (by simp) _ x.tup, x.it.at fun o e => k J (by simp) o e, x.lst.at fun o e => k l (by simp) o e⟩

theorem map_item {I T J l : Addr} {items : Array Value} {i : Nat} {x : Str} {u : Tok} {Q : Option Value → Shared → Prop} (hIJ : I ≠ J) (hTJ : T ≠ J) (hlJ : l ≠ J) (m : MapSt (.builtin "str.capitalize") I T J l items i s.heap) (hx : items[i]? = some (.str x u)) (hfit : x.length ≤ 5592405)
    (q : ∀ h' t' k, MapSt (.builtin "str.capitalize") I T J l items (i + 1) h' → Heap.SameBut J s.heap h' → Q (some (.str (Txt.capitalize x) t')) { s with heap := h', toks := k }) : wpAny c.M A (pyNext (.ref I)) Q E s := by
  have hT : s.TypeIs (.ref I) "map" := ⟨_, m.obj, rfl⟩
  unfold pyNext
  refine wpAny_bind (wpAny_attempt (wpAny_callSpecial?_slot (name := Str.ofString "__next__") hT map_next (wpAny_call_entry map_next hT map_entry_next ?_ (map_args_next _))))
  unfold Builtin.«map.__next__»
  refine wpAny_bind (wpAny_of_eq (a := (Value.ref I, [])) rfl ?_)
  dsimp only
  refine wpAny_bind (wpAny_field m.obj rfl (x := .ref T) rfl ?_)
  refine wpAny_bind (wpAny_seqItems m.tup rfl ?_)
  simp only [List.forIn_toArray, List.forIn_cons, List.forIn_nil]
  refine wpAny_bind (wpAny_bind (wpAny_bind (wpAny_holding (wpAny_nextOf_list_item m.it m.lst hx fun h' hit' hs' => wpAny_pure (wpAny_pure ?_)))))
  have m' : MapSt (.builtin "str.capitalize") I T J l items (i + 1) h' := ⟨(hs'.2 I hIJ).trans m.obj, (hs'.2 T hTJ).trans m.tup, hit', m.lst.extBut hs'.extBut hlJ⟩
  refine wpAny_bind (wpAny_field m'.obj rfl (x := .builtin "str.capitalize") rfl ?_)
  refine wpAny_bind (wpAny_holding (SC.capitalize (fit_capitalized hfit) fun t' k => ?_))
  refine wpAny_bind (wpAny_letGo ?_)
  exact wpAny_pure ⟨_, rfl, wpAny_pure (q h' t' k m' hs')⟩

theorem map_end {f : Value} {I T J l : Addr} {items : Array Value} {i : Nat} {Q : Option Value → Shared → Prop} (hh : A.handled = none) (m : MapSt f I T J l items i s.heap) (hx : items[i]? = none)
    (q : ∀ h', Heap.ExtBut J s.heap h' → Q none { s with heap := h' }) : wpAny c.M A (pyNext (.ref I)) Q E s := by
  have hT : s.TypeIs (.ref I) "map" := ⟨_, m.obj, rfl⟩
  unfold pyNext
  refine wpAny_bind (wpAny_attempt (wpAny_callSpecial?_slot (name := Str.ofString "__next__") hT map_next (wpAny_call_entry map_next hT map_entry_next ?_ (map_args_next _))))
  unfold Builtin.«map.__next__»
  refine wpAny_bind (wpAny_of_eq (a := (Value.ref I, [])) rfl ?_)
  dsimp only
  refine wpAny_bind (wpAny_field m.obj rfl (x := .ref T) rfl ?_)
  refine wpAny_bind (wpAny_seqItems m.tup rfl ?_)
  simp only [List.forIn_toArray, List.forIn_cons, List.forIn_nil]
  refine wpAny_bind (wpAny_bind (wpAny_bind (wpAny_holding (wpAny_nextOf_list_end hh m.it m.lst hx fun h' e he ⟨o, ho, hc⟩ => ?_))))
  refine wpAny_bind (wpAny_isInstance (T := "StopIteration") (b := true) ⟨o, ho, hc⟩ isSubtype_stop ?_)
  exact wpAny_pure (q h' he)

theorem map_self {f : Value} {I T J l : Addr} {items : Array Value} {i : Nat} {Q : Value → Shared → Prop} (m : MapSt f I T J l items i s.heap) (q : Q (.ref I) s) : wpAny c.M A (pyIter (.ref I)) Q E s := by
  have hT : s.TypeIs (.ref I) "map" := ⟨_, m.obj, rfl⟩
  refine wpAny_pyIter_slot hT map_iter (wpAny_call_entry map_iter hT map_entry_iter ?_ (map_args_iter _))
  show wpAny _ _ (ret (.ref I)) _ _ s
  exact wpAny_pure ⟨_, rfl, "map", _, hT, map_next.lookup, q⟩

theorem map_walks (hh : A.handled = none) {I T J l : Addr} (hIJ : I ≠ J) (hTJ : T ≠ J) (hlJ : l ≠ J) (ps : List (Str × Tok)) (hfit : ∀ p ∈ ps, p.1.length ≤ 5592405) :
    WalksS c.prog c.w A I [I, T, J, l] [J] (fun a b => a = b) ps.length (fun i v => ∃ x u t, ps[i]? = some (x, u) ∧ v = .str (Txt.capitalize x) t) (fun i s => MapSt (.builtin "str.capitalize") I T J l (strValues ps).toArray i s.heap) where
  sub := fun b hb => by simp at hb; simp [hb]
  grefl := fun _ => rfl
  gtrans := fun _ _ _ h1 h2 => h1.trans h2
  frame := fun _ _ _ _ st _ hk => st.keep hk
  item := fun i s Q E hi st hQ => by
    have hx : (strValues ps).toArray[i]? = some (.str ps[i].1 ps[i].2) := by simp [strValues, hi]
    refine wpAny_with_toks (Nat.le_refl _) (map_item (c := c) hIJ hTJ hlJ st hx (hfit _ (List.getElem_mem hi)) fun h' t' k m' hs' hk => ?_)
    exact hQ _ _ ⟨_, _, t', List.getElem?_eq_getElem hi, rfl⟩ m' ⟨fun b o hb e => (hs'.2 b fun h => hb (by simp [h])).trans e, rfl, rfl, rfl, hk⟩
  done := fun s Q E st hQ => map_end (c := c) hh st (by simp [strValues]) fun h' he => hQ _ ⟨fun b o hb e => he b o (fun h => hb (by simp [h])) e, rfl, rfl, rfl, Nat.le_refl _⟩
  self := fun _ _ _ _ st hQ => map_self (c := c) st hQ
end
end
section
open Builtin Builtin.Str Builtin.Int
set_option maxRecDepth 100000
section
variable {c : Cx} {A : Around} {s : Shared} {E : Value → Shared → Prop} {env : Env} {σ : Sto}

theorem map_collect {I : Addr} {fp wr : List Addr} {n : Nat} {Pv : Nat → Value → Prop} {St : Nat → Shared → Prop} {Q : List Value → Shared → Prop}
    (W : WalksS c.prog c.w A.in1 I fp wr (fun a b => a = b) n Pv St) (hT : ∀ i s, St i s → s.TypeIs (.ref I) "map") (hst : St 0 s) (hfp : ∀ b ∈ fp, b < s.heap.objs.size) (hI : I ∈ fp) (hn : n ≤ sizeLine)
    (q : ∀ s' acc, Moved wr (fun a b => a = b) s s' → ItemsOf Pv acc n → Q acc.toList s') : wpAny c.M A (collect (.ref I)) Q E s := by
  have new : s.heap.objs.size ∉ fp := fun hm => Nat.lt_irrefl _ (hfp _ hm)
  have newI : s.heap.objs.size ≠ I := fun e => new (e ▸ hI)
  let L0 : Obj := { cls := .type "list", data := .seq ([] : List Value).toArray }
  unfold collect
  refine wpAny_bind (wpAny_runValue (codeAny_builtin F.entry_proto_collect ?_))
  rw [Around.under_plainId F.plain_proto_collect _]
  show wpAny _ A.in1 (newList [] >>= fun l => again (.builtin "list.__iadd__" ⟨[l, .ref I], []⟩)) _ _ s
  refine wpAny_bind (wpAny_newObj_type ?_)
  refine wpAny_pure ⟨plainId_quiet F.plain_list_iadd _, codeAny_builtin F.entry_list_iadd ?_⟩
  rw [Around.under_plainId F.plain_list_iadd _]
  have st1 := W.frame 0 s (s.heap.push L0) s.toks hst (Nat.le_refl _) fun b _ o e => Heap.get?_push_of_some _ e
  show wpAny _ A.in1 (Builtin.List.listExtendWith (.ref s.heap.objs.size) (.ref I) (.ref s.heap.objs.size)) _ _ _
  unfold Builtin.List.listExtendWith
  refine wpAny_bind (wpAny_typeOf (hT 0 _ st1) ?_)
  have e1 : Builtin.List.listSameRef (.ref s.heap.objs.size) (.ref I) = false := by simp [Builtin.List.listSameRef, newI]
  have e2 : (Value.type "map" == Value.type "list") = false := by decide
  have e3 : (Value.type "map" == Value.type "tuple") = false := by decide
  simp only [e1, e2, e3, Bool.or_false, Bool.false_eq_true, if_false]
  refine wpAny_bind (W.self 0 _ _ _ st1 (wpAny_bind (wpAny_holding ?_)))
  unfold Builtin.List.listLengthHint
  refine wpAny_bind (wpAny_specialOf (hT 0 _ st1) map_no_len ?_)
  show wpAny _ A.in1 (specialOf (Value.ref I) (Str.ofString "__length_hint__") >>= _) _ _ _
  refine wpAny_bind (wpAny_specialOf (hT 0 _ st1) map_no_hint (wpAny_pure ?_))
  show wpAny _ A.in1 (rule "list.extend.makes-room" >>= fun _ => Builtin.List.listTouch (.ref s.heap.objs.size) >>= fun _ =>
    again (.builtin "list.extend.loop" ⟨[.ref s.heap.objs.size, .ref I, .ref s.heap.objs.size], []⟩)) _ _ _
  refine wpAny_bind (wpAny_rule (wpAny_bind ?_))
  have g1 : (s.heap.push L0).get? s.heap.objs.size = some L0 := Heap.get?_push_size _ rfl
  show wpAny _ A.in1 (updateSeq s.heap.objs.size (·.push .none) >>= fun _ => updateSeq s.heap.objs.size (·.pop)) _ _ _
  refine wpAny_bind (wpAny_updateSeq g1 rfl ?_)
  have g2 := Heap.get?_update_self (Obj.mapSeq (·.push Value.none)) g1 rfl
  refine wpAny_updateSeq g2 rfl ?_
  have g3 := Heap.get?_update_self (Obj.mapSeq (·.pop)) g2 rfl
  have oth : ∀ b o, b ≠ s.heap.objs.size → (s.heap.push L0).get? b = some o → (((s.heap.push L0).update s.heap.objs.size (Obj.mapSeq (·.push Value.none))).update s.heap.objs.size (Obj.mapSeq (·.pop))).get? b = some o :=
    fun b o hb e => (Heap.get?_update_other _ _ (Ne.symm hb)).trans ((Heap.get?_update_other _ _ (Ne.symm hb)).trans e)
  refine wpAny_pure ⟨plainId_quiet F.plain_extend_loop _, codeAny_extend_loopS W hn _ new _ n 0 _ _ _ rfl (Nat.zero_le _)
    (W.frame 0 ({ s with heap := s.heap.push L0 } : Shared) _ s.toks st1 (Nat.le_refl _) fun b hb o e => oth b o (fun h => new (h ▸ hb)) e) g3 (ItemsOf.nil Pv) fun s' acc' c' hm hS' hacc => ?_⟩
  show wpAny _ A (load s.heap.objs.size >>= _) _ _ s'
  refine wpAny_bind (wpAny_load hS' (wpAny_pure (q s' acc' (Moved.drop_new (o := L0) (tk := s.toks) (Moved.trans W.gtrans ((Moved.refl W.grefl).then_heap (by first | exact Nat.le_refl _ | exact Nat.le_succ _ | (first | lia | omega)) fun b o hb e => ?_) hm) (Nat.le_refl _)) hacc)))
  exact oth b o (fun h => hb (h ▸ List.mem_cons_self)) e

theorem items_caps : ∀ (ps : List (Str × Tok)) (vs : List Value), vs.length = ps.length → (∀ (j : Nat) v, vs[j]? = some v → ∃ x u t, ps[j]? = some (x, u) ∧ v = Value.str (Txt.capitalize x) t) → ∃ l : List (Str × Tok), strValues l = vs ∧ l.map (·.1) = ps.map fun p => Txt.capitalize p.1
  | [], [], _, _ => ⟨[], rfl, rfl⟩
  | (x, u) :: ps, v :: vs, hl, h => by
    obtain ⟨l, e1, e2⟩ := items_caps ps vs (by simpa using hl) fun j v hv => by simpa using h (j + 1) v (by simpa using hv)
    obtain ⟨x', u', t, e3, e4⟩ := h 0 v rfl
    simp at e3
    obtain ⟨rfl, rfl⟩ := e3
    exact ⟨(Txt.capitalize x, t) :: l, by rw [e4, ← e1]; rfl, by simp [e2]⟩
  | [], _ :: _, h, _ => by simp at h
  | _ :: _, [], h, _ => by simp at h

theorem join_map {sep : Str} {u : Tok} {l : Addr} {ps : List (Str × Tok)} {Q : Value → Shared → Prop} (hh : A.handled = none) (hl : s.heap.IsList l (strValues ps).toArray)
    (hfit : ∀ p ∈ ps, p.1.length ≤ 5592405) (hn : ps.length ≤ sizeLine) (hj : JoinOk sep (ps.map fun p => Txt.capitalize p.1) = true)
    (q : ∀ h' t' k, (∀ b o, s.heap.get? b = some o → h'.get? b = some o) → Q (.str (Txt.join sep (ps.map fun p => Txt.capitalize p.1)) t') { s with heap := h', toks := k }) :
    wpAny c.M A (call (.builtin "str.join") [.str sep u, .ref (((s.heap.push (jObj l)).push (tObj s.heap.objs.size)).objs.size)]) Q E { s with heap := ((s.heap.push (jObj l)).push (tObj s.heap.objs.size)).push (mObj (.builtin "str.capitalize") (s.heap.push (jObj l)).objs.size) } := by
  have eT : (s.heap.push (jObj l)).objs.size = s.heap.objs.size + 1 := by simp [Heap.push]
  have eI : ((s.heap.push (jObj l)).push (tObj s.heap.objs.size)).objs.size = s.heap.objs.size + 2 := by simp [Heap.push]
  have hlt : l < s.heap.objs.size := by obtain ⟨o, ho, _⟩ := hl; exact Heap.lt_size ho
  have m0 : MapSt (.builtin "str.capitalize") ((s.heap.push (jObj l)).push (tObj s.heap.objs.size)).objs.size (s.heap.push (jObj l)).objs.size s.heap.objs.size l (strValues ps).toArray 0
      (((s.heap.push (jObj l)).push (tObj s.heap.objs.size)).push (mObj (.builtin "str.capitalize") (s.heap.push (jObj l)).objs.size)) :=
    ⟨Heap.get?_push_size _ rfl, Heap.get?_push_of_some _ (Heap.get?_push_size _ rfl), ⟨_, Heap.get?_push_of_some _ (Heap.get?_push_of_some _ (Heap.get?_push_size _ rfl)), rfl, rfl⟩, ((hl.push _).push _).push _⟩
  rw [eI] at m0 ⊢
  rw [eT] at m0 ⊢
  have W := map_walks (c := c) (A := A.in1.in1) hh (I := s.heap.objs.size + 2) (T := s.heap.objs.size + 1) (J := s.heap.objs.size) (l := l) (Nat.ne_of_gt (Nat.lt_add_of_pos_right (by decide))) (Nat.succ_ne_self _) (Nat.ne_of_lt hlt) ps hfit
  refine wpAny_call (codeAny_call_builtin F.slot_str_join.plain F.entry_str_join (F.slot_str_join.check _ _ _ _ _ _ _ _ (typeIs_str _ _ _) (F.args_str_join_2 _ _) ?_))
  rw [join_tree_other]
  refine wpAny_bind (wpAny_typeOf (⟨_, m0.obj, rfl⟩ : Shared.TypeIs _ (.ref _) "map") ?_)
  show wpAny _ A.in1 ((pyIter (.ref _)).tryCatch _ >>= fun it => collect it >>= fun items => joinTail sep items) _ _ _
  refine wpAny_bind (wpAny_tryCatch (W.of_in1.self 0 _ _ _ m0 ?_))
  refine wpAny_bind (map_collect W (fun i s st => ⟨_, st.obj, rfl⟩) m0 (fun b hb => ?_) (by simp) hn fun s' acc hm hacc => ?_)
  · show b < (((s.heap.push (jObj l)).push (tObj s.heap.objs.size)).push (mObj (.builtin "str.capitalize") (s.heap.objs.size + 1))).objs.size
    have hsz : (((s.heap.push (jObj l)).push (tObj s.heap.objs.size)).push (mObj (.builtin "str.capitalize") (s.heap.objs.size + 1))).objs.size = s.heap.objs.size + 3 := by simp [Heap.push]
    rw [hsz]
    simp only [List.mem_cons, List.not_mem_nil, or_false] at hb
    rcases hb with rfl | rfl | rfl | rfl
    · exact Nat.lt_succ_self _
    · exact Nat.lt_succ_of_lt (Nat.lt_succ_self _)
    · exact Nat.lt_succ_of_lt (Nat.lt_succ_of_lt (Nat.lt_succ_self _))
    · exact Nat.lt_of_lt_of_le hlt (Nat.le_add_right _ _)
  obtain ⟨ls, e1, e2⟩ := items_caps ps acc.toList (by rw [Array.length_toList, hacc.1]) fun j v hv => hacc.2 j v (by rwa [Array.getElem?_toList] at hv)
  rw [← e1]
  rw [← e2] at hj q
  unfold JoinOk at hj
  rw [Bool.not_eq_true'] at hj
  have g : Gives (joinTail sep (strValues ls)) (joinMade sep ls) := by
    have g0 := gives_joinTail sep ls hj
    cases ls with
    | nil => exact g0
    | cons p r => cases r with
      | nil => exact g0
      | cons q r' => exact g0
  refine g c.prog c.w A (wants Q E) s' (post_join ls ⟨joinFit_length hj, fun t' k => ?_⟩)
  have hs' : s' = { s with heap := s'.heap, toks := s'.toks } := by
    obtain ⟨_, hg, hd, ho, _⟩ := hm
    cases s'; cases s; simp at hg hd ho ⊢
    exact ⟨hg.symm, hd, ho⟩
  rw [hs']
  refine q s'.heap t' k fun b o e => ?_
  have hb := Heap.lt_size e
  refine hm.heap b o (by simp only [List.mem_singleton]; exact Nat.ne_of_lt hb) (Heap.get?_push_of_some _ (Heap.get?_push_of_some _ (Heap.get?_push_of_some _ e)))
end
end
section
open Builtin Builtin.Str Builtin.Int
set_option maxRecDepth 100000

noncomputable def joinL (sep : List Nat) : List (List Nat) → List Nat
  | [] => []
  | [x] => x
  | x :: y :: r => x ++ sep ++ joinL sep (y :: r)

theorem len_le_sum : ∀ {ls : List (List Nat)} {l : List Nat}, l ∈ ls → l.length ≤ (ls.map (·.length)).sum
  | a :: r, l, h => by
    rcases List.mem_cons.mp h with rfl | h
    · simp
    · have := len_le_sum h; simp; (first | lia | omega)

theorem join_L (sep : List Nat) : ∀ ps : List (List Nat), Txt.join (S sep) (ps.map S) = S (joinL sep ps) := by
  intro ps
  show Builtin.Str.glued (S sep) (ps.map S) = _
  rw [StrLaws.glued_eq_join]
  induction ps with
  | nil => rfl
  | cons x r ih =>
    cases r with
    | nil => rfl
    | cons y r =>
      show S x ++ S sep ++ Str.join (S sep) ((y :: r).map S) = S (x ++ sep ++ joinL sep (y :: r))
      rw [ih]
      show (⟨_⟩ : Str) = ⟨_⟩
      congr 1
      show ((x.toArray ++ sep.toArray) ++ (joinL sep (y :: r)).toArray) = _
      simp

theorem joinOk_L (sep : List Nat) (ps : List (List Nat)) (h : (ps.map (·.length)).sum + ps.length * sep.length ≤ 16777216) : JoinOk (S sep) (ps.map S) = true := by
  unfold JoinOk
  rw [StrLaws.joinTotal]
  unfold tooLong
  rw [sizeLine_val, Bool.not_eq_true', decide_eq_false_iff_not]
  rw [List.map_map, List.length_map, S_length]
  have : (ps.map ((fun x : Str => x.length) ∘ S)) = ps.map (·.length) := by
    apply List.map_congr_left; intro a _; exact S_length a
  rw [this]; (first | lia | omega)

section
variable {c : Cx} {A : Around} {env : Env} {σ : Sto}

theorem str_attr_capitalize {s : Shared} {expr : Bool} {Q : Value → Shared → Prop} {E : Value → Shared → Prop} (q : Q (.builtin "str.capitalize") { s with toks := s.toks + 1 }) : wpAny c.M A (getAttr (.type "str") (Str.ofString "capitalize") expr) Q E s := by
  have X : Frag.In [] s.heap := fun a o e => by cases e
  have hstub : opaqueClassAbove (.type "str") = pure none := by unfold opaqueClassAbove; dsimp only; rw [show Manifest.isStub "str" = false from by decide +kernel]; rfl
  refine cls_open (K := []) (mc := .type "type") (hook := none) X (Looks.of_pure hstub) (Looks.of_pure (by kernel_rfl)) type_tga (looks_hook X (r := none) (by rfl)) (by show subIn _ _ _ = _; rfl)
    (r := .val (.builtin "str.capitalize")) (by kernel_rfl) (wpAny_pure (by show wpAny _ _ (handedOut (.builtin "str.capitalize")) _ _ _; rw [handedOut_of (by decide +kernel)]; exact wpAny_pure q))

theorem strs_of_rep {P : Facts} : ∀ {vs : List Value} {ls : List (List Nat)}, RepL c P vs (ls.map D.str) → ∃ ps : List (Str × Tok), vs = strValues ps ∧ ps.map (·.1) = ls.map S := by
  intro vs ls
  induction ls generalizing vs with
  | nil => intro h; obtain rfl := h.nil_inv; exact ⟨[], rfl, rfl⟩
  | cons l ls ih =>
    intro h
    obtain ⟨_, _, rfl, R, RL⟩ := h.cons_inv
    obtain ⟨ps, rfl, e⟩ := ih RL
    obtain ⟨t, rfl⟩ := R.str_inv
    exact ⟨(S l, t) :: ps, rfl, by rw [List.map_cons, List.map_cons, e]⟩

theorem ev_join_map {o e : Expr} {apos pos np sp cp mp : Pos} {sep : List Nat} {ls : List (List Nat)} (hh : A.handled = none)
    (hk : env.kindOf (Str.ofString "map") = some .globalImplicit) (hg : c.mg (Str.ofString "map") = none) (hk2 : env.kindOf (Str.ofString "str") = some .globalImplicit) (hg2 : c.mg (Str.ofString "str") = none)
    (ho : Ev c A env σ o (.str sep)) (he : EvF c A env σ e (.list (ls.map D.str))) (ha : ∀ l ∈ ls, ∀ x ∈ l, x < 128) (hsz : (ls.map (·.length)).sum + ls.length * sep.length ≤ 1000000) (hln : ls.length ≤ 1000000)
    (hbase : attributeBase o (Str.ofString "join") env (eval o env) = eval o env := by rfl) (hline : (apos.endLine == pos.line) = true := by rfl)
    (hs : starEach [.Call (.Name (Str.ofString "map") np) [.Attribute (.Name (Str.ofString "str") sp) (Str.ofString "capitalize") cp, e] [] mp] env = [(false, eval (.Call (.Name (Str.ofString "map") np) [.Attribute (.Name (Str.ofString "str") sp) (Str.ofString "capitalize") cp, e] [] mp) env)] := by rfl)
    (hs2 : starEach [.Attribute (.Name (Str.ofString "str") sp) (Str.ofString "capitalize") cp, e] env = [(false, eval (.Attribute (.Name (Str.ofString "str") sp) (Str.ofString "capitalize") cp) env), (false, eval e env)] := by rfl) :
    Ev c A env σ (.Call (.Attribute o (Str.ofString "join") apos) [.Call (.Name (Str.ofString "map") np) [.Attribute (.Name (Str.ofString "str") sp) (Str.ofString "capitalize") cp, e] [] mp] [] pos) (.str (joinL sep (ls.map capL))) := by
  intro P s G Q E q
  refine wpAny_Call_method hbase (by rw [hs]; rfl) hline F.plainAttrs_str F.slot_str_join F.type_str_join (ho.val G fun v h1 t1 P1 S1 G1 R1 => ?_)
  obtain ⟨_, rfl⟩ := R1.str_inv
  refine ⟨typeIs_str _ _ _, fun _ e => (nomatch e), Calls.callWith_builtin (by rw [hs]; rfl) ?_⟩
  rw [hs]
  refine Calls.evalArgs_plain (Calls.spliced_cons ?_)
  refine wpAny_Call_NameR (load_builtin G1 hk hg Boot.«map» (by decide +kernel) (by decide +kernel) (PySem.callWith_type (by rw [hs2]; rfl) ?_))
  rw [hs2]
  refine Calls.evalArgs_plain (Calls.spliced_cons (Attribute_name (load_builtin G1 hk2 hg2 Boot.«str» (by decide +kernel) (by decide +kernel) (str_attr_capitalize (Calls.spliced_cons ?_)))))
  refine he _ (G1.step (Step.refl G1.ok)) _ E fun a h2 t2 P2 S2 hfr hnP O => Calls.spliced_nil ?_
  obtain ⟨vs, n, hobj, RL⟩ := O
  obtain ⟨ps, rfl, eps⟩ := strs_of_rep RL
  have hl : Heap.IsList h2 a (strValues ps).toArray := ⟨_, hobj, rfl, n, rfl⟩
  refine call_map hl (Calls.spliced_nil ?_)
  have ecap : (ps.map fun p => Txt.capitalize p.1) = (ls.map capL).map S := by
    rw [show (ps.map fun p => Txt.capitalize p.1) = (ps.map (·.1)).map Txt.capitalize from by rw [List.map_map]; rfl, eps, List.map_map, List.map_map]
    apply List.map_congr_left
    intro l hl
    exact capitalize_L l (ha l hl)
  have hlen : ps.length = ls.length := by have := congrArg List.length eps; simpa using this
  have hle : ∀ l ∈ ls, l.length ≤ 1000000 := by
    intro l hl
    have : l.length ≤ (ls.map (·.length)).sum := len_le_sum hl
    (first | lia | omega)
  refine join_map (s := { s with heap := h2, toks := t2 }) hh hl (fun p hp => ?_) (by rw [hlen, sizeLine_val]; (first | lia | omega)) (by rw [ecap]; exact joinOk_L _ _ (by rw [List.map_map, List.length_map, show (ls.map ((fun x : List Nat => x.length) ∘ capL)) = ls.map (·.length) from List.map_congr_left fun l _ => capL_length l]; (first | lia | omega))) fun h' t' k hk => ?_
  · have : p.1 ∈ ls.map S := by rw [← eps]; exact List.mem_map_of_mem hp
    obtain ⟨l, hl, e⟩ := List.mem_map.mp this
    rw [← e, S_length]
    have := hle l hl; (first | lia | omega)
  · rw [ecap, join_L]
    exact q _ _ _ P2 ((S1.trans S2).trans (Step.heap S2.ok hk)) (.str _ _)
end
end
section
open Builtin Builtin.Str Builtin.Int
set_option maxRecDepth 100000

noncomputable def wstep (st : List (List Nat) × List Nat) (x : Nat) : List (List Nat) × List Nat :=
  if Unicode.isSpace x = true then (if st.2 = [] then st else (st.1 ++ [st.2], [])) else (st.1, st.2 ++ [x])
noncomputable def wfin (st : List (List Nat) × List Nat) : List (List Nat) := if st.2 = [] then st.1 else st.1 ++ [st.2]
noncomputable def wordsL (l : List Nat) : List (List Nat) := wfin (l.foldl wstep ([], []))

theorem S_len0 {l : List Nat} : (S l).length = 0 ↔ l = [] := by rw [S_length]; simp
theorem wstep_S (st : List (List Nat) × List Nat) (x : Nat) : KWd.step (st.1.map S, S st.2) x = ((wstep st x).1.map S, S (wstep st x).2) := by
  unfold KWd.step wstep
  by_cases h : Unicode.isSpace x = true
  · rw [if_pos h, if_pos h]
    by_cases h2 : st.2 = []
    · rw [if_pos h2, if_pos (S_len0.mpr h2)]
    · rw [if_neg h2, if_neg (fun h => h2 (S_len0.mp h))]
      simp only [List.map_append, List.map_cons, List.map_nil]
      rfl
  · rw [if_neg h, if_neg h]
    simp only [Prod.mk.injEq, true_and]
    show (⟨_⟩ : Str) = ⟨_⟩
    congr 1
    show st.2.toArray ++ #[x] = _
    simp
theorem wscan_S : ∀ (l : List Nat) (st : List (List Nat) × List Nat), l.foldl KWd.step (st.1.map S, S st.2) = ((l.foldl wstep st).1.map S, S (l.foldl wstep st).2)
  | [], _ => rfl
  | x :: r, st => by rw [List.foldl_cons, List.foldl_cons, wstep_S, wscan_S r]
theorem words_L (l : List Nat) : PySem.wordsOf (S l) = (wordsL l).map S := by
  have h := KWd.wordsOf_scan (S l)
  show ((spaceWords (S l) ((S l).length + 1)).map fun (p : Nat × Nat) => strSub (S l) p.1 p.2) = _
  rw [h]
  unfold KWd.scan
  rw [S_toList]
  have := wscan_S l ([], [])
  simp only [List.map_nil] at this
  rw [show (([], Str.empty) : List Str × Str) = ([], S []) from rfl, this]
  unfold KWd.fin wordsL wfin
  by_cases h2 : (l.foldl wstep ([], [])).2 = []
  · rw [if_pos h2, if_pos (S_len0.mpr h2)]
  · rw [if_neg h2, if_neg (fun h => h2 (S_len0.mp h))]
    simp only [List.map_append, List.map_cons, List.map_nil]

theorem wordsL_weight (l : List Nat) : ((wordsL l).map (·.length)).sum ≤ l.length ∧ (wordsL l).length ≤ l.length ∧ (∀ u ∈ wordsL l, ∀ x ∈ u, x ∈ l) := by
  have key : ∀ (r : List Nat) (st : List (List Nat) × List Nat), (((r.foldl wstep st).1.map (·.length)).sum + (r.foldl wstep st).2.length ≤ (st.1.map (·.length)).sum + st.2.length + r.length) ∧
      ((∀ u ∈ st.1, u ≠ []) → (∀ u ∈ (r.foldl wstep st).1, u ≠ [])) ∧ (∀ P : Nat → Prop, (∀ u ∈ st.1, ∀ x ∈ u, P x) → (∀ x ∈ st.2, P x) → (∀ x ∈ r, P x) → (∀ u ∈ (r.foldl wstep st).1, ∀ x ∈ u, P x) ∧ (∀ x ∈ (r.foldl wstep st).2, P x)) := by
    intro r
    induction r with
    | nil => intro st; exact ⟨by simp, fun h => h, fun P h1 h2 _ => ⟨h1, h2⟩⟩
    | cons x r ih =>
      intro st
      rw [List.foldl_cons]
      obtain ⟨a, b, d⟩ := ih (wstep st x)
      have hw : ((wstep st x).1.map (·.length)).sum + (wstep st x).2.length ≤ (st.1.map (·.length)).sum + st.2.length + 1 := by
        unfold wstep; split
        · split
          · (first | lia | omega)
          · simp
        · simp; (first | lia | omega)
      refine ⟨by simp only [List.length_cons]; (first | lia | omega), fun h => b ?_, fun P h1 h2 h3 => d P ?_ ?_ fun y hy => h3 y (List.mem_cons_of_mem _ hy)⟩
      · unfold wstep; split
        · split
          · exact h
          · rename_i h2; intro u hu; rcases List.mem_append.mp hu with hu | hu
            · exact h u hu
            · rw [List.mem_singleton.mp hu]; exact h2
        · exact h
      · unfold wstep; split
        · split
          · exact h1
          · intro u hu; rcases List.mem_append.mp hu with hu | hu
            · exact h1 u hu
            · rw [List.mem_singleton.mp hu]; exact h2
        · exact h1
      · unfold wstep; split
        · split
          · exact h2
          · intro y hy; cases hy
        · intro y hy; rcases List.mem_append.mp hy with hy | hy
          · exact h2 y hy
          · rw [List.mem_singleton.mp hy]; exact h3 x (by simp)
  obtain ⟨a, b, d⟩ := key l ([], [])
  have b' := b (by simp)
  obtain ⟨d1, d2⟩ := d (· ∈ l) (by simp) (by simp) fun _ h => h
  have hne : ∀ u ∈ wordsL l, u ≠ [] := by
    unfold wordsL wfin; split
    · exact b'
    · rename_i h2; intro u hu; rcases List.mem_append.mp hu with hu | hu
      · exact b' u hu
      · rw [List.mem_singleton.mp hu]; exact h2
  have hsum : ((wordsL l).map (·.length)).sum ≤ l.length := by
    unfold wordsL wfin; split
    · simp at a; (first | lia | omega)
    · simp at a ⊢; (first | lia | omega)
  have hcnt : ∀ ws : List (List Nat), (∀ u ∈ ws, u ≠ []) → ws.length ≤ (ws.map (·.length)).sum := by
    intro ws
    induction ws with
    | nil => simp
    | cons u ws ih =>
      intro h
      have h1 := List.length_pos_iff.mpr (h u (by simp))
      have h2 := ih fun v hv => h v (by simp [hv])
      simp; (first | lia | omega)
  refine ⟨hsum, Nat.le_trans (hcnt _ hne) hsum, ?_⟩
  unfold wordsL wfin; split
  · exact d1
  · intro u hu; rcases List.mem_append.mp hu with hu | hu
    · exact d1 u hu
    · rw [List.mem_singleton.mp hu]; exact d2

section
variable {c : Cx} {A : Around} {env : Env} {σ : Sto}

theorem my_words {s : Shared} {l : List Nat} {t : Tok} {Q : Value → Shared → Prop} {E : Value → Shared → Prop} (hl : l.length < 1000000) (args : List Value) (ha : args = [] ∨ args = [.none])
    (hq : ∀ (ps : List (Str × Tok)) (tk : Nat), ps.map (·.1) = (wordsL l).map S → Q (.ref s.heap.objs.size) { s with heap := s.heap.push { cls := .type "list", data := .seq (strValues ps).toArray }, toks := tk }) :
    wpAny c.M A (call (.builtin "str.split") (.str (S l) t :: args)) Q E s := by
  have hx : (S l).length ≤ sizeLine := by rw [S_length, sizeLine_val]; (first | lia | omega)
  have hn : (spaceWords (S l) ((S l).length + 1)).length ≤ sizeLine := by
    have := congrArg List.length (words_L l)
    simp only [PySem.wordsOf, List.length_map] at this
    rw [this, sizeLine_val]
    have := (wordsL_weight l).2.1
    (first | lia | omega)
  have key : ∀ R : Result → Shared → Prop, R = wants Q E → (if (spaceWords (S l) ((S l).length + 1) == [(0, (S l).length)]) = true then listOfItself (S l) t A R s
    else R (.ok (.ret (.ref s.heap.objs.size))) { s with toks := s.toks + (spaceWords (S l) ((S l).length + 1)).length, heap := s.heap.push { cls := .type "list", data := .seq (strsFrom s.toks (PySem.wordsOf (S l))).toArray } }) := by
    rintro R rfl
    cases hw : spaceWords (S l) ((S l).length + 1) == [(0, (S l).length)]
    · simp only [Bool.false_eq_true, if_false]
      rw [strsFrom_eq]
      exact hq (numbered s.toks (PySem.wordsOf (S l))) _ ((numbered_texts _ _).trans (words_L l))
    · simp only [if_true]
      refine hq [(S l, t)] s.toks ?_
      rw [← words_L]
      have hw' : spaceWords (S l) ((S l).length + 1) = [(0, (S l).length)] := by simpa using hw
      show [S l] = PySem.wordsOf (S l)
      unfold PySem.wordsOf
      rw [hw']
      simp only [List.map_cons, List.map_nil]
      rw [StrLaws.sub_whole]
  rcases ha with rfl | rfl
  · exact call_meets F.slot_str_split (typeIs_str _ _ _) F.entry_str_split (F.args_str_split_1 _) (meets_str_split_space (S l) t hx hn) (key _ rfl)
  · exact call_meets F.slot_str_split (typeIs_str _ _ _) F.entry_str_split (F.args_str_split_2 _ _) ((split_none_eq (S l) t).symm ▸ meets_str_split_space (S l) t hx hn) (key _ rfl)

theorem own_of_words {s : Shared} {P P1 P2 : Facts} {h1 h2 : Heap} {ws : List (List Nat)} {Q : Value → Shared → Prop} (S1 : Step P P1 s.heap h1) (S2 : Step P1 P2 h1 h2) (ps : List (Str × Tok)) (tk : Nat) (e : ps.map (·.1) = ws.map S)
    (q : ∀ a h' tk P', Step P P' s.heap h' → s.heap.get? a = none → (∀ o, ¬ P' a o) → OwnObj c P' h' a (.list (ws.map D.str)) → Q (.ref a) { s with heap := h', toks := tk }) :
    Q (.ref h2.objs.size) { s with heap := h2.push { cls := .type "list", data := .seq (strValues ps).toArray }, toks := tk } := by
  have S3 : Step P2 P2 h2 (h2.push { cls := .type "list", data := .seq (strValues ps).toArray }) := Step.heap S2.ok fun b o e => Heap.get?_push_of_some _ e
  refine q _ _ _ P2 ((S1.trans S2).trans S3) ?_ (fun o ho => ?_) ⟨strValues ps, 0, Heap.get?_push_size _ rfl, ?_⟩
  · cases z : s.heap.get? h2.objs.size with
    | none => rfl
    | some o => have := S2.ext _ _ (S1.ext _ _ z); rw [fresh_none] at this; cases this
  · have := S2.ok _ _ ho; rw [fresh_none] at this; cases this
  · have := repL_strs (c := c) (P := P2) ps
    rwa [show (ps.map fun p => p.1.cps.toList) = ws from by
      rw [show (ps.map fun p => p.1.cps.toList) = (ps.map (·.1)).map (fun x : Str => x.cps.toList) from by rw [List.map_map]; rfl, e, List.map_map]
      conv => rhs; rw [← List.map_id ws]
      apply List.map_congr_left; intro a _; rfl] at this

theorem evf_words1 {o x : Expr} {apos pos : Pos} {l : List Nat} (ho : Ev c A env σ o (.str l)) (hx : Ev c A env σ x .none) (hl : l.length < 1000000)
    (hbase : attributeBase o (Str.ofString "split") env (eval o env) = eval o env := by rfl) (hline : (apos.endLine == pos.line) = true := by rfl) (he : starEach [x] env = [(false, eval x env)] := by rfl) :
    EvF c A env σ (.Call (.Attribute o (Str.ofString "split") apos) [x] [] pos) (.list ((wordsL l).map D.str)) := by
  intro P s G Q E q
  refine wpAny_Call_method hbase (by rw [he]; rfl) hline F.plainAttrs_str F.slot_str_split F.type_str_split (ho.val G fun v h1 t1 P1 S1 G1 R1 => ?_)
  obtain ⟨_, rfl⟩ := R1.str_inv
  refine ⟨typeIs_str _ _ _, fun _ e => (nomatch e), Calls.callWith_builtin (by rw [he]; rfl) (evalArgs_L (evl_cons hx evl_nil he) (.inr ⟨_, _, he⟩) G1 fun vs h2 t2 P2 S2 G2 R2 => ?_)⟩
  have hInv := R2.cons_inv; clear R2; obtain ⟨_, _, rfl, Ru, R2⟩ := hInv
  obtain rfl := R2.nil_inv; clear R2; obtain rfl := Ru.none_inv
  exact my_words hl _ (.inr rfl) fun ps tk e => own_of_words S1 S2 ps tk e q

theorem evf_words0 {o : Expr} {apos pos : Pos} {l : List Nat} (ho : Ev c A env σ o (.str l)) (hl : l.length < 1000000)
    (hbase : attributeBase o (Str.ofString "split") env (eval o env) = eval o env := by rfl) (hline : (apos.endLine == pos.line) = true := by rfl) :
    EvF c A env σ (.Call (.Attribute o (Str.ofString "split") apos) [] [] pos) (.list ((wordsL l).map D.str)) := by
  intro P s G Q E q
  refine wpAny_Call_method hbase (by rfl) hline F.plainAttrs_str F.slot_str_split F.type_str_split (ho.val G fun v h1 t1 P1 S1 G1 R1 => ?_)
  obtain ⟨_, rfl⟩ := R1.str_inv
  refine ⟨typeIs_str _ _ _, fun _ e => (nomatch e), Calls.callWith_builtin rfl (evalArgs_L evl_nil (.inl rfl) G1 fun vs h2 t2 P2 S2 G2 R2 => ?_)⟩
  obtain rfl := R2.nil_inv; clear R2
  exact my_words hl _ (.inl rfl) fun ps tk e => own_of_words S1 S2 ps tk e q

theorem ev_of_evf {e : Expr} {ds : List D} (h : EvF c A env σ e (.list ds)) : Ev c A env σ e (.list ds) := by
  intro P s G Q E q
  refine h s G Q E fun a h' tk P' S hn hP O => ?_
  obtain ⟨vs, n, ho, RL⟩ := O
  let P2 : Facts := fun b o => P' b o ∨ (b = a ∧ o = listO vs n)
  have hsub : ∀ b o, P' b o → P2 b o := fun _ _ h => .inl h
  refine q _ _ _ P2 ⟨S.ext, fun b o h => hsub _ _ (S.sub _ _ h), fun b o h => ?_, fun b o h => ?_⟩ (.list (.inr ⟨rfl, rfl⟩) (RL.mono hsub))
  · rcases h with h | ⟨rfl, rfl⟩
    · exact S.new _ _ h
    · exact .inr hn
  · rcases h with h | ⟨rfl, rfl⟩
    · exact S.ok _ _ h
    · exact ho

theorem ev_join {o e : Expr} {apos pos : Pos} {sep : List Nat} {ls : List (List Nat)} (ho : Ev c A env σ o (.str sep)) (he : Ev c A env σ e (.list (ls.map D.str))) (hsz : (ls.map (·.length)).sum + ls.length * sep.length ≤ 1000000)
    (hbase : attributeBase o (Str.ofString "join") env (eval o env) = eval o env := by rfl) (hline : (apos.endLine == pos.line) = true := by rfl) (hs : starEach [e] env = [(false, eval e env)] := by rfl) :
    Ev c A env σ (.Call (.Attribute o (Str.ofString "join") apos) [e] [] pos) (.str (joinL sep ls)) := by
  refine ev_smeth F.slot_str_join F.type_str_join ho (evl_cons he evl_nil hs) (.inr ⟨_, _, hs⟩) (by rw [hs]; rfl) hbase (by rw [hs]; rfl) hline ?_
  intro P s t vs ok T RL Q E q
  have hInv := RL.cons_inv; clear RL; obtain ⟨_, _, rfl, R, RL⟩ := hInv
  obtain rfl := RL.nil_inv; clear RL
  obtain ⟨a, vs, n, rfl, hp, RL⟩ := R.list_inv
  obtain ⟨ps, rfl, eps⟩ := strs_of_rep RL
  refine SC.join (isList_of ok hp) eps (joinOk_L _ _ (by first | lia | omega)) fun t' k => ?_
  rw [join_L]
  exact q _ _ _ P (Step.refl ok) (.str _ _)
end
end
section
set_option maxRecDepth 100000
noncomputable def capF2 (s sep : List Nat) : List Nat := joinL sep ((splitF s sep).map capL)
noncomputable def capF1 (s : List Nat) : List Nat := joinL [32] ((wordsL s).map capL)

theorem SplitR.weight {sep l : List Nat} {ps : List (List Nat)} (h : SplitR sep l ps) : (ps.map (·.length)).sum + (ps.length - 1) * sep.length = l.length ∧ 1 ≤ ps.length ∧ ∀ u ∈ ps, ∀ x ∈ u, x ∈ l := by
  induction h with
  | last _ => simp
  | @cut a b ps _ _ ih =>
    obtain ⟨h1, h2, h3⟩ := ih
    refine ⟨?_, by simp, fun u hu x hx => ?_⟩
    · have e : (a :: ps).length - 1 = (ps.length - 1) + 1 := by simp; (first | lia | omega)
      rw [e, Nat.succ_mul]
      simp only [List.map_cons, List.sum_cons, List.length_append]; (first | lia | omega)
    · rcases List.mem_cons.mp hu with rfl | hu
      · simp [hx]
      · simp [h3 u hu x hx]

section
variable {c : Cx} {A : Around} {env : Env} {σ : Sto}
theorem ev_or_str {x y : Expr} {pos : Pos} {l : List Nat} (hx : Ev c A env σ x (.str l)) (hne : l ≠ []) (hl : l.length < 2 ^ 62) {b : D} (hy : Ev c A env σ y b) : Ev c A env σ (.BoolOp .Or [x, y] pos) (.str l) := by
  have h := ev_or (pos := pos) (t := l.length != 0) hx (if_pos hl) (fun _ => hy)
  rwa [show (l.length != 0) = true from by simpa using hne] at h
theorem ev_or_none {x y : Expr} {pos : Pos} {b : D} (hx : Ev c A env σ x .none) (hy : Ev c A env σ y b) : Ev c A env σ (.BoolOp .Or [x, y] pos) b := ev_or (t := false) hx rfl fun _ => hy
end

theorem fn_cap2 (w : World) (mb : Str → Option Value) (s sep : List Nat) (hs : s.length ≤ 1000) (hp : sep.length ≤ 100) (hne : sep ≠ []) (ha : ∀ x ∈ s, x < 128) (hk : ∀ x ∈ sep, x < 256) : Fn (cx1 w mb) 1 29 [.str s, .str sep] (.str (capF2 s sep)) := by
  refine fn_introD (xs := ["s", "sep"]) [] [] (fun _ => .nil) rfl rfl rfl rfl rfl rfl rfl rfl ?_ rfl (by decide +kernel) rfl rfl rfl ?_
  · intro st vals hX h
    obtain ⟨_, _, rfl⟩ := len2 h; exact binds_K hX rfl rfl rfl rfl rfl
  intro A L hA
  obtain ⟨h1, h2, h3⟩ := (splitF_spec s sep hne hk).weight
  have hl := splitF_length s sep hne hk
  have hmul : (splitF s sep).length * sep.length ≤ 1001 * 100 := Nat.mul_le_mul (by first | lia | omega) hp
  refine ex_return (ev_join_map (sep := sep) (ls := splitF s sep) hA.handled rfl rfl rfl rfl (ev_or_str (by walk_at "mev") hne (by first | lia | omega) (by walk_at "mev")) (evf_split (by walk_at "mev") (by walk_at "mev") hne (by first | lia | omega)) (fun u hu x hx => ha x (h3 u hu x hx)) (by first | lia | omega) (by first | lia | omega)) rfl

theorem fn_cap1 (w : World) (mb : Str → Option Value) (s : List Nat) (hs : s.length ≤ 1000) (ha : ∀ x ∈ s, x < 128) : Fn (cx1 w mb) 1 29 [.str s] (.str (capF1 s)) := by
  refine fn_introD (xs := ["s", "sep"]) [Value.none] [D.none] (fun _ => .cons .none .nil) rfl rfl rfl rfl rfl rfl rfl rfl ?_ rfl (by decide +kernel) rfl rfl rfl ?_
  · intro st vals hX h
    obtain ⟨_, rfl⟩ := len1 h; exact binds_K hX rfl rfl rfl rfl rfl
  intro A L hA
  obtain ⟨h1, h2, h3⟩ := wordsL_weight s
  refine ex_return (ev_join_map (sep := [32]) (ls := wordsL s) hA.handled rfl rfl rfl rfl (ev_or_none (by walk_at "mev") (by walk_at "mev")) (evf_words1 (by walk_at "mev") (by walk_at "mev") (by first | lia | omega)) (fun u hu x hx => ha x (h3 u hu x hx)) (by simp; (first | lia | omega)) (by first | lia | omega)) rfl
end
section
set_option maxRecDepth 100000

noncomputable abbrev Trip := Int × Int × Int
noncomputable def T3 (t : Trip) : D := .tup [.int t.1, .int t.2.1, .int t.2.2]
noncomputable def P3 (t : Trip) : PyData := .tuple [.int t.1, .int t.2.1, .int t.2.2]

section
variable {c : Cx} {A : Around} {env : Env} {σ : Sto}

theorem reads_strs {P : Facts} {h : Heap} : ∀ {vs : List Value} {ls : List (List Nat)}, RepL c P vs (ls.map D.str) → ReadsAll h vs (ls.map fun l => PyData.str (S l)) []
  | [], [], _ => .nil
  | v :: vs, n :: ns, hr => by
    cases hr with
    | cons R RL =>
      cases R with
      | str _ t => exact ReadsAll.cons (as := []) (bs := []) (.str _ t) (reads_strs RL)
  | [], _ :: _, h => by cases h
  | _ :: _, [], h => by cases h
theorem reads_list {P : Facts} {h : Heap} (ok : ∀ a o, P a o → h.get? a = some o) {v : Value} {ds : List D} {xs : List PyData} (R : Rep c P v (.list ds)) (H : ∀ vs, RepL c P vs ds → ReadsAll h vs xs []) : ∃ as, Reads h v (.list xs) as := by
  cases R with
  | list hp RL => exact ⟨_, .list (ok _ _ hp) rfl rfl (by simpa using H _ RL)⟩

theorem deep_strs : ∀ ls : List (List Nat), PyData.depthAll (ls.map fun l => PyData.str (S l)) = 0
  | [] => rfl
  | n :: ns => by rw [List.map_cons, PyData.depthAll, deep_strs ns]; rfl
theorem strOk_ascii (l : List Nat) (h : ∀ x ∈ l, x < 128) : PyData.strOk (S l) = true := by
  unfold PyData.strOk
  simp only [S]
  rw [List.all_toArray, List.all_eq_true]
  intro x hx
  have := h x hx
  simp; (first | lia | omega)
theorem lay_strs : ∀ ls : List (List Nat), (∀ l ∈ ls, ∀ x ∈ l, x < 128) → PyData.canLayAll0 (ls.map fun l => PyData.str (S l)) = true
  | [], _ => rfl
  | l :: ls, h => by
    rw [List.map_cons, PyData.canLayAll0, lay_strs ls fun m hm => h m (List.mem_cons_of_mem _ hm), Bool.and_true]
    exact strOk_ascii l (h l (List.mem_cons_self ..))

theorem eqv_strs : ∀ ns ms : List (List Nat), PyData.eqvAll (ns.map fun l => PyData.str (S l)) (ms.map fun l => PyData.str (S l)) = decide (ns = ms)
  | [], [] => rfl
  | [], _ :: _ => by simp [PyData.eqvAll]
  | _ :: _, [] => by simp [PyData.eqvAll]
  | n :: ns, m :: ms => by
    simp only [List.map_cons, PyData.eqvAll, PyData.eqv, eqv_strs ns ms, S_beq]
    by_cases h1 : n = m <;> by_cases h2 : ns = ms <;> simp [h1, h2]

theorem cmp_eq {P : Facts} {s : Shared} {u v : Value} {xs ys : List PyData} (hu : A.units + 10 < cLine) (ru : ∃ as, Reads s.heap u (.list xs) as) (rv : ∃ as, Reads s.heap v (.list ys) as) (hx : PyData.canLayAll0 xs = true) (hy : PyData.canLayAll0 ys = true) (hd : PyData.depthAll xs ≤ 5)
    {Q : Value → Shared → Prop} {E : Value → Shared → Prop} (q : Q (.bool (PyData.eqvAll xs ys)) s) : wpAny c.M A (compareOp .Eq u v) Q E s := by
  obtain ⟨as, ru⟩ := ru
  obtain ⟨bs, rv⟩ := rv
  exact SeqAt.compareEq_reads ru rv hx hy (by have : (PyData.list xs).depth = PyData.depthAll xs + 1 := rfl; (first | lia | omega)) q
theorem op_eq_strs {k : Nat} (hA : AOk k A) {ns ms : List (List Nat)} (hn : ∀ l ∈ ns, ∀ x ∈ l, x < 128) (hm : ∀ l ∈ ms, ∀ x ∈ l, x < 128) : Op2 c A (compareOp .Eq) (.list (ns.map D.str)) (.list (ms.map D.str)) (.bool (decide (ns = ms))) := by
  intro P s u v ok Ru Rv Q E q
  refine cmp_eq (P := P) (by have := hA.units; (first | lia | omega)) (reads_list ok Ru fun _ => reads_strs) (reads_list ok Rv fun _ => reads_strs) (lay_strs _ hn) (lay_strs _ hm) (by rw [deep_strs]; (first | lia | omega)) ?_
  rw [eqv_strs]; exact q _ _ s.toks P (Step.refl ok) (.bool _)
end
end
section
set_option maxRecDepth 100000

section
variable {c : Cx} {A : Around} {env : Env} {σ : Sto} {rest : List Stmt} {N : Sto → Prop} {R : D → Prop}

theorem evf_list {es : List Expr} {ds : List D} {pos : Pos} (h : EvL c A env σ pos es ds) (hl : ds.length ≤ sizeLine := by exact Nat.le_of_ble_eq_true rfl) : EvF c A env σ (.List es pos) (.list ds) := by
  intro P s G Q E q
  refine wpAny_List (h s G _ E fun vs h1 t1 P1 S1 R1 => ⟨by rw [R1.length]; exact hl, ?_⟩)
  have S2 : Step P1 P1 h1 (h1.push (listO vs 0)) := Step.heap S1.ok fun b o e => Heap.get?_push_of_some _ e
  refine q _ _ _ P1 (S1.trans S2) ?_ (fun o ho => ?_) ⟨vs, 0, Heap.get?_push_size _ rfl, R1⟩
  · cases z : s.heap.get? h1.objs.size with
    | none => rfl
    | some o => have := S1.ext _ _ z; rw [fresh_none] at this; cases this
  · have := S1.ok _ _ ho; rw [fresh_none] at this; cases this

theorem op_add_list {a b : List D} (h : a.length + b.length ≤ sizeLine) : Op2 c A (binaryOp .Add) (.list a) (.list b) (.list (a ++ b)) := by
  intro P s u v ok Ru Rv Q E q
  obtain ⟨x, us, n, rfl, hp, RL⟩ := Ru.list_inv
  obtain ⟨y, vs, k, rfl, hp2, RL2⟩ := Rv.list_inv
  refine PySem.P.add_list (items := us.toArray) (items2 := vs.toArray) (ok _ _ hp) (ok _ _ hp2) ?_ (by simp [RL.length, RL2.length]; exact h)
  have S2 := push_step (o := listO (us ++ vs) 0) ok
  have e : (us.toArray ++ vs.toArray) = (us ++ vs).toArray := by simp
  rw [e]
  exact q _ _ s.toks _ S2 (.list (.inr ⟨rfl, rfl⟩) ((RL.append RL2).mono S2.sub))

end
end
section
set_option maxRecDepth 100000

noncomputable def dput (kvs : List (List Nat × D)) (k : List Nat) (d : D) : List (List Nat × D) :=
  if kvs.any (fun kv => decide (kv.1 = k)) then kvs.map (fun kv => if kv.1 = k then (kv.1, d) else kv) else kvs ++ [(k, d)]
noncomputable def dget (kvs : List (List Nat × D)) (k : List Nat) : Option D := (kvs.find? fun kv => decide (kv.1 = k)).map (·.2)

inductive RK (c : Cx) (P : Facts) : List (Str × Value) → List (List Nat × D) → Prop
  | nil : RK c P [] []
  | cons {k : List Nat} {v : Value} {vs : List (Str × Value)} {d : D} {kvs : List (List Nat × D)} : Rep c P v d → RK c P vs kvs → RK c P ((S k, v) :: vs) ((k, d) :: kvs)

section
variable {c : Cx} {P : Facts}
theorem RK.keys {vs : List (Str × Value)} {kvs : List (List Nat × D)} (h : RK c P vs kvs) : vs.map (·.1) = (kvs.map (·.1)).map S := by
  induction h with
  | nil => rfl
  | cons R _ ih => simp [ih]
theorem RK.length {vs : List (Str × Value)} {kvs : List (List Nat × D)} (h : RK c P vs kvs) : vs.length = kvs.length := by
  have := congrArg List.length h.keys; simpa using this
theorem nodup_S {l : List (List Nat)} : (l.map S).Nodup ↔ l.Nodup := by
  induction l with
  | nil => simp
  | cons a r ih =>
    rw [List.map_cons, List.nodup_cons, List.nodup_cons, ih]
    constructor
    · rintro ⟨h1, h2⟩; exact ⟨fun h => h1 (List.mem_map.mpr ⟨a, h, rfl⟩), h2⟩
    · rintro ⟨h1, h2⟩
      refine ⟨fun h => h1 ?_, h2⟩
      obtain ⟨b, hb, e⟩ := List.mem_map.mp h
      rwa [← S_inj.mp e]
theorem RK.get {vs : List (Str × Value)} {kvs : List (List Nat × D)} (h : RK c P vs kvs) {k : List Nat} {d : D} (hk : dget kvs k = some d) : ∃ v, valueAt vs (S k) = some v ∧ Rep c P v d := by
  induction h with
  | nil => cases hk
  | @cons k' v vs d' kvs R _ ih =>
    unfold dget at hk ih
    unfold valueAt at ih ⊢
    rw [List.find?_cons] at hk ⊢
    by_cases e : k' = k
    · subst e
      simp at hk ⊢
      subst hk; exact R
    · rw [show decide (k' = k) = false from decide_eq_false e] at hk
      rw [show decide (S k' = S k) = false from decide_eq_false fun h => e (S_inj.mp h)]
      exact ih hk
theorem RK.get_none {vs : List (Str × Value)} {kvs : List (List Nat × D)} (h : RK c P vs kvs) {k : List Nat} (hk : dget kvs k = none) : valueAt vs (S k) = none := by
  induction h with
  | nil => rfl
  | @cons k' v vs d' kvs R _ ih =>
    unfold dget at hk ih
    unfold valueAt at ih ⊢
    rw [List.find?_cons] at hk ⊢
    by_cases e : k' = k
    · subst e
      simp at hk
    · rw [show decide (k' = k) = false from decide_eq_false e] at hk
      rw [show decide (S k' = S k) = false from decide_eq_false fun h => e (S_inj.mp h)]
      exact ih hk
theorem RK.any {vs : List (Str × Value)} {kvs : List (List Nat × D)} (h : RK c P vs kvs) (k : List Nat) : (vs.any fun kv => decide (kv.1 = S k)) = kvs.any fun kv => decide (kv.1 = k) := by
  induction h with
  | nil => rfl
  | @cons k' v vs d' kvs R _ ih =>
    rw [List.any_cons, List.any_cons, ih]
    congr 1
    rw [Bool.eq_iff_iff, decide_eq_true_eq, decide_eq_true_eq]
    exact S_inj
theorem RK.put1 {vs : List (Str × Value)} {kvs : List (List Nat × D)} (h : RK c P vs kvs) {k : List Nat} {v : Value} {d : D} (R : Rep c P v d) : RK c P (vs.map fun kv => if kv.1 = S k then (kv.1, v) else kv) (kvs.map fun kv => if kv.1 = k then (kv.1, d) else kv) := by
  induction h with
  | nil => exact .nil
  | @cons k' v' vs d' kvs R' _ ih =>
    rw [List.map_cons, List.map_cons]
    by_cases e : k' = k
    · subst e
      simp only [if_true]; exact .cons R ih
    · simp only [e, if_false, S_inj]
      exact .cons R' ih
theorem RK.put2 {vs : List (Str × Value)} {kvs : List (List Nat × D)} (h : RK c P vs kvs) {k : List Nat} {v : Value} {d : D} (R : Rep c P v d) : RK c P (vs ++ [(S k, v)]) (kvs ++ [(k, d)]) := by
  induction h with
  | nil => exact .cons R .nil
  | cons R' _ ih => exact .cons R' ih
theorem RK.put {vs : List (Str × Value)} {kvs : List (List Nat × D)} (h : RK c P vs kvs) {k : List Nat} {v : Value} {d : D} (R : Rep c P v d) : RK c P (stored vs (S k) v) (dput kvs k d) := by
  unfold stored dput
  rw [h.any]
  split
  · exact h.put1 R
  · exact h.put2 R

theorem pairs_of_repK {es : List DictEntry} {kvs : List (List Nat × D)} (h : RepK c P es kvs) : ∃ vs, Pairs (PySem.strKind c.prog c.w) es vs ∧ (∀ e ∈ es, ∃ k, (PySem.strKind c.prog c.w).is k e.key = true ∧ e.hash = (PySem.strKind c.prog c.w).hash k) ∧ RK c P vs kvs := by
  induction kvs generalizing es with
  | nil => cases h; exact ⟨[], .nil, by simp, .nil⟩
  | cons kv kvs ih =>
    cases h with
    | @cons k t v es d kvs R r =>
      obtain ⟨vs, h1, h2, h3⟩ := ih r
      refine ⟨(S k, v) :: vs, .cons (strKind_is _ _ _ _) rfl h1, ?_, .cons R h3⟩
      intro e he
      rcases List.mem_cons.mp he with rfl | he
      · exact ⟨S k, strKind_is _ _ _ _, rfl⟩
      · exact h2 e he
theorem repK_of_pairs {es : List DictEntry} {vs : List (Str × Value)} (h : Pairs (PySem.strKind c.prog c.w) es vs) (hk : ∀ e ∈ es, ∃ k, (PySem.strKind c.prog c.w).is k e.key = true ∧ e.hash = (PySem.strKind c.prog c.w).hash k) : ∀ {kvs : List (List Nat × D)}, RK c P vs kvs → RepK c P es kvs := by
  induction h with
  | nil => intro kvs r; cases r; exact .nil
  | @cons e kv es vs h1 h2 _ ih =>
    intro kvs r
    cases r with
    | @cons k v _ d kvs R r =>
      obtain ⟨hh, kk, ee⟩ := e
      obtain ⟨k', a1, a2⟩ := hk _ (.head _)
      obtain ⟨t, e1⟩ := Value.isStrOf_shape h1
      obtain ⟨t', e2⟩ := Value.isStrOf_shape a1
      simp only at e1 e2 h2 a2
      subst e1; subst h2
      cases e2
      subst a2
      exact .cons R (ih (fun e he => hk e (.tail _ he)) r)

theorem dictOf_of {h : Heap} {a : Addr} {es : List DictEntry} {n : Nat} {kvs : List (List Nat × D)} (ho : h.get? a = some (dictO es n)) (r : RepK c P es kvs) (hn : (kvs.map (·.1)).Nodup) : ∃ vs, h.DictOf (PySem.strKind c.prog c.w) a vs ∧ RK c P vs kvs := by
  obtain ⟨vs, h1, h2, h3⟩ := pairs_of_repK r
  refine ⟨vs, ⟨_, es.toArray, n, ho, ⟨rfl, rfl, rfl⟩, rfl, fun e he => h2 e (by simpa using he), by simpa using h1, ?_⟩, h3⟩
  rw [h3.keys]; exact nodup_S.mpr hn
theorem of_dictOf {h : Heap} {a : Addr} {vs : List (Str × Value)} {kvs : List (List Nat × D)} (hd : h.DictOf (PySem.strKind c.prog c.w) a vs) (r : RK c P vs kvs) : ∃ es n, h.get? a = some (dictO es n) ∧ RepK c P es kvs := by
  obtain ⟨o, es, ep, ho, ⟨hc, hdc, hsl⟩, hda, hk, hp, _⟩ := hd
  refine ⟨es.toList, ep, ?_, repK_of_pairs hp (fun e he => hk e (by simpa using he)) r⟩
  rw [ho]
  obtain ⟨oc, od, oda, osl⟩ := o
  simp only at hc hdc hsl hda
  subst hc; subst hdc; subst hsl; subst hda
  simp [dictO]
end

section
variable {c : Cx} {A : Around} {env : Env} {σ : Sto} {rest : List Stmt} {N : Sto → Prop} {R : D → Prop}

inductive RV (c : Cx) (P : Facts) : List (Value × Value) → List (List Nat × D) → Prop
  | nil : RV c P [] []
  | cons {k : List Nat} {t : Tok} {v : Value} {vs : List (Value × Value)} {d : D} {kvs : List (List Nat × D)} : Rep c P v d → RV c P vs kvs → RV c P ((.str (S k) t, v) :: vs) ((k, d) :: kvs)
theorem RV.carries {P : Facts} {vs : List (Value × Value)} {kvs : List (List Nat × D)} (h : RV c P vs kvs) : ∃ ws, Carries (PySem.strKind c.prog c.w) vs ws ∧ RK c P ws kvs := by
  induction h with
  | nil => exact ⟨[], trivial, .nil⟩
  | @cons k t v vs d kvs R _ ih =>
    obtain ⟨ws, h1, h2⟩ := ih
    exact ⟨(S k, v) :: ws, ⟨strKind_is _ _ _ _, rfl, h1⟩, .cons R h2⟩

noncomputable def EvP (c : Cx) (A : Around) (env : Env) (σ : Sto) (pos : Pos) (ks : List (Option Expr)) (es : List Expr) (kvs : List (List Nat × D)) : Prop :=
  ∀ ⦃P : Facts⦄ (s : Shared), Good c env σ P s → ∀ (Q : List (Value × Value) → Shared → Prop) (E : Value → Shared → Prop),
    (∀ vs h' tk P', Step P P' s.heap h' → RV c P' vs kvs → Q vs { s with heap := h', toks := tk }) → wpAny c.M A (evalPairs (pairTrees ks es env pos)) Q E s
theorem evp_nil {pos : Pos} : EvP c A env σ pos [] [] [] := by
  intro P s G Q E k
  exact pairTrees_nil_walk (k [] s.heap s.toks P (Step.refl G.ok) .nil)
theorem evp_cons {pos : Pos} {k e : Expr} {ks : List (Option Expr)} {es : List Expr} {l : List Nat} {d : D} {kvs : List (List Nat × D)} (hk : Ev c A env σ k (.str l)) (he : Ev c A env σ e d) (hs : EvP c A env σ pos ks es kvs) : EvP c A env σ pos (some k :: ks) (e :: es) ((l, d) :: kvs) := by
  intro P s G Q E q
  refine pairTrees_cons_walk (hk.val G fun u h1 t1 P1 S1 G1 R1 => he.val G1 fun v h2 t2 P2 S2 G2 R2 => hs _ G2 _ E fun vs h3 t3 P3 S3 R3 => ?_)
  obtain ⟨_, rfl⟩ := R1.str_inv
  exact q _ h3 t3 P3 ((S1.trans S2).trans S3) (.cons (R2.mono S3.sub) R3)

theorem size_ne {h : Heap} (T : Tops c h) : h.objs.size ≠ sysModules := by
  have := T.g.lt
  show h.objs.size ≠ 1
  have h3 : (3 : Nat) < h.objs.size := this
  (first | lia | omega)
theorem evf_dict {ks : List (Option Expr)} {es : List Expr} {pos : Pos} {kvs : List (List Nat × D)} (h : EvP c A env σ pos ks es kvs) (hn : (kvs.map (·.1)).Nodup) (hall : ks.all (·.isSome) = true := by rfl) (hl : ks.length = es.length := by rfl) (h0 : ks ≠ [] := by simp) (hlen : ks.length ≤ 15 := by decide) :
    EvF c A env σ (.Dict ks es pos) (.dict kvs) := by
  intro P s G Q E q
  have S0 : Step P P s.heap (s.heap.push { cls := .type "dict", data := .dict #[] }) := Step.heap G.ok fun b o e => Heap.get?_push_of_some _ e
  refine wpAny_Dict_walk (knd := PySem.strKind c.prog c.w) hall hl h0 hlen (h _ (G.step (tk := s.toks) S0) _ E fun vs h1 t1 P1 S1 R1 => ?_)
  obtain ⟨ws, c1, c2⟩ := R1.carries
  have hws : (ws.map (·.1)).Nodup := by rw [c2.keys]; exact nodup_S.mpr hn
  have hnew : h1.DictOf (PySem.strKind c.prog c.w) s.heap.objs.size [] := by
    obtain ⟨o, es, ep, ho, r⟩ := Heap.DictOf.new (knd := PySem.strKind c.prog c.w) s.heap
    exact ⟨o, es, ep, S1.ext _ _ ho, r⟩
  have hsz : s.heap.get? s.heap.objs.size = none := fresh_none _
  have hne : s.heap.objs.size ≠ sysModules := size_ne G.tops
  have hnP : ∀ o, ¬ P1 s.heap.objs.size o := fun o ho => by
    rcases S1.new _ _ ho with x | x
    · have := G.ok _ _ x; rw [hsz] at this; cases this
    · rw [Heap.get?_push_size _ rfl] at x; cases x
  refine ⟨ws, c1, hnew, fun h' hd hs => ?_⟩
  rw [merged_nil_of_nodup _ hws] at hd
  obtain ⟨es', n', ho, RR⟩ := of_dictOf hd c2
  have ext : ∀ b o, s.heap.get? b = some o → h'.get? b = some o := fun b o e => hs.extBut b o (fun x => by rw [x, hsz] at e; cases e) (S1.ext _ _ (S0.ext _ _ e))
  refine q _ h' _ P1 ⟨ext, fun a o e => S1.sub _ _ e, fun a o e => ?_, fun a o e => hs.extBut a o (fun x => hnP o (x ▸ e)) (S1.ok _ _ e)⟩ hsz hnP ⟨hne, es', n', ho, RR⟩
  rcases S1.new _ _ e with x | x
  · exact .inl x
  · refine .inr ?_
    cases z : s.heap.get? a with
    | none => rfl
    | some o' => have := S0.ext _ _ z; rw [this] at x; cases x

theorem evf_dict0 {pos : Pos} : EvF c A env σ (.Dict [] [] pos) (.dict []) := by
  intro P s G Q E q
  refine wpAny_Dict_empty ?_
  have ext : ∀ b o, s.heap.get? b = some o → (s.heap.push { cls := .type "dict", data := .dict #[] }).get? b = some o := fun b o e => Heap.get?_push_of_some _ e
  exact q _ _ s.toks P (Step.heap G.ok ext) (fresh_none _) (fun o ho => by have := G.ok _ _ ho; rw [fresh_none] at this; cases this) ⟨size_ne G.tops, [], 0, Heap.get?_push_size _ rfl, .nil⟩

theorem ev_of_evfd {e : Expr} {kvs : List (List Nat × D)} (h : EvF c A env σ e (.dict kvs)) : Ev c A env σ e (.dict kvs) := by
  intro P s G Q E q
  refine h s G Q E fun a h' tk P' S hn hP O => ?_
  obtain ⟨hne, vs, n, ho, RL⟩ := O
  let P2 : Facts := fun b o => P' b o ∨ (b = a ∧ o = dictO vs n)
  have hsub : ∀ b o, P' b o → P2 b o := fun _ _ h => .inl h
  refine q _ _ _ P2 ⟨S.ext, fun b o h => hsub _ _ (S.sub _ _ h), fun b o h => ?_, fun b o h => ?_⟩ (.dict hne (.inr ⟨rfl, rfl⟩) (RL.mono hsub))
  · rcases h with h | ⟨rfl, rfl⟩
    · exact S.new _ _ h
    · exact .inr hn
  · rcases h with h | ⟨rfl, rfl⟩
    · exact S.ok _ _ h
    · exact ho

theorem ev_item_dict {v x : Expr} {pos : Pos} {kvs : List (List Nat × D)} {k : List Nat} {d : D} (hv : Ev c A env σ v (.dict kvs)) (hx : Ev c A env σ x (.str k)) (hn : (kvs.map (·.1)).Nodup) (hk : dget kvs k = some d)
    (hs : ∀ o i, subscripted x false o i = operate [o, i] (getItem o i) := by intro _ _; rfl) : Ev c A env σ (.Subscript v x pos) d := by
  intro P s G Q E q
  refine my_Subscript (hv.val G fun u h1 t1 P1 S1 G1 R1 => hx.val G1 fun w h2 t2 P2 S2 G2 R2 => ?_) (fun o i => ⟨_, hs o i⟩)
  obtain ⟨_, rfl⟩ := R2.str_inv
  obtain ⟨a, es, n, rfl, hne, hp, RL⟩ := R1.dict_inv
  obtain ⟨vs, hd, hr⟩ := dictOf_of (S2.ok _ _ (S2.sub _ _ hp)) (RL.mono S2.sub) hn
  obtain ⟨y, hy, Ry⟩ := hr.get hk
  exact ⟨"dict", _, slot_dict_getitem.lookup, hd.mapOf.typeIs, wpAny_getItem_of (knd := PySem.strKind c.prog c.w) (k := S k) (strKind_is _ _ _ _) hd.mapOf hy (q y h2 _ P2 (S1.trans S2) Ry)⟩
end
end
section
set_option maxRecDepth 100000
section
variable {c : Cx} {A : Around} {env : Env} {σ : Sto} {rest : List Stmt} {N : Sto → Prop} {R : D → Prop}

theorem ex_setitem_own {x : String} {e k : Expr} {p pos' pos : Pos} {kvs : List (List Nat × D)} {key : List Nat} {d : D} {σ' : Sto} (hx : (x, Slot.own (.dict kvs)) ∈ σ) (hv : Ev c A env σ e d) (hk : Ev c A env σ k (.str key)) (hn : (kvs.map (·.1)).Nodup) (hlen : kvs.length ≤ 1000000)
    (hσ : set σ x (.own (.dict (dput kvs key d))) = σ') (h : Ex c A env σ' rest N R) (hd : ((Str.ofString x) == ("__debug__" : Str)) = false := by decide +kernel)
    (hs : swapsWith e (some (.Subscript (.Name (Str.ofString x) p) k pos')) pos.line env = pure false := by rfl) :
    Ex c A env σ (.Assign [.Subscript (.Name (Str.ofString x) p) k pos'] e pos :: rest) N R := by
  subst hσ
  refine ex_seq (N1 := fun σ' => σ' = set σ x (.own (.dict (dput kvs key d)))) (fun s₀ P₀ P s F Q E kn kr => ?_) (fun σ' e => e ▸ h)
  obtain ⟨a, V, hnP, O⟩ := F.good.owns _ _ hx
  refine wpAny_Assign_Subscript (hv.val F.good fun v h1 t1 P1 S1 G1 R1 => load_own G1 (V.keeps S1.ext) hd (hk.val G1 fun kv h2 t2 P2 S2 G2 R2 => ?_)) hs
  obtain ⟨t, rfl⟩ := R2.str_inv
  obtain ⟨hne, es, n, ho, RR⟩ := O
  have S := S1.trans S2
  obtain ⟨vs, hdict, hr⟩ := dictOf_of (S.ext _ _ ho) (RR.mono S.sub) hn
  refine wpAny_setItem_pairs (knd := PySem.strKind c.prog c.w) (k := Mine.S key) (strKind_is _ _ _ _) hdict (fun h' hd' hs' => ?_) (by rw [hr.length]; have := sizeLine_val; (first | lia | omega))
  obtain ⟨es', n', ho', RR'⟩ := of_dictOf hd' (hr.put (R1.mono S2.sub))
  exact kn _ P2 h' _ rfl S.sub ((F.step (tk := t2) S).mutate hx (V.keeps S.ext) (fun b o hb e => hs'.extBut b o hb e) ⟨hne, es', n', ho', RR'⟩)

theorem pyI_dict {P : Facts} {x : Value} {kvs : List (List Nat × D)} (hh : A.handled = none) (R : Rep c P x (.dict kvs)) (hn : (kvs.map (·.1)).Nodup) : PyI c A P x (kvs.map fun kv => .str kv.1) := by
  intro s ok Q E k
  obtain ⟨a, es, n, rfl, hne1, hp, RR⟩ := R.dict_inv
  obtain ⟨vs, p1, p2, p3⟩ := pairs_of_repK RR
  have hm : s.heap.DictAt (PySem.strKind c.prog c.w) a vs n := ⟨_, es.toArray, ok _ _ hp, ⟨rfl, rfl, rfl⟩, rfl, fun e he => p2 e (by simpa using he), by simpa using p1, by rw [p3.keys]; exact nodup_S.mpr hn⟩
  refine wpAny_pyIter_dict (beq_eq_false_iff_ne.mpr hne1) hm ?_
  have hne : a ≠ s.heap.objs.size := by
    intro e; have := ok _ _ hp; rw [e, fresh_none] at this; cases this
  have W := Walks.dictKeys (prog := c.prog) (w := c.w) (knd := PySem.strKind c.prog c.w) hh s.heap.objs.size a hne vs n
  have hl : vs.length = (kvs.map fun kv => D.str kv.1).length := by rw [p3.length, List.length_map]
  rw [hl] at W
  refine k _ _ _ _ _ s.toks ⟨W, fun i v _ hv => ?_, fun b hb => ?_, by simp, fun i h st => ?_⟩ (fresh_none _) (fun b o e => Heap.get?_push_of_some _ e) ⟨⟨_, Heap.get?_push_size _ rfl, rfl, by rw [← hl]; rfl⟩, hm.push _⟩
  · obtain ⟨k', y, hy, hkey⟩ := hv
    obtain ⟨t, rfl⟩ := Value.isStrOf_shape hkey
    have e : (vs.map (·.1))[i]? = some k' := by rw [List.getElem?_map, hy]; rfl
    rw [p3.keys, List.map_map, List.getElem?_map] at e
    obtain ⟨kv, h1, rfl⟩ := Option.map_eq_some_iff.mp e
    exact ⟨_, by rw [List.getElem?_map, h1]; rfl, .str _ _⟩
  · rcases List.mem_cons.mp hb with e | hb
    · exact .inl e
    · rw [List.mem_singleton.mp hb]; exact .inr ⟨_, hp⟩
  · obtain ⟨⟨o, ho, hc, hd⟩, _⟩ := st
    exact ⟨o, _, ho, fields_not_data' hd, hc, by decide⟩
theorem evi_dict {e : Expr} {kvs : List (List Nat × D)} (hh : A.handled = none) (h : Ev c A env σ e (.dict kvs)) (hn : (kvs.map (·.1)).Nodup) : EvI c A env σ e (kvs.map fun kv => .str kv.1) := by
  intro P s G Q E k
  exact h s G Q E fun v h' tk P' S R => k v h' tk P' S (pyI_dict hh R hn)

theorem ev_get_own {x : String} {p apos pos : Pos} {k e : Expr} {kvs : List (List Nat × D)} {key : List Nat} {d dd : D} (hx : (x, Slot.own (.dict kvs)) ∈ σ) (hk : Ev c A env σ k (.str key)) (he : Ev c A env σ e dd) (hn : (kvs.map (·.1)).Nodup) (hg : (dget kvs key).getD dd = d)
    (hdb : ((Str.ofString x) == ("__debug__" : Str)) = false := by decide +kernel) (hst : starEach [k, e] env = [(false, eval k env), (false, eval e env)] := by rfl) (hst2 : starEach [e] env = [(false, eval e env)] := by rfl) (hline : (apos.endLine == pos.line) = true := by rfl) :
    Ev c A env σ (.Call (.Attribute (.Name (Str.ofString x) p) (Str.ofString "get") apos) [k, e] [] pos) d := by
  intro P s G Q E q
  obtain ⟨a, V, hnP, O⟩ := G.owns _ _ hx
  obtain ⟨hne, es, n, ho, RR⟩ := O
  obtain ⟨vs0, hd0, _⟩ := dictOf_of ho RR hn
  refine wpAny_Call_method (T := "dict") (id := "dict.get") rfl (by rw [hst]; rfl) hline PySem.F.plainAttrs_dict PySem.F.slot_dict_get PySem.F.type_dict_get (load_own G V hdb ?_)
  refine ⟨hd0.mapOf.typeIs, fun b e => by cases e; exact ⟨_, ho, rfl⟩, Calls.callWith_builtin (by rw [hst]; rfl) (evalArgs_L (evl_cons hk (evl_cons he evl_nil hst2) (by rw [hst, hst2])) (.inr ⟨_, _, hst⟩) G fun us h1 t1 P1 S1 G1 R1 => ?_)⟩
  obtain ⟨_, _, rfl, Rk, R2⟩ := R1.cons_inv
  obtain ⟨dv, _, rfl, Re, R3⟩ := R2.cons_inv
  obtain rfl := R3.nil_inv
  obtain ⟨t, rfl⟩ := Rk.str_inv
  obtain ⟨vs, hd1, hr⟩ := dictOf_of (S1.ext _ _ ho) (RR.mono S1.sub) hn
  have fin : Rep c P1 ((valueAt vs (Mine.S key)).getD dv) d := by
    subst hg
    cases hz : dget kvs key with
    | some d0 =>
      obtain ⟨v, e1, R⟩ := hr.get hz
      rw [e1]; exact R
    | none => rw [hr.get_none hz]; exact Re
  exact call_meetsIn PySem.F.slot_dict_get hd1.mapOf.typeIs PySem.F.entry_dict_get (PySem.F.args_dict_get_3 _ _ _) (meets_dict_get_default (PySem.strKind c.prog c.w) a (strKind_is _ _ _ _) (beq_eq_false_iff_ne.mpr hne) dv) ⟨_, hd1.mapOf, q _ h1 _ P1 S1 fin⟩
end
end
section
set_option maxRecDepth 100000

theorem clipAt_nat (n : Nat) {i : Int} (h : 0 ≤ i) : clipAt n i = min i.toNat n := by
  obtain ⟨k, rfl⟩ := Int.eq_ofNat_of_zero_le h
  unfold clipAt
  rw [if_neg (Int.not_lt.mpr h)]
  rcases Nat.le_total k n with h | h
  · rw [Int.min_eq_left (Int.ofNat_le.mpr h), Int.max_eq_right (Int.natCast_nonneg k), Int.toNat_natCast, Nat.min_eq_left h]
  · rw [Int.min_eq_right (Int.ofNat_le.mpr h), Int.max_eq_right (Int.natCast_nonneg n), Int.toNat_natCast, Int.toNat_natCast, Nat.min_eq_right h]
theorem sliceL_0n {α : Type} (l : List α) {j : Int} (hj : 0 ≤ j) : sliceL l none (some j) = l.take j.toNat := by
  simp only [sliceL, clipL]
  rw [clipAt_nat _ hj]
  simp
theorem sliceL_n0 {α : Type} (l : List α) {i : Int} (hi : 0 ≤ i) : sliceL l (some i) none = l.drop i.toNat := by
  simp only [sliceL, clipL]
  rw [clipAt_nat _ hi]
  rcases Nat.le_or_le i.toNat l.length with h | h
  · rw [Nat.min_eq_left h, List.take_of_length_le (by simp)]
  · rw [Nat.min_eq_right h]; simp [List.drop_of_length_le h]
theorem sliceL_0m {α : Type} (l : List α) : sliceL l none (some (-1)) = l.dropLast := by
  simp only [sliceL, clipL]
  rw [List.dropLast_eq_take, List.drop_zero]
  congr 1
  unfold clipAt
  rw [if_pos (by decide)]
  (first | lia | omega)
theorem sliceL_m0 {α : Type} (l : List α) : sliceL l (some (-1)) none = l.drop (l.length - 1) := by
  simp only [sliceL, clipL]
  have e : clipAt l.length (-1) = l.length - 1 := by
    unfold clipAt
    rw [if_pos (by decide)]
    (first | lia | omega)
  rw [e, List.take_of_length_le (by simp)]

section
variable {c : Cx} {A : Around} {env : Env} {σ : Sto}
theorem ints_of_rep {P : Facts} : ∀ {ns : List Int} {us : List Value}, RepL c P us (ns.map D.int) → ∃ xs : List (Int × Tok), us = xs.map (fun p => Value.int p.1 p.2) ∧ xs.map (·.1) = ns
  | [], _, h => ⟨[], h.nil_inv, rfl⟩
  | k :: ns, _, h => by
    obtain ⟨_, _, rfl, R1, R2⟩ := h.cons_inv
    obtain ⟨xs, rfl, rfl⟩ := ints_of_rep R2
    obtain ⟨t, rfl⟩ := R1.int_inv
    exact ⟨(k, t) :: xs, rfl, rfl⟩
theorem ev_sum {np pos : Pos} {e : Expr} {ns : List Int} (hh : A.handled = none) (hk : env.kindOf (Str.ofString "sum") = some .globalImplicit) (hg : c.mg (Str.ofString "sum") = none)
    (h : Ev c A env σ e (.list (ns.map D.int))) (he : starEach [e] env = [(false, eval e env)] := by rfl) : Ev c A env σ (.Call (.Name (Str.ofString "sum") np) [e] [] pos) (.int ns.sum) := by
  refine ev_call_builtin hk hg Boot.«sum» (by decide +kernel) (evl_cons h evl_nil he) (.inr ⟨_, _, he⟩) (by rw [he]; rfl) (by decide +kernel) ?_
  intro P s vs ok T RL Q E q
  obtain ⟨_, _, rfl, R, R0⟩ := RL.cons_inv
  obtain rfl := R0.nil_inv
  obtain ⟨a, us, n, rfl, hp, RL2⟩ := R.list_inv
  obtain ⟨xs, e1, e2⟩ := ints_of_rep RL2
  have hl : s.heap.IsList a (intItems xs.toArray) := by
    have := isList_of ok hp
    rwa [e1, show (xs.map fun p => Value.int p.1 p.2).toArray = intItems xs.toArray from by simp [intItems]] at this
  refine sum_intListG hh hl fun h' tk t' hk' => ?_
  have e3 : preSum (numAt xs.toArray) xs.toArray.size = ns.sum := by
    rw [preSum_eq, List.take_of_length_le (by simp)]
    simp [e2]
  rw [e3]
  exact q _ _ _ P (Step.heap ok hk') (.int _ _)
end
end
section
set_option maxRecDepth 100000
noncomputable def wordF : Nat → List Nat
  | 1 => [97] | 2 => [98] | 3 => [97, 39] | 4 => [97, 98] | 5 => [98, 97] | 6 => [97, 39, 98] | 7 => [97, 98, 98] | _ => []

set_option maxHeartbeats 4000000 in
theorem fn_word (w : World) (mb : Str → Option Value) (i : Int) (h0 : 0 ≤ i) (h8 : i < 8) : Fn (cx1 w mb) 1 36 [.int i] (.str (wordF i.toNat)) := by
  refine fn_intro (xs := ["kind"]) rfl rfl rfl rfl rfl rfl rfl rfl ?_ rfl (by decide +kernel) rfl rfl rfl ?_
  · intro vals h
    obtain ⟨_, rfl⟩ := len1 h; exact rfl
  intro A L hA
  have h : ∀ e pos rest σ env, Ev (cx1 w mb) A env σ e (.str (wordF i.toNat)) → Ex (cx1 w mb) A env σ (.Return (some e) pos :: rest) (fun _ => False) (fun d => d = .str (wordF i.toNat)) := fun _ _ _ _ _ h => ex_return h rfl
  have h2 : ∀ (v x pos σ env) (hs : ∀ o i, subscripted x false o i = operate [o, i] (getItem o i)), Ev (cx1 w mb) A env σ v (.list [.str [], .str [97], .str [98], .str [97, 39], .str [97, 98], .str [98, 97], .str [97, 39, 98], .str [97, 98, 98]]) → Ev (cx1 w mb) A env σ x (.int i) → Ev (cx1 w mb) A env σ (.Subscript v x pos) (.str (wordF i.toNat)) := by
    intro v x pos σ env hs hv hx
    refine ev_item_list (j := i.toNat) hv hx (seqIndex_nat h0 h8) ?_ (by first | lia | omega) hs
    have hk : i.toNat < 8 := by first | lia | omega
    revert hk
    generalize i.toNat = k
    intro hk
    match k, hk with
    | 0, _ => rfl
    | 1, _ => rfl
    | 2, _ => rfl
    | 3, _ => rfl
    | 4, _ => rfl
    | 5, _ => rfl
    | 6, _ => rfl
    | 7, _ => rfl
  refine h _ _ _ _ _ ?_
  refine h2 _ _ _ _ _ (by intro _ _; rfl) ?_ ?_
  · walk_at "mev"
  · walk_at "mev"

noncomputable def endF (f : Int) (own : List Nat) : List Nat := if own = [] ∨ f < 4 then own else if f = 4 then own.take 1 else wordF (f - 4).toNat
noncomputable def innerF (f : Int) (own : List Nat) : List Nat := if f < 4 then own else wordF (f - 4).toNat
theorem fn_end (w : World) (mb : Str → Option Value) (f : Int) (own : List Nat) (h12 : f < 12) (hl : own.length ≤ 3) : Fn (cx1 w mb) 2 43 [.int f, .str own] (.str (endF f own)) := by
  have hSL := sizeLine_val
  refine fn_intro (xs := ["figure", "own"]) rfl rfl rfl rfl rfl rfl rfl rfl ?_ rfl (by decide +kernel) rfl rfl rfl ?_
  · intro vals h
    obtain ⟨_, _, rfl⟩ := len2 h; exact rfl
  intro A L hA
  refine ex_if_ret (b := decide (own = []) || decide (f < 4)) (by walk_at "mevt") ?_ ?_
  · intro hb
    refine ex_return (by walk_at "mev") ?_
    rw [endF, if_pos (by simpa using hb)]
  intro hb
  have hb' : ¬ (own = [] ∨ f < 4) := by simpa using hb
  have ht : own.take 1 = sliceL own none (some 1) := (sliceL_0n own (j := 1) (by first | lia | omega)).symm
  rw [endF, if_neg hb', ht]
  refine ex_return (d := .str (if decide (f = 4) = true then sliceL own none (some 1) else wordF (f - 4).toNat)) (ev_ifexp_str (by walk_at "mevt") (fun _ => by walk_at "mev") fun h4 => ?_) (by simp)
  have h4' : f ≠ 4 := by simpa using h4
  exact ev_call (f := 36) rfl rfl rfl rfl (by walk_at "mevl") (fn_word w mb (f - 4) (by first | lia | omega) (by first | lia | omega)) hA (.inr ⟨_, _, rfl⟩) (by decide +kernel)

theorem fn_inner (w : World) (mb : Str → Option Value) (f : Int) (own : List Nat) (h12 : f < 12) : Fn (cx1 w mb) 2 50 [.int f, .str own] (.str (innerF f own)) := by
  refine fn_intro (xs := ["figure", "own"]) rfl rfl rfl rfl rfl rfl rfl rfl ?_ rfl (by decide +kernel) rfl rfl rfl ?_
  · intro vals h
    obtain ⟨_, _, rfl⟩ := len2 h; exact rfl
  intro A L hA
  refine ex_return (d := .str (if decide (f < 4) = true then own else wordF (f - 4).toNat)) (ev_ifexp_str (by walk_at "mevt") (fun _ => by walk_at "mev") fun h4 => ?_) (by simp [innerF])
  have h4' : ¬ f < 4 := by simpa using h4
  exact ev_call (f := 36) rfl rfl rfl rfl (by walk_at "mevl") (fn_word w mb (f - 4) (by first | lia | omega) (by first | lia | omega)) hA (.inr ⟨_, _, rfl⟩) (by decide +kernel)
end
section
set_option maxRecDepth 100000

noncomputable def mapS (f : List Nat → List Nat) : D → D
  | .str l => .str (f l)
  | d => d
noncomputable def filS (p : List Nat → Bool) : D → Bool
  | .str l => p l
  | _ => false
noncomputable def mapI (f : Int → D) : D → D
  | .int i => f i
  | d => d
theorem fil_strs (p : List Nat → Bool) (f : List Nat → List Nat) : ∀ ls : List (List Nat), ((ls.map D.str).filter (filS p)).map (mapS f) = ((ls.filter p).map f).map D.str
  | [] => rfl
  | l :: ls => by
    have ih := fil_strs p f ls
    rw [List.map_cons, List.filter_cons, List.filter_cons]
    show (if p l = true then _ else _ : List D).map _ = _
    split
    · rw [List.map_cons, List.map_cons, List.map_cons, ih]; rfl
    · exact ih
theorem map_ints (f : Int → D) (ns : List Int) : ((ns.map D.int).filter fun _ => true).map (mapI f) = ns.map f := by
  rw [List.filter_eq_self.mpr (by simp), List.map_map]; rfl
theorem det_strs {c : Cx} (ls : List (List Nat)) : ∀ d ∈ ls.map D.str, Det c d := by
  intro d hd; obtain ⟨i, _, rfl⟩ := List.mem_map.mp hd; exact det_str i

section
variable {c : Cx} {A : Around} {env : Env} {σ σc : Sto} {N : Sto → Prop} {R : D → Prop} {rest : List Stmt}

structure CompOk (env : Env) (scope : Scope) (cl : List (Str × Addr)) (x : String) (iter : Expr) : Prop where
  clos : closureFor scope env = pure cl
  cell : ∀ y ∈ scope.names, y.2 ≠ .cell
  kind : scope.kind = .function
  names : ∀ y ∈ scope.names, y.2 = .local → scope.names.lookup y.1 = some .local
  hx : scope.names.lookup (Str.ofString x) = some .local
  fold : ∀ x, foldedSetIterable iter env x = pure x

theorem ev_comp_s {x : String} {px pos : Pos} {iter elt : Expr} {ifs : List Expr} {scope : Scope} {cl : List (Str × Addr)} {ls : List (List Nat)} {res : List (List Nat)} (p : List Nat → Bool) (f : List Nat → List Nat)
    (hiter : EvI c A env σ iter (ls.map D.str)) (hcap : Caps env scope cl x σ σc)
    (htest : ∀ (C : Addr) (l : List Nat), l ∈ ls → EvIfs c A (compEnvC scope cl C env) ((x, .val (.str l)) :: σc) ifs (p l))
    (helt : ∀ (C : Addr) (l : List Nat), l ∈ ls → p l = true → Ev c A (compEnvC scope cl C env) ((x, .val (.str l)) :: σc) elt (.str (f l)))
    (hlen : ls.length ≤ 1000) (ok : CompOk env scope cl x iter) (hres : (ls.filter p).map f = res) :
    Ev c A env σ (.ListComp elt [⟨.Name (Str.ofString x) px, iter, ifs, 0⟩] scope pos) (.list (res.map D.str)) := by
  subst hres
  rw [← fil_strs]
  refine ev_listcomp (filS p) (mapS f) (det_strs ls) hiter hcap ?_ ?_ ?_ (by rw [List.length_map, sizeLine_val]; (first | lia | omega)) ok.clos ok.cell ok.kind ok.names ok.hx ok.fold
  · intro C d hd
    obtain ⟨l, hl, rfl⟩ := List.mem_map.mp hd
    exact htest C l hl
  · intro C d hd hp
    obtain ⟨l, hl, rfl⟩ := List.mem_map.mp hd
    exact helt C l hl hp
  · intro d hd
    obtain ⟨l, hl, rfl⟩ := List.mem_map.mp hd
    trivial
theorem ev_comp_i {x : String} {px pos : Pos} {iter elt : Expr} {scope : Scope} {cl : List (Str × Addr)} {ns : List Int} {res : List D} (f : Int → D)
    (hiter : EvI c A env σ iter (ns.map D.int)) (hcap : Caps env scope cl x σ σc)
    (helt : ∀ (C : Addr) (i : Int), i ∈ ns → Ev c A (compEnvC scope cl C env) ((x, .val (.int i)) :: σc) elt (f i)) (hsc : ∀ i, Scalar (f i))
    (hlen : ns.length ≤ 1000) (ok : CompOk env scope cl x iter) (hres : ns.map f = res) :
    Ev c A env σ (.ListComp elt [⟨.Name (Str.ofString x) px, iter, [], 0⟩] scope pos) (.list res) := by
  subst hres
  rw [← map_ints]
  refine ev_listcomp (fun _ => true) (mapI f) (det_ints ns) hiter hcap (fun _ _ _ => rfl) ?_ ?_ (by rw [List.length_map, sizeLine_val]; (first | lia | omega)) ok.clos ok.cell ok.kind ok.names ok.hx ok.fold
  · intro C d hd hp
    obtain ⟨l, hl, rfl⟩ := List.mem_map.mp hd
    exact helt C l hl
  · intro d hd
    obtain ⟨l, hl, rfl⟩ := List.mem_map.mp hd
    exact hsc l
theorem ex_comp_s {x y : String} {px py pos spos : Pos} {iter elt : Expr} {ifs : List Expr} {scope : Scope} {cl : List (Str × Addr)} {ls : List (List Nat)} {res : List (List Nat)} {σ' : Sto} (p : List Nat → Bool) (f : List Nat → List Nat)
    (hiter : EvI c A env σ iter (ls.map D.str)) (hcap : Caps env scope cl x σ σc)
    (htest : ∀ (C : Addr) (l : List Nat), l ∈ ls → EvIfs c A (compEnvC scope cl C env) ((x, .val (.str l)) :: σc) ifs (p l))
    (helt : ∀ (C : Addr) (l : List Nat), l ∈ ls → p l = true → Ev c A (compEnvC scope cl C env) ((x, .val (.str l)) :: σc) elt (.str (f l)))
    (hlen : ls.length ≤ 1000) (ok : CompOk env scope cl x iter) (hres : (ls.filter p).map f = res)
    (hy : StoreOk env y) (hσ : set σ y (.val (.list (res.map D.str))) = σ')
    (hsw : swapsWith (.ListComp elt [⟨.Name (Str.ofString x) px, iter, ifs, 0⟩] scope pos) (some (.Name (Str.ofString y) py)) spos.line env = pure true) (h : Ex c A env σ' rest N R) :
    Ex c A env σ (.Assign [.Name (Str.ofString y) py] (.ListComp elt [⟨.Name (Str.ofString x) px, iter, ifs, 0⟩] scope pos) spos :: rest) N R := by
  subst hres
  refine ex_assign_comp (filS p) (mapS f) (det_strs ls) hiter hcap ?_ ?_ ?_ (by rw [List.length_map, sizeLine_val]; (first | lia | omega)) ok.clos ok.cell ok.kind ok.names ok.hx hy (by rw [fil_strs]; exact hσ) h hsw ok.fold
  · intro C d hd
    obtain ⟨l, hl, rfl⟩ := List.mem_map.mp hd
    exact htest C l hl
  · intro C d hd hp
    obtain ⟨l, hl, rfl⟩ := List.mem_map.mp hd
    exact helt C l hl hp
  · intro d hd
    obtain ⟨l, hl, rfl⟩ := List.mem_map.mp hd
    trivial
theorem ex_comp_i {x y : String} {px py pos spos : Pos} {iter elt : Expr} {scope : Scope} {cl : List (Str × Addr)} {ns : List Int} {res : List D} {σ' : Sto} (f : Int → D)
    (hiter : EvI c A env σ iter (ns.map D.int)) (hcap : Caps env scope cl x σ σc)
    (helt : ∀ (C : Addr) (i : Int), i ∈ ns → Ev c A (compEnvC scope cl C env) ((x, .val (.int i)) :: σc) elt (f i)) (hsc : ∀ i, Scalar (f i))
    (hlen : ns.length ≤ 1000) (ok : CompOk env scope cl x iter) (hres : ns.map f = res)
    (hy : StoreOk env y) (hσ : set σ y (.val (.list res)) = σ')
    (hsw : swapsWith (.ListComp elt [⟨.Name (Str.ofString x) px, iter, [], 0⟩] scope pos) (some (.Name (Str.ofString y) py)) spos.line env = pure true) (h : Ex c A env σ' rest N R) :
    Ex c A env σ (.Assign [.Name (Str.ofString y) py] (.ListComp elt [⟨.Name (Str.ofString x) px, iter, [], 0⟩] scope pos) spos :: rest) N R := by
  subst hres
  refine ex_assign_comp (fun _ => true) (mapI f) (det_ints ns) hiter hcap (fun _ _ _ => rfl) ?_ ?_ (by rw [List.length_map, sizeLine_val]; (first | lia | omega)) ok.clos ok.cell ok.kind ok.names ok.hx hy (by rw [map_ints]; exact hσ) h hsw ok.fold
  · intro C d hd hp
    obtain ⟨l, hl, rfl⟩ := List.mem_map.mp hd
    exact helt C l hl
  · intro d hd
    obtain ⟨l, hl, rfl⟩ := List.mem_map.mp hd
    exact hsc l
end
end
section
set_option maxRecDepth 100000
noncomputable def spelledF (w : List Nat) (t : Int) : List Nat := if t.fmod 3 = 0 then w else if t.fmod 3 = 1 then w.map up1 else w.take 1 ++ (w.drop 1).map up1
noncomputable def sepF : Nat → List Nat
  | 0 => [32] | 1 => [9] | 2 => [10, 32] | _ => [32, 32]
noncomputable def spreadStep (st : List Nat × Int) (w : List Nat) : List Nat × Int := (st.1 ++ (sepF (st.2.fmod 4).toNat ++ spelledF w st.2), st.2 + 1)
noncomputable def spreadF (ws : List (List Nat)) (t : Int) : List Nat := (ws.foldl spreadStep ([], t)).1 ++ [10]
noncomputable def dressF : List Nat → List Nat
  | [] => []
  | x :: r => up1 x :: r

theorem spelledF_len (w : List Nat) (t : Int) : (spelledF w t).length = w.length := by
  unfold spelledF
  split
  · rfl
  · split
    · simp
    · rw [List.length_append, List.length_map, ← List.length_append, List.take_append_drop]
theorem sepF_len (k : Nat) : (sepF k).length ≤ 2 := by unfold sepF; split <;> decide
theorem spread_len : ∀ (ws : List (List Nat)) (st : List Nat × Int), (∀ w ∈ ws, w.length ≤ 3) → (ws.foldl spreadStep st).1.length ≤ st.1.length + 5 * ws.length ∧ (ws.foldl spreadStep st).2 = st.2 + ws.length
  | [], st, _ => by simp
  | w :: ws, st, h => by
    rw [List.foldl_cons]
    obtain ⟨h1, h2⟩ := spread_len ws (spreadStep st w) fun u hu => h u (.tail _ hu)
    have h3 := h w (.head _)
    have h4 := spelledF_len w st.2
    have h5 := sepF_len (st.2.fmod 4).toNat
    simp only [spreadStep, List.length_append, List.length_cons] at h1 h2 ⊢
    (first | lia | omega)

theorem spread_len0 (ws : List (List Nat)) (t : Int) (h : ∀ w ∈ ws, w.length ≤ 3) (hn : ws.length ≤ 100) : (ws.foldl spreadStep ([], t)).1.length ≤ 500 := by
  obtain ⟨h1, _⟩ := spread_len ws ([], t) h
  have : (([], t) : List Nat × Int).1.length = 0 := rfl
  (first | lia | omega)

theorem fn_spelled (w : World) (mb : Str → Option Value) (word : List Nat) (t : Int) (hl : word.length ≤ 3) (ha : ∀ x ∈ word, x < 128) : Fn (cx1 w mb) 1 64 [.str word, .int t] (.str (spelledF word t)) := by
  have hSL := sizeLine_val
  refine fn_intro (xs := ["word", "turn"]) rfl rfl rfl rfl rfl rfl rfl rfl ?_ rfl (by decide +kernel) rfl rfl rfl ?_
  · intro vals h
    obtain ⟨_, _, rfl⟩ := len2 h; exact rfl
  intro A L hA
  refine ex_if_ret (b := decide (t.fmod 3 = 0)) (by walk_at "mevt") ?_ ?_
  · intro hb
    refine ex_return (by walk_at "mev") ?_
    rw [spelledF, if_pos (by simpa using hb)]
  intro h0
  refine ex_if_ret (b := decide (t.fmod 3 = 1)) (by walk_at "mevt") ?_ ?_
  · intro hb
    refine ex_return (by walk_at "mev") ?_
    rw [spelledF, if_neg (by simpa using h0), if_pos (by simpa using hb)]
  intro h1
  have e1 : word.take 1 = sliceL word none (some 1) := (sliceL_0n word (j := 1) (by first | lia | omega)).symm
  have e2 : word.drop 1 = sliceL word (some 1) none := (sliceL_n0 word (i := 1) (by first | lia | omega)).symm
  have l1 := sliceL_length_le word none (some 1)
  have l2 := sliceL_length_le word (some 1) none
  have ha2 : ∀ x ∈ sliceL word (some 1) none, x < 128 := by rw [← e2]; exact fun x hx => ha x (List.mem_of_mem_drop hx)
  refine ex_return (ev_binop (by walk_at "mev") (ev_upper (by walk_at "mev") ha2 (by first | lia | omega)) (op_add_str (by rw [List.length_map]; (first | lia | omega)))) ?_
  rw [spelledF, if_neg (by simpa using h0), if_neg (by simpa using h1), e1, e2]

theorem fn_spread (w : World) (mb : Str → Option Value) (words : List (List Nat)) (t : Int) (hn : words.length ≤ 100) (hl : ∀ u ∈ words, u.length ≤ 3) (ha : ∀ u ∈ words, ∀ x ∈ u, x < 128) : Fn (cx1 w mb) 2 71 [.list (words.map D.str), .int t] (.str (spreadF words t)) := by
  have hSL := sizeLine_val
  refine fn_intro (xs := ["words", "turn"]) rfl rfl rfl rfl rfl rfl rfl rfl ?_ rfl (by decide +kernel) rfl rfl rfl ?_
  · intro vals h
    obtain ⟨_, _, rfl⟩ := len2 h; exact rfl
  intro A L hA
  refine ex_assign (d := .str []) (by walk_at "mev") (.inl rfl) (by walk_at "mset") ?_
  refine ex_for (J := fun i σ => σ = [("words", .val (.list (words.map D.str))), ("turn", .val (.int ((words.take i).foldl spreadStep ([], t)).2)), ("text", .val (.str ((words.take i).foldl spreadStep ([], t)).1))])
    (f := fun d σ => set σ "word" (.val d)) (evi_list hA.handled (by walk_at "mev")) (fun d _ => binds_name (.inl rfl)) rfl ?_ ?_
  · rintro i d σ' hd rfl
    rw [List.getElem?_map] at hd
    obtain ⟨u, hu, rfl⟩ := Option.map_eq_some_iff.mp hd
    have hum := List.mem_of_getElem? hu
    have htk : words.take (i + 1) = words.take i ++ [u] := by rw [List.take_add_one, hu]; rfl
    rw [htk, List.foldl_append, List.foldl_cons, List.foldl_nil]
    have b1 := spread_len0 (words.take i) t (fun v hv => hl v (List.mem_of_mem_take hv)) (Nat.le_trans (List.length_take_le' _ _) hn)
    generalize (words.take i).foldl spreadStep ([], t) = st at b1
    obtain ⟨x, tn⟩ := st
    have b1 : x.length ≤ 500 := b1
    have hlu := hl u hum
    have h4 := spelledF_len u tn
    have h5 := sepF_len (tn.fmod 4).toNat
    have f0 : 0 ≤ tn.fmod 4 := Int.fmod_nonneg_of_pos tn (by first | lia | omega)
    have f4 : tn.fmod 4 < 4 := Int.fmod_lt_of_pos tn (by first | lia | omega)
    refine ex_conv (show Mine.set _ "word" _ = _ by walk_at "mset") ?_
    have hsep : ∀ (v ix pos σ env) (hs : ∀ o i, subscripted ix false o i = operate [o, i] (getItem o i)), Ev (cx1 w mb) A env σ v (.list [.str [32], .str [9], .str [10, 32], .str [32, 32]]) → Ev (cx1 w mb) A env σ ix (.int (tn.fmod 4)) → Ev (cx1 w mb) A env σ (.Subscript v ix pos) (.str (sepF (tn.fmod 4).toNat)) := by
      intro v ix pos σ env hs hv hx
      refine ev_item_list (j := (tn.fmod 4).toNat) hv hx (seqIndex_nat f0 f4) ?_ (by first | lia | omega) hs
      have hk : (tn.fmod 4).toNat < 4 := by first | lia | omega
      revert hk
      generalize (tn.fmod 4).toNat = k
      intro hk
      match k, hk with
      | 0, _ => rfl
      | 1, _ => rfl
      | 2, _ => rfl
      | 3, _ => rfl
    refine ex_aug (a := .str x) (b := .str (sepF (tn.fmod 4).toNat ++ spelledF u tn)) (by walk_at "mmem") (ev_binop (a := .str (sepF (tn.fmod 4).toNat)) (b := .str (spelledF u tn)) ?_ (ev_call (f := 64) rfl rfl rfl rfl (by walk_at "mevl") (fn_spelled w mb u tn hlu (ha u hum)) hA (.inr ⟨_, _, rfl⟩) (by decide +kernel)) (op_add_str (by first | lia | omega))) (op_iadd_str (by rw [List.length_append]; (first | lia | omega))) (.inl rfl) (by walk_at "mset") ?_
    · exact hsep _ _ _ _ _ (by intro _ _; rfl) (by walk_at "mev") (by walk_at "mev")
    refine ex_aug (a := .int tn) (b := .int 1) (by walk_at "mmem") (by walk_at "mev") (by walk_at "mop") (.inl rfl) (by walk_at "mset") ?_
    exact ex_end (by walk_at "msub") rfl
  · rintro σ' rfl
    rw [List.take_of_length_le (by rw [List.length_map]; exact Nat.le_refl _)]
    have b1 := spread_len0 words t hl hn
    refine ex_return (by walk_at "mev") ?_
    rfl

theorem ev_dict3 {c : Cx} {A : Around} {env : Env} {σ : Sto} {k1 k2 k3 e1 e2 e3 : Expr} {pos : Pos} {l1 l2 l3 : List Nat} {d1 d2 d3 : D} (h1 : Ev c A env σ k1 (.str l1)) (g1 : Ev c A env σ e1 d1) (h2 : Ev c A env σ k2 (.str l2)) (g2 : Ev c A env σ e2 d2) (h3 : Ev c A env σ k3 (.str l3)) (g3 : Ev c A env σ e3 d3) (hn : [l1, l2, l3].Nodup) :
    Ev c A env σ (.Dict [some k1, some k2, some k3] [e1, e2, e3] pos) (.dict [(l1, d1), (l2, d2), (l3, d3)]) :=
  ev_of_evfd (evf_dict (evp_cons h1 g1 (evp_cons h2 g2 (evp_cons h3 g3 evp_nil))) hn rfl rfl (by simp) (Nat.le_of_ble_eq_true rfl))

theorem fn_dressed (w : World) (mb : Str → Option Value) (words : List (List Nat)) (hn : words.length ≤ 100) (hl : ∀ u ∈ words, u.length ≤ 3) (hg : ∀ u ∈ words, u = [] ∨ u.head? = some 97 ∨ u.head? = some 98) : Fn (cx1 w mb) 1 76 [.list (words.map D.str)] (.list ((words.map dressF).map D.str)) := by
  have hSL := sizeLine_val
  refine fn_intro (xs := ["words"]) rfl rfl rfl rfl rfl rfl rfl rfl ?_ rfl (by decide +kernel) rfl rfl rfl ?_
  · intro vals h
    obtain ⟨_, rfl⟩ := len1 h; exact rfl
  intro A L hA
  have h : ∀ e pos rest σ env, Ev (cx1 w mb) A env σ e (.list ((words.map dressF).map D.str)) → Ex (cx1 w mb) A env σ (.Return (some e) pos :: rest) (fun _ => False) (fun d => d = .list ((words.map dressF).map D.str)) := fun _ _ _ _ _ h => ex_return h rfl
  refine h _ _ _ _ _ ?_
  clear h
  refine ev_comp_s (σc := []) (fun _ => true) dressF (evi_list hA.handled (by walk_at "mev")) ⟨by simp, by simp, by simp⟩ (fun _ _ _ => rfl) ?_ (by first | lia | omega) ⟨rfl, by decide +kernel, rfl, by decide +kernel, rfl, by intro _; rfl⟩ (by rw [List.filter_eq_self.mpr (by simp)])
  intro C u hu _
  have hlu := hl u hu
  have e1 : sliceL u none (some 1) = u.take 1 := sliceL_0n u (j := 1) (by first | lia | omega)
  have e2 : sliceL u (some 1) none = u.drop 1 := sliceL_n0 u (i := 1) (by first | lia | omega)
  have hd : dressF u = dressF (u.take 1) ++ u.drop 1 := by cases u <;> rfl
  have hdl : (dressF (u.take 1)).length ≤ 1 := by cases u <;> simp [dressF]
  rw [hd]
  have hb : ∀ (l r : Expr) (pos : Pos) (env : Env) (σ : Sto), Ev (cx1 w mb) A env σ l (.str (dressF (u.take 1))) → Ev (cx1 w mb) A env σ r (.str (u.drop 1)) → Ev (cx1 w mb) A env σ (.BinOp l .Add r pos) (.str (dressF (u.take 1) ++ u.drop 1)) :=
    fun l r pos env σ h1 h2 => ev_binop h1 h2 (op_add_str (by rw [List.length_drop]; (first | lia | omega)))
  refine hb _ _ _ _ _ ?_ (by rw [← e2]; walk_at "mev")
  have hi : ∀ (v x : Expr) (pos : Pos) (env : Env) (σ : Sto) (hs : ∀ o i, subscripted x false o i = operate [o, i] (getItem o i)), Ev (cx1 w mb) A env σ v (.dict [([], .str []), ([97], .str [65]), ([98], .str [66])]) → Ev (cx1 w mb) A env σ x (.str (u.take 1)) → Ev (cx1 w mb) A env σ (.Subscript v x pos) (.str (dressF (u.take 1))) := by
    intro v x pos env σ hs h1 h2
    refine ev_item_dict h1 h2 (by decide) ?_ hs
    rcases hg u hu with rfl | h | h
    · rfl
    · cases u with
      | nil => rfl
      | cons x r => cases h; rfl
    · cases u with
      | nil => rfl
      | cons x r => cases h; rfl
  refine hi _ _ _ _ _ (by intro _ _; rfl) ?_ (by rw [← e1]; walk_at "mev")
  refine ev_dict3 ?_ ?_ ?_ ?_ ?_ ?_ (by decide)
  · walk_at "mev"
  · walk_at "mev"
  · walk_at "mev"
  · walk_at "mev"
  · walk_at "mev"
  · walk_at "mev"
end
section
set_option maxRecDepth 100000

noncomputable abbrev Nums := List (List Nat × Int)
noncomputable def emb (ns : Nums) : List (List Nat × D) := ns.map fun kv => (kv.1, .int kv.2)
noncomputable def zget (ns : Nums) (k : List Nat) : Int := ((ns.find? fun kv => decide (kv.1 = k)).map (·.2)).getD 0
noncomputable def zput (ns : Nums) (k : List Nat) (z : Int) : Nums := if ns.any (fun kv => decide (kv.1 = k)) then ns.map (fun kv => if kv.1 = k then (kv.1, z) else kv) else ns ++ [(k, z)]
noncomputable def zadd (g : Nums) (k : List Nat) (z : Int) : Nums := zput g k (zget g k + z)
noncomputable abbrev Way := List Nat × Int
noncomputable def growW (line : List Nat) (n : Int) (ways : List Way) (g : Nums) : Nums := ways.foldl (fun g w => zadd g (line ++ w.1) (w.2 * n)) g
noncomputable def growL (ways : List Way) (nums : Nums) : Nums := nums.foldl (fun g kv => growW kv.1 kv.2 ways g) []
noncomputable def waysF (row : List (List Nat)) (i : Nat) : List Way :=
  [(row.getD i [] ++ [32], 1), (if 1 < (row.getD i []).length then (row.getD i []).dropLast ++ [32] else [], -1)] ++ (if 0 < i ∧ row.getD (i - 1) [] = row.getD i [] then [([], 1)] else [])
noncomputable def numsF (row : List (List Nat)) : Nat → Nums
  | 0 => [([], 1)]
  | i + 1 => growL (waysF row i) (numsF row i)

theorem emb_keys (ns : Nums) : (emb ns).map (·.1) = ns.map (·.1) := by simp [emb]
theorem emb_len (ns : Nums) : (emb ns).length = ns.length := by simp [emb]
theorem emb_put (ns : Nums) (k : List Nat) (z : Int) : dput (emb ns) k (.int z) = emb (zput ns k z) := by
  unfold dput zput emb
  rw [List.any_map]
  have e : ((fun kv : List Nat × D => decide (kv.1 = k)) ∘ fun kv : List Nat × Int => (kv.1, D.int kv.2)) = fun kv => decide (kv.1 = k) := rfl
  rw [e]
  split
  · rw [List.map_map, List.map_map]
    apply List.map_congr_left
    intro a _
    simp only [Function.comp]
    split <;> rfl
  · simp
theorem emb_find (k : List Nat) : ∀ ns : Nums, dget (emb ns) k = (ns.find? fun kv => decide (kv.1 = k)).map fun kv => D.int kv.2
  | [] => rfl
  | kv :: ns => by
    have ih := emb_find k ns
    unfold dget emb at ih ⊢
    rw [List.map_cons, List.find?_cons, List.find?_cons]
    by_cases h : kv.1 = k
    · simp [h]
    · simp only [h, decide_false]; exact ih
theorem emb_get (ns : Nums) (k : List Nat) : (dget (emb ns) k).getD (.int 0) = .int (zget ns k) := by
  rw [emb_find, zget]
  cases ns.find? fun kv => decide (kv.1 = k) <;> rfl
theorem emb_item {ns : Nums} {k : List Nat} {z : Int} (hn : (ns.map (·.1)).Nodup) (h : (k, z) ∈ ns) : dget (emb ns) k = some (.int z) := by
  rw [emb_find]
  induction ns with
  | nil => cases h
  | cons kv ns ih =>
    rw [List.map_cons, List.nodup_cons] at hn
    rw [List.find?_cons]
    rcases List.mem_cons.mp h with e | h
    · subst e; simp
    · have : ¬ kv.1 = k := by rintro rfl; exact hn.1 (List.mem_map.mpr ⟨_, h, rfl⟩)
      simp only [this, decide_false]
      exact ih hn.2 h

theorem zput_keys (g : Nums) (k : List Nat) (z : Int) : (zput g k z).map (·.1) = if k ∈ g.map (·.1) then g.map (·.1) else g.map (·.1) ++ [k] := by
  have e : (g.any fun kv => decide (kv.1 = k)) = decide (k ∈ g.map (·.1)) := by
    rw [Bool.eq_iff_iff, List.any_eq_true, decide_eq_true_eq, List.mem_map]
    simp only [decide_eq_true_eq]
  unfold zput
  rw [e]
  by_cases h : k ∈ g.map (·.1)
  · rw [if_pos (decide_eq_true h), if_pos h, List.map_map]
    apply List.map_congr_left
    intro a _
    simp only [Function.comp]
    split <;> rfl
  · rw [if_neg (by simpa using h), if_neg h]; simp

structure NumOk (B m : Nat) (P : List Nat → Prop) (g : Nums) : Prop where
  nd : (g.map (·.1)).Nodup
  len : ∀ k ∈ g.map (·.1), k.length ≤ B
  many : g.length ≤ m
  all : ∀ k ∈ g.map (·.1), P k
theorem zadd_ok {B m : Nat} {P : List Nat → Prop} {g : Nums} (h : NumOk B m P g) {k : List Nat} (hk : k.length ≤ B) (hp : P k) (z : Int) : NumOk B (m + 1) P (zadd g k z) := by
  have e := zput_keys g k (zget g k + z)
  have el := congrArg List.length e
  refine ⟨?_, ?_, ?_, ?_⟩
  · unfold zadd; rw [e]
    split
    · exact h.nd
    · rename_i hn
      rw [List.nodup_append]
      exact ⟨h.nd, by simp, fun a ha b hb => by rw [List.mem_singleton.mp hb]; rintro rfl; exact hn ha⟩
  · unfold zadd; rw [e]
    split
    · exact h.len
    · intro a ha
      rcases List.mem_append.mp ha with ha | ha
      · exact h.len a ha
      · rw [List.mem_singleton.mp ha]; exact hk
  · have := h.many
    unfold zadd
    simp only [List.length_map] at el
    rw [el]
    split
    · rw [List.length_map]; (first | lia | omega)
    · rw [List.length_append, List.length_map]; simp; (first | lia | omega)
  · unfold zadd; rw [e]
    split
    · exact h.all
    · intro a ha
      rcases List.mem_append.mp ha with ha | ha
      · exact h.all a ha
      · rw [List.mem_singleton.mp ha]; exact hp
theorem growW_ok {B b : Nat} {P : List Nat → Prop} {line : List Nat} (n : Int) : ∀ {m : Nat} (ways : List Way) {g : Nums}, NumOk (B + b) m P g → line.length ≤ B → (∀ w ∈ ways, w.1.length ≤ b ∧ P (line ++ w.1)) → NumOk (B + b) (m + ways.length) P (growW line n ways g)
  | _, [], _, h, _, _ => h
  | m, w :: ways, g, h, hl, hw => by
    have := growW_ok n ways (zadd_ok h (k := line ++ w.1) (by have := (hw w (.head _)).1; rw [List.length_append]; (first | lia | omega)) (hw w (.head _)).2 (w.2 * n)) hl fun v hv => hw v (.tail _ hv)
    rw [show m + (w :: ways).length = m + 1 + ways.length from by rw [List.length_cons]; (first | lia | omega)]
    exact this
theorem growL_ok' {B b : Nat} {P Q : List Nat → Prop} (ways : List Way) : ∀ {m : Nat} (nums : Nums) {g : Nums}, NumOk (B + b) m Q g → (∀ kv ∈ nums, kv.1.length ≤ B ∧ P kv.1) → (∀ k, P k → ∀ w ∈ ways, w.1.length ≤ b ∧ Q (k ++ w.1)) →
    NumOk (B + b) (m + nums.length * ways.length) Q (nums.foldl (fun g kv => growW kv.1 kv.2 ways g) g)
  | _, [], _, h, _, _ => by simpa using h
  | m, kv :: nums, g, h, hn, hw => by
    have h1 := growW_ok kv.2 ways h (hn kv (.head _)).1 (hw kv.1 (hn kv (.head _)).2)
    have := growL_ok' (B := B) (P := P) ways nums h1 (fun v hv => hn v (.tail _ hv)) hw
    rw [List.foldl_cons, show m + (kv :: nums).length * ways.length = m + ways.length + nums.length * ways.length from by rw [List.length_cons, Nat.succ_mul]; (first | lia | omega)]
    exact this
theorem nil_ok (B : Nat) (P : List Nat → Prop) : NumOk B 0 P [] := ⟨by simp, by simp, by simp, by simp⟩
theorem waysF_ok (row : List (List Nat)) (i : Nat) (hr : ∀ u ∈ row, u.length ≤ 3) : (waysF row i).length ≤ 3 ∧ ∀ w ∈ waysF row i, w.1.length ≤ 4 ∧ (w.2 = 1 ∨ w.2 = -1) := by
  have hu : (row.getD i []).length ≤ 3 := by
    rw [List.getD_eq_getElem?_getD]
    cases h : row[i]? with
    | none => simp
    | some u => exact hr u (List.mem_of_getElem? h)
  unfold waysF
  generalize row.getD i [] = u at hu
  have h1 : ∀ (c : Prop) [Decidable c] (a : Way), (if c then [a] else []).length ≤ 1 := by intro c _ a; split <;> simp
  refine ⟨?_, fun w hw => ?_⟩
  · rw [List.length_append]
    exact Nat.add_le_add (Nat.le_refl 2) (h1 _ _)
  rcases List.mem_append.mp hw with hw | hw
  · rcases List.mem_cons.mp hw with rfl | hw
    · simp; (first | lia | omega)
    · rw [List.mem_singleton.mp hw]
      refine ⟨?_, .inr rfl⟩
      show (if 1 < u.length then u.dropLast ++ [32] else []).length ≤ 4
      split
      · simp; (first | lia | omega)
      · simp
  · split at hw
    · rw [List.mem_singleton.mp hw]; exact ⟨by simp, .inl rfl⟩
    · cases hw
theorem numsF_ok (row : List (List Nat)) (hr : ∀ u ∈ row, u.length ≤ 3) : ∀ i, NumOk (4 * i) (3 ^ i) (fun _ => True) (numsF row i)
  | 0 => ⟨by simp [numsF], by simp [numsF], by simp [numsF], fun _ _ => trivial⟩
  | i + 1 => by
    have ih := numsF_ok row hr i
    have hw := waysF_ok row i hr
    have := growL_ok' (B := 4 * i) (b := 4) (P := fun _ => True) (Q := fun _ => True) (waysF row i) (numsF row i) (nil_ok _ _) (fun kv hkv => ⟨ih.len _ (List.mem_map.mpr ⟨kv, hkv, rfl⟩), trivial⟩) (fun k _ w hww => ⟨(hw.2 w hww).1, trivial⟩)
    refine ⟨this.nd, fun k hk => ?_, ?_, fun _ _ => trivial⟩
    · have := this.len k hk; (first | lia | omega)
    · refine Nat.le_trans this.many ?_
      rw [Nat.zero_add, Nat.pow_succ]
      exact Nat.mul_le_mul ih.many hw.1
theorem numsF_take_ok (row : List (List Nat)) (hr : ∀ u ∈ row, u.length ≤ 3) (i : Nat) (j : Nat) : NumOk (4 * i + 4) (3 ^ i * 3) (fun _ => True) (growL (waysF row i) ((numsF row i).take j)) := by
  have ih := numsF_ok row hr i
  have hw := waysF_ok row i hr
  have := growL_ok' (B := 4 * i) (b := 4) (P := fun _ => True) (Q := fun _ => True) (waysF row i) ((numsF row i).take j) (nil_ok _ _) (fun kv hkv => ⟨ih.len _ (List.mem_map.mpr ⟨kv, List.mem_of_mem_take hkv, rfl⟩), trivial⟩) (fun k _ w hww => ⟨(hw.2 w hww).1, trivial⟩)
  refine ⟨this.nd, this.len, ?_, this.all⟩
  refine Nat.le_trans this.many ?_
  rw [Nat.zero_add]
  exact Nat.mul_le_mul (Nat.le_trans (List.length_take_le' _ _) ih.many) hw.1
theorem growL_snoc (ways : List Way) (nums : Nums) (kv : List Nat × Int) : growL ways (nums ++ [kv]) = growW kv.1 kv.2 ways (growL ways nums) := by
  unfold growL; rw [List.foldl_append]; rfl
theorem growW_snoc (line : List Nat) (n : Int) (ways : List Way) (w : Way) (g : Nums) : growW line n (ways ++ [w]) g = zadd (growW line n ways g) (line ++ w.1) (w.2 * n) := by
  unfold growW; rw [List.foldl_append]; rfl
end
section
set_option maxRecDepth 100000
noncomputable def W2 (w : Way) : D := .tup [.str w.1, .int w.2]

theorem fn_numbers (w : World) (mb : Str → Option Value) (row : List (List Nat)) (hn : row.length ≤ 4) (hr : ∀ u ∈ row, u.length ≤ 3) : Fn (cx1 w mb) 1 57 [.list (row.map D.str)] (.dict (emb (numsF row row.length))) := by
  have hSL := sizeLine_val
  refine fn_intro (xs := ["row"]) rfl rfl rfl rfl rfl rfl rfl rfl ?_ rfl (by decide +kernel) rfl rfl rfl ?_
  · intro vals h
    obtain ⟨_, rfl⟩ := len1 h; exact rfl
  intro A L hA
  have hrl : (row.map D.str).length = row.length := List.length_map _
  refine ex_assign (d := .dict (emb (numsF row 0))) (ev_of_evfd (evf_dict (kvs := [([], .int 1)]) (evp_cons (by walk_at "mev") (by walk_at "mev") evp_nil) (by decide))) (.inl rfl) (by walk_at "mset") ?_
  refine ex_for (J := fun i σ => σ = [("row", .val (.list (row.map D.str))), ("numbers", .val (.dict (emb (numsF row i))))]) (ds := rangeD 0 1 (row.length : Int).toNat)
    (f := fun d σ => set σ "place" (.val d)) (evi_range1 hA.handled rfl rfl (ev_len (d := .list (row.map D.str)) rfl rfl (by walk_at "mev") (congrArg some hrl) (by first | lia | omega)) (by first | lia | omega)) (fun d _ => binds_name (.inl rfl)) rfl ?_ ?_
  · rintro i d σ' hd rfl
    obtain ⟨hi, rfl⟩ := rangeD_get hd
    rw [Int.toNat_natCast] at hi
    rw [show (0 : Int) + (i : Int) * 1 = (i : Int) from by first | lia | omega]
    have hw := waysF_ok row i hr
    have hk := numsF_ok row hr i
    have hpow : 3 ^ i ≤ 81 := Nat.le_trans (Nat.pow_le_pow_right (by decide) (show i ≤ 4 by first | lia | omega)) (by decide)
    obtain ⟨u, hu⟩ : ∃ u, row[i]? = some u := ⟨row[i], List.getElem?_eq_getElem hi⟩
    have hgu : row.getD i [] = u := by rw [List.getD_eq_getElem?_getD, hu]; rfl
    have hul : u.length ≤ 3 := hr u (List.mem_of_getElem? hu)
    have hds : (row.map D.str)[i]? = some (.str u) := by rw [List.getElem?_map, hu]; rfl
    refine ex_conv (show Mine.set _ "place" _ = _ by walk_at "mset") ?_
    refine ex_assign (d := .str u) (ev_item_list (i := (i : Int)) (j := i) (by walk_at "mev") (by walk_at "mev") (by rw [hrl]; exact seqIndex_nat (by first | lia | omega) (by first | lia | omega)) hds (by first | lia | omega)) (.inl rfl) (by walk_at "mset") ?_
    have hcut : u.dropLast = sliceL u none (some (-1)) := (sliceL_0m u).symm
    have hdl : u.dropLast.length ≤ 3 := by rw [List.length_dropLast]; (first | lia | omega)
    have hw0 : waysF row i = [(u ++ [32], 1), (if 1 < u.length then u.dropLast ++ [32] else [], -1)] ++ (if 0 < i ∧ row.getD (i - 1) [] = u then [([], 1)] else []) := by unfold waysF; rw [hgu]
    have hways : ∀ (e1 e2 : Expr) (k1 k2 : Nat) (p1 p2 p3 : Pos) (n1 n2 : Expr) (env : Env) (σ : Sto), starEach [.Tuple [e1, n1] k1 p1, .Tuple [e2, n2] k2 p2] env = [(false, eval (.Tuple [e1, n1] k1 p1) env), (false, eval (.Tuple [e2, n2] k2 p2) env)] → starEach [.Tuple [e2, n2] k2 p2] env = [(false, eval (.Tuple [e2, n2] k2 p2) env)] →
        EvL (cx1 w mb) A env σ p1 [e1, n1] [.str (u ++ [32]), .int 1] → EvL (cx1 w mb) A env σ p2 [e2, n2] [.str (if 1 < u.length then u.dropLast ++ [32] else []), .int (-1)] →
        EvF (cx1 w mb) A env σ (.List [.Tuple [e1, n1] k1 p1, .Tuple [e2, n2] k2 p2] p3) (.list ([(u ++ [32], 1), (if 1 < u.length then u.dropLast ++ [32] else [], -1)].map W2)) :=
      fun e1 e2 k1 k2 p1 p2 p3 n1 n2 env σ hs1 hs2 h1 h2 => evf_list (evl_cons (ev_tuple h1) (evl_cons (ev_tuple h2) evl_nil (by rw [hs2]; rfl)) (by rw [hs1, hs2]))
    refine ex_assign_own (hways _ _ _ _ _ _ _ _ _ _ _ rfl rfl ?_ ?_) (.inl rfl) (by walk_at "mset") ?_
    · walk_at "mevl"
    · refine evl_cons ?_ (by walk_at "mevl")
      rw [hcut, show (if 1 < u.length then sliceL u none (some (-1)) ++ [32] else []) = if decide ((u.length : Int) > 1) = true then sliceL u none (some (-1)) ++ [32] else [] from by
        by_cases h : 1 < u.length
        · rw [if_pos h, if_pos (decide_eq_true (by first | lia | omega))]
        · rw [if_neg h, if_neg (by rw [decide_eq_true_eq]; (first | lia | omega))]]
      rw [hcut] at hdl
      exact ev_ifexp_str (by walk_at "mevt") (fun _ => by walk_at "mev") (fun _ => by walk_at "mev")
    refine ex_if (b := decide ((i : Int) > 0) && decide (row.getD (i - 1) [] = u)) (N1 := fun σ' => σ' = [("row", .val (.list (row.map D.str))), ("numbers", .val (.dict (emb (numsF row i)))), ("place", .val (.int i)), ("word", .val (.str u)), ("ways", .own (.list ((waysF row i).map W2)))])
      (evt_and (by walk_at "mevt") fun hb => ?_) ?_ ?_ ?_
    · have h0 : 0 < i := by simpa using hb
      obtain ⟨v, hv⟩ : ∃ v, row[i - 1]? = some v := ⟨row[i - 1], List.getElem?_eq_getElem (by first | lia | omega)⟩
      have hgv : row.getD (i - 1) [] = v := by rw [List.getD_eq_getElem?_getD, hv]; rfl
      rw [hgv]
      exact evt_cmp (ev_item_list (i := (i : Int) - 1) (j := i - 1) (by walk_at "mev") (by walk_at "mev") (by rw [hrl, show (i : Int) - 1 = ((i - 1 : Nat) : Int) from by first | lia | omega]; exact seqIndex_nat (by first | lia | omega) (by first | lia | omega)) (by rw [List.getElem?_map, hv]; rfl) (by first | lia | omega)) (by walk_at "mev") op_eq_str
    · intro hb
      have hb' : 0 < i ∧ row.getD (i - 1) [] = u := by simpa using hb
      rw [if_pos hb'] at hw0
      rw [hw0]
      refine ex_append (d := W2 ([], 1)) (by walk_at "mmem") ?_ (by simp; (first | lia | omega)) (by walk_at "mset") (ex_nil ?_)
      · exact ev_tuple (by walk_at "mevl")
      · rw [List.map_append]; rfl
    · intro hb
      have hb' : ¬ (0 < i ∧ row.getD (i - 1) [] = u) := by simpa using hb
      rw [if_neg hb', List.append_nil] at hw0
      rw [hw0]
      exact ex_nil rfl
    rintro σ' rfl
    clear hways hw0 hcut hdl hds hgu hu
    have hnums : numsF row (i + 1) = growL (waysF row i) (numsF row i) := rfl
    rw [hnums]
    have htk := numsF_take_ok row hr i
    generalize waysF row i = ways at hw htk
    generalize numsF row i = nums at hk htk
    obtain ⟨hw1, hw2⟩ := hw
    refine ex_assign_own evf_dict0 (.inl rfl) (by walk_at "mset") ?_
    refine ex_freeze (x := "ways") (by walk_at "mmem") (by walk_at "mset") ?_
    refine ex_weaken (σ' := [("row", .val (.list (row.map D.str))), ("numbers", .val (.dict (emb nums))), ("ways", .val (.list (ways.map W2))), ("grown", .own (.dict []))]) (by walk_at "msub") ?_
    refine ex_for (J := fun j σ => σ = [("row", .val (.list (row.map D.str))), ("numbers", .val (.dict (emb nums))), ("ways", .val (.list (ways.map W2))), ("grown", .own (.dict (emb (growL ways (nums.take j)))))])
      (f := fun d σ => set σ "line" (.val d)) (evi_dict hA.handled (by walk_at "mev") (by rw [emb_keys]; exact hk.nd)) (fun d _ => binds_name (.inl rfl)) rfl ?_ ?_
    · rintro j d σ' hd rfl
      rw [List.getElem?_map, emb, List.getElem?_map, Option.map_map] at hd
      obtain ⟨⟨line, n⟩, hkv, rfl⟩ := Option.map_eq_some_iff.mp hd
      have hmem := List.mem_of_getElem? hkv
      have hll : line.length ≤ 4 * i := hk.len line (List.mem_map.mpr ⟨_, hmem, rfl⟩)
      have htkj : nums.take (j + 1) = nums.take j ++ [(line, n)] := by rw [List.take_add_one, hkv]; rfl
      have hit := emb_item hk.nd hmem
      have hnd : ((emb nums).map (·.1)).Nodup := by rw [emb_keys]; exact hk.nd
      rw [htkj, growL_snoc]
      have hg := htk j
      generalize growL ways (nums.take j) = g at hg
      refine ex_conv (show Mine.set _ "line" _ = _ by walk_at "mset") ?_
      refine ex_for (J := fun t σ => σ = [("row", .val (.list (row.map D.str))), ("numbers", .val (.dict (emb nums))), ("ways", .val (.list (ways.map W2))), ("grown", .own (.dict (emb (growW line n (ways.take t) g)))), ("line", .val (.str line))])
        (f := fun d σ => match d with | .tup ds => setAll σ ["more", "sign"] ds | _ => σ) (evi_list hA.handled (by walk_at "mev")) ?_ rfl ?_ ?_
      · intro d hd
        obtain ⟨r, _, rfl⟩ := List.mem_map.mp hd
        exact binds_tup hA.handled (.cons stores_name (.inl rfl) (.cons stores_name (.inl rfl) .nil)) rfl
      · rintro t d σ' hd rfl
        rw [List.getElem?_map] at hd
        obtain ⟨⟨more, sign⟩, hwt, rfl⟩ := Option.map_eq_some_iff.mp hd
        have hwm := List.mem_of_getElem? hwt
        obtain ⟨hml, hsg⟩ := hw2 _ hwm
        have hml' : more.length ≤ 4 := hml
        have hsg' : sign = 1 ∨ sign = -1 := hsg
        have htt : ways.take (t + 1) = ways.take t ++ [(more, sign)] := by rw [List.take_add_one, hwt]; rfl
        have hgo := growW_ok (B := 4 * i) (b := 4) (P := fun _ => True) n (ways.take t) hg hll (fun v hv => ⟨(hw2 v (List.mem_of_mem_take hv)).1, trivial⟩)
        have htl : (ways.take t).length ≤ ways.length := List.length_take_le' _ _
        rw [htt, growW_snoc]
        generalize growW line n (ways.take t) g = h at hgo
        have hhn : ((emb h).map (·.1)).Nodup := by rw [emb_keys]; exact hgo.nd
        have hhl := hgo.many
        refine ex_conv (show Mine.setAll _ ["more", "sign"] [.str _, .int _] = _ by walk_at "mset") ?_
        have hput : dput (emb h) (line ++ more) (.int (zget h (line ++ more) + sign * n)) = emb (zadd h (line ++ more) (sign * n)) := emb_put _ _ _
        refine ex_setitem_own (key := line ++ more) (d := .int (zget h (line ++ more) + sign * n)) (by walk_at "mmem") (ev_binop (a := .int (zget h (line ++ more))) (b := .int (sign * n)) (ev_get_own (key := line ++ more) (dd := .int 0) (by walk_at "mmem") (by walk_at "mev") (by walk_at "mev") hhn (emb_get _ _)) (ev_binop (a := .int sign) (b := .int n) (by walk_at "mev") (ev_item_dict (k := line) (by walk_at "mev") (by walk_at "mev") hnd hit) (op_mul_int (by rcases hsg' with rfl | rfl <;> exact IntMulOk.of_left (by decide)))) op_add_int) (by walk_at "mev") hhn (by rw [emb_len]; (first | lia | omega)) rfl ?_
        rw [hput]
        refine ex_conv (show Mine.set _ "grown" _ = _ by walk_at "mset") ?_
        exact ex_end (by walk_at "msub") rfl
      · rintro σ' rfl
        rw [List.take_of_length_le (by rw [List.length_map]; exact Nat.le_refl _)]
        exact ex_end (by walk_at "msub") rfl
    · rintro σ' rfl
      rw [List.take_of_length_le (by rw [List.length_map, emb_len]; exact Nat.le_refl _)]
      refine ex_freeze (x := "grown") (by walk_at "mmem") (by walk_at "mset") ?_
      refine ex_assign (by walk_at "mev") (.inl rfl) (by walk_at "mset") ?_
      exact ex_end (by walk_at "msub") rfl
  · rintro σ' rfl
    rw [rangeD_length, Int.toNat_natCast]
    exact ex_return (by walk_at "mev") rfl
end
section
set_option maxRecDepth 100000

noncomputable def drawnF (script : List Int) : List Int := script.take 4 ++ ([1540, 4676, 5793] : List Int).drop script.length
noncomputable def ownF (drawn : List Int) : List (List Nat) := drawn.map fun x => wordF (x.fmod 8).toNat
noncomputable def fullF (ws : List (List Nat)) : List (List Nat) := ws.filter fun w => !decide (w = [])
noncomputable def figF (x k : Int) : Int := ((x.fdiv 8).fdiv (12 ^ k.toNat)).fmod 12
noncomputable def upI (n : Nat) : List Int := (List.range n).map fun (k : Nat) => (k : Int)
noncomputable def figsF (x : Int) (n : Nat) : List Int := (upI (n + 2)).map (figF x)
noncomputable def innersF (x : Int) (own : List (List Nat)) : List (List Nat) := (List.range own.length).map fun (k : Nat) => innerF (figF x ((k : Int) + 2)) (own.getD k [])
noncomputable abbrev Wtd := List Nat × List (List Nat) × List Nat
noncomputable def wantOf (own : List (List Nat)) (head tail : List Nat) (x : Int) : Wtd := (endF (figF x 0) head, fullF (innersF x own), endF (figF x 1) tail)
noncomputable def wantedF (drawn : List Int) (own : List (List Nat)) (head tail : List Nat) : List Wtd := (head, fullF own, tail) :: (drawn.take (6 - drawn.length)).map (wantOf own head tail)
noncomputable def wordsF (head tail line : List Nat) : List (List Nat) := [head] ++ wordsL line ++ [tail]
noncomputable def toldF (head tail line : List Nat) : List Nat := joinL [32] (fullF ((wordsF head tail line).map dressF))
noncomputable def pagesF (head tail : List Nat) (nums : Nums) : Nums := nums.map fun kv => (toldF head tail kv.1, kv.2)
noncomputable def askW (q : Wtd) : List (List Nat) := [q.1] ++ q.2.1 ++ [q.2.2]
noncomputable def wantF (q : Wtd) : List Nat := joinL dots ((askW q).map dressF)
noncomputable def dueF (row : List (List Nat)) (head tail : List Nat) (q : Wtd) : Int := if q.2.1 = row ∧ q.2.2 = tail ∧ head.take q.1.length = q.1 then 1 else 0
noncomputable def spellW (ws : List (List Nat)) (t : Int) : List (List Nat) := (List.range ws.length).map fun (k : Nat) => spelledF (ws.getD k []) (t + k)
noncomputable def firstSums (pages : Nums) : Nums := [pages.headD ([], 0), pages.getLastD ([], 0), ((pages.headD ([], 0)).1 ++ dots ++ (pages.headD ([], 0)).1.drop ((pages.headD ([], 0)).1.length - 1), if (pages.headD ([], 0)).1 = [] then 1 else 0)]
noncomputable def sumsF (pages : Nums) (wanted : List Wtd) (row : List (List Nat)) (head tail : List Nat) : Nums := firstSums pages ++ wanted.map fun q => (wantF q, dueF row head tail q)
noncomputable def balStep (want : List Nat) (b : Int) (p : List Nat × Int) : Int := if matchF want p.1 = true then b + p.2 else b
noncomputable def balF (want : List Nat) (pages : Nums) : Int := pages.foldl (balStep want) 0

noncomputable def Tbl : List (List Nat) := [[], [97], [98], [97, 39], [97, 98], [98, 97], [97, 39, 98], [97, 98, 98]]
theorem tbl_wordF (k : Nat) : wordF k ∈ Tbl := by unfold wordF; split <;> decide
theorem tbl_facts : ∀ u ∈ Tbl, u.length ≤ 3 ∧ (∀ x ∈ u, x < 128) ∧ (u = [] ∨ u.head? = some 97 ∨ u.head? = some 98) := by decide
theorem tbl_take : ∀ u ∈ Tbl, u.take 1 ∈ Tbl := by decide
theorem tbl_end (f : Int) {own : List Nat} (h : own ∈ Tbl) : endF f own ∈ Tbl := by
  unfold endF; split
  · exact h
  · split
    · exact tbl_take _ h
    · exact tbl_wordF _
theorem tbl_inner (f : Int) {own : List Nat} (h : own ∈ Tbl) : innerF f own ∈ Tbl := by
  unfold innerF; split
  · exact h
  · exact tbl_wordF _
theorem tbl_getD {ws : List (List Nat)} (h : ∀ u ∈ ws, u ∈ Tbl) (k : Nat) : ws.getD k [] ∈ Tbl := by
  rw [List.getD_eq_getElem?_getD]
  cases e : ws[k]? with
  | none => decide
  | some u => exact h u (List.mem_of_getElem? e)
theorem tbl_own (drawn : List Int) : ∀ u ∈ ownF drawn, u ∈ Tbl := by
  intro u hu; obtain ⟨x, _, rfl⟩ := List.mem_map.mp hu; exact tbl_wordF _
theorem mem_full {ws : List (List Nat)} {u : List Nat} : u ∈ fullF ws ↔ u ∈ ws ∧ u ≠ [] := by simp [fullF]
theorem full_length (ws : List (List Nat)) : (fullF ws).length ≤ ws.length := List.length_filter_le _ _
theorem tbl_full {ws : List (List Nat)} (h : ∀ u ∈ ws, u ∈ Tbl) : ∀ u ∈ fullF ws, u ∈ Tbl := fun u hu => h u (mem_full.mp hu).1
theorem tbl_inners (x : Int) {own : List (List Nat)} (h : ∀ u ∈ own, u ∈ Tbl) : ∀ u ∈ innersF x own, u ∈ Tbl := by
  intro u hu; obtain ⟨k, _, rfl⟩ := List.mem_map.mp hu; exact tbl_inner _ (tbl_getD h k)
theorem dressF_len (u : List Nat) : (dressF u).length = u.length := by cases u <;> rfl

structure Law1 (head tail : List Nat) (row : List (List Nat)) (nums : Nums) (wanted : List Wtd) : Prop where
  ne : nums ≠ []
  words : ∀ kv ∈ nums, (wordsL kv.1).length ≤ 4 ∧ ∀ u ∈ wordsL kv.1, u ∈ Tbl
  told : ∀ kv ∈ nums, ∀ t : Int, capF1 (spreadF (wordsF head tail kv.1) t) = toldF head tail kv.1
  want : ∀ q ∈ wanted, ∀ t : Int, capF2 (joinL dots (spellW (askW q) t)) dots = wantF q
  sums : ∀ p ∈ sumsF (pagesF head tail nums) wanted row head tail, balF p.1 (pagesF head tail nums) = p.2

theorem upI_range (n : Nat) : rangeD 0 1 n = (upI n).map D.int := by
  unfold rangeD upI; rw [List.map_map]; apply List.map_congr_left; intro k _; simp
theorem upI_len (n : Nat) : (upI n).length = n := by simp [upI]
theorem upI_mem {n : Nat} {i : Int} (h : i ∈ upI n) : ∃ k : Nat, k < n ∧ i = k := by
  obtain ⟨k, hk, rfl⟩ := List.mem_map.mp h
  exact ⟨k, List.mem_range.mp hk, rfl⟩
theorem figF_range (x k : Int) : 0 ≤ figF x k ∧ figF x k < 12 := ⟨Int.fmod_nonneg_of_pos _ (by decide), Int.fmod_lt_of_pos _ (by decide)⟩
theorem figs_get (x : Int) {n k : Nat} (h : k < n + 2) : ((figsF x n).map D.int)[k]? = some (.int (figF x k)) := by
  unfold figsF upI
  rw [List.getElem?_map, List.getElem?_map, List.getElem?_map, List.getElem?_range h]; rfl
theorem figs_len (x : Int) (n : Nat) : (figsF x n).length = n + 2 := by simp [figsF, upI]

theorem sum_len_le {ls : List (List Nat)} {b : Nat} (h : ∀ u ∈ ls, u.length ≤ b) : (ls.map (·.length)).sum ≤ b * ls.length := by
  induction ls with
  | nil => simp
  | cons a r ih =>
    have h1 := ih fun u hu => h u (.tail _ hu)
    have h2 := h a (.head _)
    simp only [List.map_cons, List.sum_cons, List.length_cons, Nat.mul_succ]; (first | lia | omega)

theorem up1_lt (x : Nat) (h : x < 128) : up1 x < 128 := by unfold up1; split <;> (first | lia | omega)
theorem spelled_ascii {u : List Nat} (h : ∀ x ∈ u, x < 128) (t : Int) : ∀ x ∈ spelledF u t, x < 128 := by
  unfold spelledF
  split
  · exact h
  · split
    · intro x hx; obtain ⟨y, hy, rfl⟩ := List.mem_map.mp hx; exact up1_lt y (h y hy)
    · intro x hx
      rcases List.mem_append.mp hx with hx | hx
      · exact h x (List.mem_of_mem_take hx)
      · obtain ⟨y, hy, rfl⟩ := List.mem_map.mp hx; exact up1_lt y (h y (List.mem_of_mem_drop hy))
theorem sep_ascii (k : Nat) : ∀ x ∈ sepF k, x < 128 := by unfold sepF; split <;> decide
theorem spread_ascii : ∀ (ws : List (List Nat)) (st : List Nat × Int), (∀ w ∈ ws, ∀ x ∈ w, x < 128) → (∀ x ∈ st.1, x < 128) → ∀ x ∈ (ws.foldl spreadStep st).1, x < 128
  | [], _, _, h => h
  | w :: ws, st, hw, h => by
    rw [List.foldl_cons]
    refine spread_ascii ws _ (fun u hu => hw u (.tail _ hu)) fun x hx => ?_
    unfold spreadStep at hx
    rcases List.mem_append.mp hx with hx | hx
    · exact h x hx
    · rcases List.mem_append.mp hx with hx | hx
      · exact sep_ascii _ x hx
      · exact spelled_ascii (hw w (.head _)) _ x hx
theorem spreadF_ascii (ws : List (List Nat)) (t : Int) (hw : ∀ w ∈ ws, ∀ x ∈ w, x < 128) : ∀ x ∈ spreadF ws t, x < 128 := by
  intro x hx
  rcases List.mem_append.mp hx with hx | hx
  · exact spread_ascii ws _ hw (fun y hy => by cases hy) x hx
  · rw [List.mem_singleton.mp hx]; decide
theorem spreadF_len (ws : List (List Nat)) (t : Int) (h : ∀ w ∈ ws, w.length ≤ 3) (hn : ws.length ≤ 100) : (spreadF ws t).length ≤ 501 := by
  have := spread_len0 ws t h hn
  unfold spreadF
  rw [List.length_append, List.length_singleton]; (first | lia | omega)

noncomputable abbrev W3 (q : Wtd) : D := .tup [.str q.1, .list (q.2.1.map D.str), .str q.2.2]
theorem joinL_len (sep : List Nat) : ∀ ls : List (List Nat), (joinL sep ls).length ≤ (ls.map (·.length)).sum + ls.length * sep.length
  | [] => by simp [joinL]
  | [x] => by simp [joinL]
  | x :: y :: r => by
    have := joinL_len sep (y :: r)
    simp only [joinL, List.length_append, List.map_cons, List.sum_cons, List.length_cons, Nat.succ_mul] at this ⊢
    (first | lia | omega)
theorem told_len {head tail line : List Nat} (h : ∀ u ∈ wordsF head tail line, u ∈ Tbl) (hn : (wordsF head tail line).length ≤ 6) : (toldF head tail line).length ≤ 1000 := by
  unfold toldF
  have h1 : ∀ u ∈ fullF ((wordsF head tail line).map dressF), u.length ≤ 3 := by
    intro u hu
    obtain ⟨v, hv, rfl⟩ := List.mem_map.mp (mem_full.mp hu).1
    rw [dressF_len]; exact (tbl_facts v (h v hv)).1
  have h2 := full_length ((wordsF head tail line).map dressF)
  have h3 := sum_len_le h1
  have h4 := joinL_len [32] (fullF ((wordsF head tail line).map dressF))
  rw [List.length_map] at h2
  simp only [List.length_singleton] at h4
  (first | lia | omega)

theorem pow_line {k : Nat} (h : k ≤ 5) : (Builtin.Int.intBits 12 : Int) * (k : Int) ≤ bitsLine := by
  have : (Builtin.Int.intBits 12 : Int) * 5 ≤ bitsLine := by decide +kernel
  refine Int.le_trans (Int.mul_le_mul_of_nonneg_left (by first | lia | omega) (Int.natCast_nonneg _)) this

theorem sums_len {pages : Nums} {wanted : List Wtd} {row : List (List Nat)} {head tail : List Nat} (hp : ∀ p ∈ pages, p.1.length ≤ 1000) (hne : pages ≠ []) (hw : ∀ q ∈ wanted, (q.1 ∈ Tbl ∧ (∀ u ∈ q.2.1, u ∈ Tbl) ∧ q.2.2 ∈ Tbl) ∧ q.2.1.length ≤ 4) :
    ∀ p ∈ sumsF pages wanted row head tail, p.1.length ≤ 5000 := by
  have h1 : (pages.headD ([], 0)).1.length ≤ 1000 := by cases pages with | nil => exact absurd rfl hne | cons a r => exact hp a (.head _)
  have h2 : (pages.getLastD ([], 0)).1.length ≤ 1000 := by
    have : pages.getLastD ([], 0) ∈ pages := by
      rw [List.getLastD_eq_getLast?]
      cases h : pages.getLast? with
      | none => exact absurd (List.getLast?_eq_none_iff.mp h) hne
      | some a => exact List.mem_of_getLast? h
    exact hp _ this
  intro p hpp
  rcases List.mem_append.mp hpp with h | h
  · rcases List.mem_cons.mp h with rfl | h
    · (first | lia | omega)
    · rcases List.mem_cons.mp h with rfl | h
      · (first | lia | omega)
      · rw [List.mem_singleton.mp h]
        simp only [List.length_append, List.length_drop, show dots.length = 3 from rfl]
        (first | lia | omega)
  · obtain ⟨q, hq, rfl⟩ := List.mem_map.mp h
    obtain ⟨⟨t1, t2, t3⟩, hl⟩ := hw q hq
    have hj := joinL_len dots ((askW q).map dressF)
    have hb : ∀ u ∈ (askW q).map dressF, u.length ≤ 3 := by
      intro u hu
      obtain ⟨v, hv, rfl⟩ := List.mem_map.mp hu
      rw [dressF_len]
      rcases List.mem_append.mp hv with hv | hv
      · rcases List.mem_append.mp hv with hv | hv
        · rw [List.mem_singleton.mp hv]; exact (tbl_facts _ t1).1
        · exact (tbl_facts _ (t2 v hv)).1
      · rw [List.mem_singleton.mp hv]; exact (tbl_facts _ t3).1
    have hs := sum_len_le hb
    have hn : ((askW q).map dressF).length ≤ 6 := by rw [List.length_map]; simp only [askW, List.length_append, List.length_singleton]; (first | lia | omega)
    rw [show dots.length = 3 from rfl] at hj
    show (joinL dots ((askW q).map dressF)).length ≤ 5000
    (first | lia | omega)
theorem joinL_mem (sep : List Nat) : ∀ (ls : List (List Nat)) (x : Nat), x ∈ joinL sep ls → x ∈ sep ∨ ∃ l ∈ ls, x ∈ l
  | [], _, h => by cases h
  | [l], _, h => .inr ⟨l, .head _, h⟩
  | l :: m :: r, x, h => by
    rcases List.mem_append.mp h with h | h
    · rcases List.mem_append.mp h with h | h
      · exact .inr ⟨l, .head _, h⟩
      · exact .inl h
    · rcases joinL_mem sep (m :: r) x h with h | ⟨k, hk, h⟩
      · exact .inl h
      · exact .inr ⟨k, .tail _ hk, h⟩
theorem spell_facts (words : List (List Nat)) (t : Int) (hw : ∀ u ∈ words, u ∈ Tbl) (hn : words.length ≤ 6) :
    ((spellW words t).map (·.length)).sum + (spellW words t).length * 3 ≤ 100 ∧ (joinL dots (spellW words t)).length ≤ 100 ∧ ∀ x ∈ joinL dots (spellW words t), x < 128 := by
  have hb : ∀ u ∈ spellW words t, u.length ≤ 3 ∧ ∀ x ∈ u, x < 128 := by
    intro u hu
    obtain ⟨k, _, rfl⟩ := List.mem_map.mp hu
    have h := tbl_facts _ (tbl_getD hw k)
    exact ⟨by rw [spelledF_len]; exact h.1, spelled_ascii h.2.1 _⟩
  have h1 := sum_len_le fun u hu => (hb u hu).1
  have h2 : (spellW words t).length = words.length := by simp [spellW]
  have h3 := joinL_len dots (spellW words t)
  rw [show dots.length = 3 from rfl] at h3
  refine ⟨by first | lia | omega, by first | lia | omega, fun x hx => ?_⟩
  rcases joinL_mem dots _ x hx with h | ⟨l, hl, h⟩
  · have : ∀ x ∈ dots, x < 128 := by decide
    exact this x h
  · exact (hb l hl).2 x h

section
variable {c : Cx} {A : Around} {env : Env} {σ : Sto}
theorem evi_up {e : Expr} {np pos : Pos} {n : Nat} (hh : A.handled = none) (hk : env.kindOf (Str.ofString "range") = some .globalImplicit) (hg : c.mg (Str.ofString "range") = none) (he : Ev c A env σ e (.int (n : Int))) (hn : n ≤ 1000)
    (hs : starEach [e] env = [(false, eval e env)] := by rfl) : EvI c A env σ (.Call (.Name (Str.ofString "range") np) [e] [] pos) ((upI n).map D.int) := by
  have h := evi_range1 (np := np) (pos := pos) hh hk hg he (by first | lia | omega) hs
  rwa [Int.toNat_natCast, upI_range] at h
theorem op_fdiv_pow {x : Int} {k : Nat} (hk : k ≤ 5) : Op2 c A (binaryOp .FloorDiv) (.int x) (.int (12 ^ ((k : Int)).toNat)) (.int (x.fdiv (12 ^ ((k : Int)).toNat))) := by
  have h : ∀ k : Nat, k ≤ 5 → ((12 : Int) ^ k ≠ 0 ∧ ((12 : Int) ^ k).natAbs < 1073741824) := by decide
  rw [Int.toNat_natCast]
  exact op_floordiv (h k hk).1 (PyProof.noPylong_small (h k hk).2)
end
end
section
set_option maxRecDepth 100000
set_option maxHeartbeats 2000000 in
theorem fn_law (w : World) (mb : Str → Option Value) (script : List Int) (hs : script.length ≤ 63) (drawn : List Int) (hdr : drawnF script = drawn) (own : List (List Nat)) (how : ownF drawn = own) (head tail : List Nat)
    (hhead : wordF ((drawn.sum.fdiv 8).fmod 8).toNat = head) (htail : wordF ((drawn.sum.fdiv 64).fmod 8).toNat = tail) (hdl : 3 ≤ drawn.length ∧ drawn.length ≤ 4)
    (H : Law1 head tail (fullF own) (numsF (fullF own) (fullF own).length) (wantedF drawn own head tail)) :
    Fn (cx1 w mb) 4 81 [.list (script.map D.int)] (.bool true) := by
  have hSL := sizeLine_val
  have hto : ∀ u ∈ own, u ∈ Tbl := by rw [← how]; exact tbl_own drawn
  have hth : head ∈ Tbl := by rw [← hhead]; exact tbl_wordF _
  have htt : tail ∈ Tbl := by rw [← htail]; exact tbl_wordF _
  have hol : own.length = drawn.length := by rw [← how]; exact List.length_map _
  have hrl : (fullF own).length ≤ 4 := by have := full_length own; (first | lia | omega)
  refine fn_intro (xs := ["script"]) rfl rfl rfl rfl rfl rfl rfl rfl ?_ rfl (by decide +kernel) rfl rfl rfl ?_
  · intro vals h
    obtain ⟨_, rfl⟩ := len1 h; exact rfl
  intro A L hA
  have hA3 : AOk 3 A := hA
  have hA2 : AOk 2 A := hA.le (by first | lia | omega)
  have hA1 : AOk 1 A := hA.le (by first | lia | omega)
  -- drawn
  have hnum : sliceL (script.map D.int) none (some 4) ++ sliceL (([1540, 4676, 5793] : List Int).map D.int) (some (script.length : Int)) none = drawn.map D.int := by
    rw [sliceL_0n _ (by first | lia | omega), sliceL_n0 _ (by first | lia | omega), ← hdr, drawnF, List.map_append, List.map_take, List.map_drop]; rfl
  refine ex_assign (d := .list (drawn.map D.int)) ?_ (by (first | exact Or.inl rfl | exact Or.inr ⟨rfl, rfl⟩)) (by walk_at "mset") ?_
  · rw [← hnum]
    refine ev_binop (a := .list (sliceL (script.map D.int) none (some 4))) (b := .list (sliceL (([1540, 4676, 5793] : List Int).map D.int) (some (script.length : Int)) none)) (ev_slice_list (by walk_at "mev") (by walk_at "mevo") (by walk_at "mevo") (by rw [List.length_map]; (first | lia | omega))) (ev_slice_list (ds := ([1540, 4676, 5793] : List Int).map D.int) (by walk_at "mev") (evo_some ?_) evo_none (by decide)) (op_add_list ?_)
    · exact ev_len (d := .list (script.map D.int)) rfl rfl (by walk_at "mev") (congrArg some (List.length_map _)) (by first | lia | omega)
    · have h1 := sliceL_length_le (script.map D.int) none (some 4)
      have h2 := sliceL_length_le (([1540, 4676, 5793] : List Int).map D.int) (some (script.length : Int)) none
      simp only [List.length_map, List.length_cons, List.length_nil] at h1 h2
      (first | lia | omega)
  -- total, turn
  refine ex_assign (ev_sum hA.handled rfl rfl (by walk_at "mev")) (by (first | exact Or.inl rfl | exact Or.inr ⟨rfl, rfl⟩)) (by walk_at "mset") ?_
  generalize drawn.sum = total at hhead htail
  refine ex_assign (d := .int (total.fmod 12)) (by walk_at "mev") (by (first | exact Or.inl rfl | exact Or.inr ⟨rfl, rfl⟩)) (by walk_at "mset") ?_
  generalize total.fmod 12 = turn
  -- own, row
  have hdm : (drawn.map D.int).length = drawn.length := List.length_map _
  refine ex_assign (d := .list (own.map D.str)) (ev_comp_i (σc := []) (fun x => .str (wordF (x.fmod 8).toNat)) (evi_list hA.handled (by walk_at "mev")) ⟨by simp, by simp, by simp⟩ ?_ (fun _ => trivial) (by first | lia | omega) ⟨rfl, by decide +kernel, rfl, by decide +kernel, rfl, by intro _; rfl⟩ (by rw [← how, ownF, List.map_map]; rfl)) (by (first | exact Or.inl rfl | exact Or.inr ⟨rfl, rfl⟩)) (by walk_at "mset") ?_
  · intro C x _
    exact ev_call (f := 36) rfl rfl rfl rfl (by walk_at "mevl") (fn_word w mb (x.fmod 8) (Int.fmod_nonneg_of_pos x (by decide)) (Int.fmod_lt_of_pos x (by decide))) hA1 (.inr ⟨_, _, rfl⟩) (by decide +kernel)
  refine ex_comp_s (σc := []) (res := fullF own) (fun w => !decide (w = [])) id (evi_list hA.handled (by walk_at "mev")) ⟨by simp, by simp, by simp⟩ (fun C l hl => ?_) (fun C l hl _ => by walk_at "mev") (by first | lia | omega) ⟨rfl, by decide +kernel, rfl, by decide +kernel, rfl, by intro _; rfl⟩ (List.map_id _) (by (first | exact Or.inl rfl | exact Or.inr ⟨rfl, rfl⟩)) (by walk_at "mset") rfl ?_
  · show EvT _ _ _ _ _ _
    walk_at "mevt"
  -- head, tail, numbers
  refine ex_assign (d := .str head) ?_ (by (first | exact Or.inl rfl | exact Or.inr ⟨rfl, rfl⟩)) (by walk_at "mset") ?_
  · rw [← hhead]
    exact ev_call (f := 36) rfl rfl rfl rfl (evl_cons (ev_binop (ev_binop (by walk_at "mev") (by walk_at "mev") (op_floordiv (by decide) (PyProof.noPylong_small (by decide)))) (by walk_at "mev") (op_mod (by decide))) evl_nil) (fn_word w mb _ (Int.fmod_nonneg_of_pos _ (by decide)) (Int.fmod_lt_of_pos _ (by decide))) hA1 (.inr ⟨_, _, rfl⟩) (by decide +kernel)
  refine ex_assign (d := .str tail) ?_ (by (first | exact Or.inl rfl | exact Or.inr ⟨rfl, rfl⟩)) (by walk_at "mset") ?_
  · rw [← htail]
    exact ev_call (f := 36) rfl rfl rfl rfl (evl_cons (ev_binop (ev_binop (by walk_at "mev") (by walk_at "mev") (op_floordiv (by decide) (PyProof.noPylong_small (by decide)))) (by walk_at "mev") (op_mod (by decide))) evl_nil) (fn_word w mb _ (Int.fmod_nonneg_of_pos _ (by decide)) (Int.fmod_lt_of_pos _ (by decide))) hA1 (.inr ⟨_, _, rfl⟩) (by decide +kernel)
  have htr := tbl_full hto
  have hnok := numsF_ok (fullF own) (fun u hu => (tbl_facts u (htr u hu)).1) (fullF own).length
  have hpow : 3 ^ (fullF own).length ≤ 81 := Nat.le_trans (Nat.pow_le_pow_right (by decide) hrl) (by decide)
  refine ex_assign (d := .dict (emb (numsF (fullF own) (fullF own).length))) (ev_call (f := 57) rfl rfl rfl rfl (by walk_at "mevl") (fn_numbers w mb (fullF own) hrl (fun u hu => (tbl_facts u (htr u hu)).1)) hA1 (.inr ⟨_, _, rfl⟩) (by decide +kernel)) (by (first | exact Or.inl rfl | exact Or.inr ⟨rfl, rfl⟩)) (by walk_at "mset") ?_
  generalize numsF (fullF own) (fullF own).length = nums at H hnok
  generalize hrow : fullF own = row at H htr hrl hpow hnok
  obtain ⟨Hne, Hwords, Htold, Hwant, Hsums⟩ := H
  have hnl : nums.length ≤ 81 := Nat.le_trans hnok.many hpow
  -- pages
  refine ex_assign_own (d := .list []) (evf_list evl_nil) (.inl rfl) (by walk_at "mset") ?_
  refine ex_weaken (σ' := [("drawn", .val (.list (drawn.map D.int))), ("turn", .val (.int turn)), ("own", .val (.list (own.map D.str))), ("row", .val (.list (row.map D.str))), ("head", .val (.str head)), ("tail", .val (.str tail)), ("numbers", .val (.dict (emb nums))), ("pages", .own (.list []))]) (by walk_at "msub") ?_
  refine ex_for (J := fun j σ => σ = [("drawn", .val (.list (drawn.map D.int))), ("turn", .val (.int turn)), ("own", .val (.list (own.map D.str))), ("row", .val (.list (row.map D.str))), ("head", .val (.str head)), ("tail", .val (.str tail)), ("numbers", .val (.dict (emb nums))), ("pages", .own (.list ((pagesF head tail (nums.take j)).map W2)))])
    (f := fun d σ => set σ "line" (.val d)) (evi_dict hA.handled (by walk_at "mev") (by rw [emb_keys]; exact hnok.nd)) (fun d _ => binds_name (.inl rfl)) rfl ?_ ?_
  · rintro j d σ' hd rfl
    rw [List.getElem?_map, emb, List.getElem?_map, Option.map_map] at hd
    obtain ⟨⟨line, n⟩, hkv, rfl⟩ := Option.map_eq_some_iff.mp hd
    have hmem := List.mem_of_getElem? hkv
    have hll : line.length ≤ 4 * row.length := hnok.len line (List.mem_map.mpr ⟨_, hmem, rfl⟩)
    have htkj : nums.take (j + 1) = nums.take j ++ [(line, n)] := by rw [List.take_add_one, hkv]; rfl
    have hit := emb_item hnok.nd hmem
    have hnd : ((emb nums).map (·.1)).Nodup := by rw [emb_keys]; exact hnok.nd
    obtain ⟨hwl, hwt⟩ := Hwords _ hmem
    have hold := Htold _ hmem
    have hwt : ∀ u ∈ wordsL line, u ∈ Tbl := hwt
    have hwl : (wordsL line).length ≤ 4 := hwl
    have hold : ∀ t : Int, capF1 (spreadF (wordsF head tail line) t) = toldF head tail line := hold
    have hpg : (pagesF head tail (nums.take (j + 1))).map W2 = (pagesF head tail (nums.take j)).map W2 ++ [W2 (toldF head tail line, n)] := by
      rw [htkj, pagesF, pagesF, List.map_append, List.map_append]; rfl
    rw [hpg]
    have hpl : ((pagesF head tail (nums.take j)).map W2).length ≤ 81 := by
      rw [List.length_map, pagesF, List.length_map]
      exact Nat.le_trans (List.length_take_le' _ _) hnl
    generalize (pagesF head tail (nums.take j)).map W2 = pages at hpl
    refine ex_conv (show Mine.set _ "line" _ = _ by walk_at "mset") ?_
    have hws : ∀ u ∈ wordsF head tail line, u ∈ Tbl := by
      intro u hu
      rcases List.mem_append.mp hu with hu | hu
      · rcases List.mem_append.mp hu with hu | hu
        · rw [List.mem_singleton.mp hu]; exact hth
        · exact hwt u hu
      · rw [List.mem_singleton.mp hu]; exact htt
    have hwsl : (wordsF head tail line).length ≤ 6 := by simp only [wordsF, List.length_append, List.length_singleton]; (first | lia | omega)
    refine ex_assign (d := .list ((wordsF head tail line).map D.str)) ?_ (by (first | exact Or.inl rfl | exact Or.inr ⟨rfl, rfl⟩)) (by walk_at "mset") ?_
    · rw [wordsF, List.map_append, List.map_append]
      exact ev_binop (ev_binop (a := .list [.str head]) (b := .list ((wordsL line).map D.str)) (by walk_at "mev") (ev_of_evf (evf_words0 (by walk_at "mev") (by first | lia | omega))) (op_add_list (by simp; (first | lia | omega)))) (by walk_at "mev") (op_add_list (by simp; (first | lia | omega)))
    have hto2 : toldF head tail line = joinL [32] (fullF ((wordsF head tail line).map dressF)) := rfl
    generalize wordsF head tail line = words at hws hwsl hold hto2
    generalize toldF head tail line = told at hold hto2
    have hw3 : ∀ u ∈ words, u.length ≤ 3 := fun u hu => (tbl_facts u (hws u hu)).1
    have hwa : ∀ u ∈ words, ∀ x ∈ u, x < 128 := fun u hu => (tbl_facts u (hws u hu)).2.1
    have hwg : ∀ u ∈ words, u = [] ∨ u.head? = some 97 ∨ u.head? = some 98 := fun u hu => (tbl_facts u (hws u hu)).2.2
    refine ex_assign (d := .str told) ?_ (by (first | exact Or.inl rfl | exact Or.inr ⟨rfl, rfl⟩)) (by walk_at "mset") ?_
    · rw [← hold (turn + (pages.length : Int))]
      have hsl := spreadF_len words (turn + (pages.length : Int)) hw3 (by first | lia | omega)
      exact ev_call (f := 29) rfl rfl rfl rfl (evl_cons (ev_call (f := 71) (ds := [.list (words.map D.str), .int (turn + (pages.length : Int))]) rfl rfl rfl rfl (by walk_at "mevl") (fn_spread w mb words _ (by first | lia | omega) hw3 hwa) hA2 (.inr ⟨_, _, rfl⟩) (by decide +kernel)) evl_nil) (fn_cap1 w mb _ (by first | lia | omega) (spreadF_ascii words _ hwa)) hA1 (.inr ⟨_, _, rfl⟩) (by decide +kernel)
    have hdl3 : ∀ u ∈ fullF (words.map dressF), u.length ≤ 3 := by
      intro u hu
      obtain ⟨v, hv, rfl⟩ := List.mem_map.mp (mem_full.mp hu).1
      rw [dressF_len]; exact hw3 v hv
    have hdn : (fullF (words.map dressF)).length ≤ 6 := by have := full_length (words.map dressF); rw [List.length_map] at this; (first | lia | omega)
    have hds := sum_len_le hdl3
    refine ex_if_ret (b := !decide (told = joinL [32] (fullF (words.map dressF)))) (evt_cmp (by walk_at "mev") (ev_join (ls := fullF (words.map dressF)) (by walk_at "mev") ?_ (by simp only [List.length_singleton]; (first | lia | omega))) op_ne_str) ?_ ?_
    · refine ev_comp_s (σc := []) (ls := words.map dressF) (fun w => !decide (w = [])) id (evi_list hA.handled (ev_call (f := 76) rfl rfl rfl rfl (by walk_at "mevl") (fn_dressed w mb words (by first | lia | omega) hw3 hwg) hA1 (.inr ⟨_, _, rfl⟩) (by decide +kernel))) ⟨by simp, by simp, by simp⟩ (fun C l hl => ?_) (fun C l hl _ => by walk_at "mev") (by rw [List.length_map]; (first | lia | omega)) ⟨rfl, by decide +kernel, rfl, by decide +kernel, rfl, by intro _; rfl⟩ (List.map_id _)
      show EvT _ _ _ _ _ _
      walk_at "mevt"
    · intro hb
      rw [hto2] at hb; simp at hb
    intro _
    refine ex_append (d := W2 (told, n)) (by walk_at "mmem") ?_ (by first | lia | omega) (by walk_at "mset") ?_
    · exact ev_tuple (evl_cons (by walk_at "mev") (evl_cons (ev_item_dict (k := line) (by walk_at "mev") (by walk_at "mev") hnd hit) evl_nil))
    exact ex_end (by walk_at "msub") rfl
  rintro σ' rfl
  have hpe : (pagesF head tail (nums.take ((emb nums).map fun kv => D.str kv.1).length)) = pagesF head tail nums := by
    rw [List.take_of_length_le (by rw [List.length_map, emb_len]; exact Nat.le_refl _)]
  rw [hpe]
  have hpl : (pagesF head tail nums).length ≤ 81 := by rw [pagesF, List.length_map]; exact hnl
  have hpt : ∀ p ∈ pagesF head tail nums, p.1.length ≤ 1000 := by
    intro p hp
    obtain ⟨kv, hkv, rfl⟩ := List.mem_map.mp hp
    obtain ⟨h1, h2⟩ := Hwords kv hkv
    have h3 := Htold kv hkv 0
    have h4 : ∀ u ∈ wordsF head tail kv.1, u ∈ Tbl := by
      intro u hu
      rcases List.mem_append.mp hu with hu | hu
      · rcases List.mem_append.mp hu with hu | hu
        · rw [List.mem_singleton.mp hu]; exact hth
        · exact h2 u hu
      · rw [List.mem_singleton.mp hu]; exact htt
    have h5 : (wordsF head tail kv.1).length ≤ 6 := by simp only [wordsF, List.length_append, List.length_singleton]; (first | lia | omega)
    exact told_len h4 h5
  have hpne : pagesF head tail nums ≠ [] := by intro h; exact Hne (List.map_eq_nil_iff.mp h)
  clear Htold Hwords
  generalize hpages : pagesF head tail nums = pages at Hsums hpl hpt hpne
  -- wanted
  have hdm2 : drawn.length = 3 ∨ drawn.length = 4 := by first | lia | omega
  refine ex_weaken (σ' := [("drawn", .val (.list (drawn.map D.int))), ("turn", .val (.int turn)), ("own", .val (.list (own.map D.str))), ("row", .val (.list (row.map D.str))), ("head", .val (.str head)), ("tail", .val (.str tail)), ("pages", .own (.list (pages.map W2)))]) (by walk_at "msub") ?_
  refine ex_freeze (x := "pages") (by walk_at "mmem") (by walk_at "mset") ?_
  refine ex_assign_own (d := .list ([(head, row, tail)].map W3)) (evf_list (evl_cons (ev_tuple (by walk_at "mevl")) evl_nil)) (.inl rfl) (by walk_at "mset") ?_
  have htk : sliceL (drawn.map D.int) none (some (6 - ((drawn.map D.int).length : Int))) = (drawn.take (6 - drawn.length)).map D.int := by
    rw [sliceL_0n _ (by first | lia | omega), List.map_take, hdm]
    congr 1; (first | lia | omega)
  refine ex_for (J := fun j σ => σ = [("drawn", .val (.list (drawn.map D.int))), ("turn", .val (.int turn)), ("own", .val (.list (own.map D.str))), ("row", .val (.list (row.map D.str))), ("head", .val (.str head)), ("tail", .val (.str tail)), ("pages", .val (.list (pages.map W2))), ("wanted", .own (.list (((head, row, tail) :: ((drawn.take (6 - drawn.length)).take j).map (wantOf own head tail)).map W3)))])
    (f := fun d σ => set σ "x" (.val d)) (evi_list (ds := (drawn.take (6 - drawn.length)).map D.int) hA.handled ?_) (fun d _ => binds_name (.inr ⟨rfl, rfl⟩)) rfl ?_ ?_
  · rw [← htk]
    exact ev_slice_list (by walk_at "mev") evo_none (evo_some (ev_binop (by walk_at "mev") (ev_len (d := .list (drawn.map D.int)) rfl rfl (by walk_at "mev") rfl (by first | lia | omega)) op_sub_int)) (by first | lia | omega)
  · rintro j d σ' hd rfl
    rw [List.getElem?_map] at hd
    obtain ⟨x, hx, rfl⟩ := Option.map_eq_some_iff.mp hd
    have htx : (drawn.take (6 - drawn.length)).take (j + 1) = (drawn.take (6 - drawn.length)).take j ++ [x] := by rw [List.take_add_one, hx]; rfl
    have hwl : (((head, row, tail) :: ((drawn.take (6 - drawn.length)).take j).map (wantOf own head tail)).map W3).length ≤ 100 := by
      rw [List.length_map, List.length_cons, List.length_map, List.length_take, List.length_take]; (first | lia | omega)
    rw [htx, List.map_append, ← List.cons_append, List.map_append]
    generalize ((head, row, tail) :: ((drawn.take (6 - drawn.length)).take j).map (wantOf own head tail)).map W3 = wanted at hwl
    refine ex_conv (show Mine.set _ "x" _ = _ by walk_at "mset") ?_
    have hon : (own.map D.str).length = own.length := List.length_map _
    refine ex_assign (d := .list ((figsF x own.length).map D.int)) (ev_comp_i (σc := [("x", .val (.int x))]) (fun k => .int (figF x k)) (evi_up (n := own.length + 2) hA.handled rfl rfl (ev_binop (ev_len (d := .list (own.map D.str)) rfl rfl (by walk_at "mev") (congrArg some hon) (by first | lia | omega)) (by walk_at "mev") op_add_int) (by first | lia | omega)) ⟨by walk_at "msub", ?_, ?_⟩ ?_ (fun _ => trivial) (by rw [upI_len]; (first | lia | omega)) ⟨rfl, by decide +kernel, rfl, by decide +kernel, rfl, by intro _; rfl⟩ (by rw [figsF, List.map_map]; rfl)) (by (first | exact Or.inl rfl | exact Or.inr ⟨rfl, rfl⟩)) (by walk_at "mset") ?_
    · intro y d h; simp at h
    · intro q hq
      rw [List.mem_singleton.mp hq]; exact ⟨rfl, rfl, rfl⟩
    · intro C k hk
      obtain ⟨k, hkl, rfl⟩ := upI_mem hk
      have hk5 : k ≤ 5 := by first | lia | omega
      exact ev_binop (ev_binop (ev_binop (by walk_at "mev") (by walk_at "mev") (op_floordiv (by decide) (PyProof.noPylong_small (by decide)))) (ev_binop (by walk_at "mev") (by walk_at "mev") (op_pow (by first | lia | omega) (by decide) (pow_line hk5))) (op_fdiv_pow hk5)) (by walk_at "mev") (op_mod (by decide))
    refine ex_comp_i (σc := [("figures", .val (.list ((figsF x own.length).map D.int))), ("own", .val (.list (own.map D.str)))]) (res := (innersF x own).map D.str) (fun k => .str (innerF (figF x (k + 2)) (own.getD k.toNat []))) (evi_up (n := own.length) hA.handled rfl rfl (ev_len (d := .list (own.map D.str)) rfl rfl (by walk_at "mev") (congrArg some hon) (by first | lia | omega)) (by first | lia | omega)) ⟨by walk_at "msub", ?_, ?_⟩ ?_ (fun _ => trivial) (by rw [upI_len]; (first | lia | omega)) ⟨rfl, by decide +kernel, rfl, by decide +kernel, rfl, by intro _; rfl⟩ (by rw [innersF, upI, List.map_map, List.map_map]; rfl) (by (first | exact Or.inl rfl | exact Or.inr ⟨rfl, rfl⟩)) (by walk_at "mset") rfl ?_
    · intro y d h; simp at h
    · intro q hq
      simp only [List.mem_cons, List.not_mem_nil, or_false] at hq
      rcases hq with rfl | rfl
      · exact ⟨rfl, rfl, rfl⟩
      · exact ⟨rfl, rfl, rfl⟩
    · intro C k hk
      obtain ⟨k, hkl, rfl⟩ := upI_mem hk
      have hfg := figs_get x (n := own.length) (k := k + 2) (by first | lia | omega)
      have hfl : ((figsF x own.length).map D.int).length = own.length + 2 := by rw [List.length_map, figs_len]
      have hog : (own.map D.str)[k]? = some (.str (own.getD (k : Int).toNat [])) := by
        rw [Int.toNat_natCast, List.getElem?_map, List.getD_eq_getElem?_getD, List.getElem?_eq_getElem hkl]; rfl
      rw [show figF x ((k : Int) + 2) = figF x ((k + 2 : Nat) : Int) from rfl]
      exact ev_call (f := 50) rfl rfl rfl rfl (evl_cons (ev_item_list (i := (k : Int) + 2) (j := k + 2) (by walk_at "mev") (by walk_at "mev") (by rw [hfl]; exact seqIndex_nat (by first | lia | omega) (by first | lia | omega)) hfg (by first | lia | omega)) (evl_cons (ev_item_list (i := (k : Int)) (j := k) (by walk_at "mev") (by walk_at "mev") (by rw [hon]; exact seqIndex_nat (by first | lia | omega) (by first | lia | omega)) hog (by first | lia | omega)) evl_nil)) (fn_inner w mb _ _ (figF_range x _).2) hA2 (.inr ⟨_, _, rfl⟩) (by decide +kernel)
    have hfl : ((figsF x own.length).map D.int).length = own.length + 2 := by rw [List.length_map, figs_len]
    have hil : (innersF x own).length = own.length := by simp [innersF]
    refine ex_append (d := W3 (wantOf own head tail x)) (by walk_at "mmem") ?_ (by first | lia | omega) (by walk_at "mset") ?_
    · refine ev_tuple (evl_cons (d := .str (endF (figF x 0) head)) ?_ (evl_cons (d := .list ((fullF (innersF x own)).map D.str)) ?_ (evl_cons (d := .str (endF (figF x 1) tail)) ?_ evl_nil)))
      · exact ev_call (f := 43) rfl rfl rfl rfl (evl_cons (ev_item_list (i := 0) (j := 0) (by walk_at "mev") (by walk_at "mev") (by rw [hfl]; exact seqIndex_nat (by first | lia | omega) (by first | lia | omega)) (figs_get x (by first | lia | omega)) (by first | lia | omega)) (by walk_at "mevl")) (fn_end w mb _ head (figF_range x _).2 (tbl_facts head hth).1) hA2 (.inr ⟨_, _, rfl⟩) (by decide +kernel)
      · refine ev_comp_s (σc := []) (ls := innersF x own) (fun w => !decide (w = [])) id (evi_list hA.handled (by walk_at "mev")) ⟨by simp, by simp, by simp⟩ (fun C l hl => ?_) (fun C l hl _ => by walk_at "mev") (by first | lia | omega) ⟨rfl, by decide +kernel, rfl, by decide +kernel, rfl, by intro _; rfl⟩ (List.map_id _)
        show EvT _ _ _ _ _ _
        walk_at "mevt"
      · exact ev_call (f := 43) rfl rfl rfl rfl (evl_cons (ev_item_list (i := 1) (j := 1) (by walk_at "mev") (by walk_at "mev") (by rw [hfl]; exact seqIndex_nat (by first | lia | omega) (by first | lia | omega)) (figs_get x (by first | lia | omega)) (by first | lia | omega)) (by walk_at "mevl")) (fn_end w mb _ tail (figF_range x _).2 (tbl_facts tail htt).1) hA2 (.inr ⟨_, _, rfl⟩) (by decide +kernel)
    exact ex_end (by walk_at "msub") rfl
  rintro σ' rfl
  rw [List.length_map, List.take_of_length_le (Nat.le_refl _)]
  have hwd : ∀ q ∈ wantedF drawn own head tail, (q.1 ∈ Tbl ∧ (∀ u ∈ q.2.1, u ∈ Tbl) ∧ q.2.2 ∈ Tbl) ∧ q.2.1.length ≤ 4 := by
    intro q hq
    rcases List.mem_cons.mp hq with rfl | hq
    · rw [hrow]; exact ⟨⟨hth, htr, htt⟩, hrl⟩
    · obtain ⟨x, _, rfl⟩ := List.mem_map.mp hq
      refine ⟨⟨tbl_end _ hth, tbl_full (tbl_inners x hto), tbl_end _ htt⟩, ?_⟩
      have := full_length (innersF x own)
      have h2 : (innersF x own).length = own.length := by simp [innersF]
      show (fullF (innersF x own)).length ≤ 4
      (first | lia | omega)
  have hwe : (head, row, tail) :: (drawn.take (6 - drawn.length)).map (wantOf own head tail) = wantedF drawn own head tail := by rw [wantedF, hrow]
  rw [hwe]
  have hwn : (wantedF drawn own head tail).length ≤ 10 := by rw [wantedF, List.length_cons, List.length_map, List.length_take]; (first | lia | omega)
  have hsm : ∀ p ∈ sumsF pages (wantedF drawn own head tail) row head tail, p.1.length ≤ 5000 := sums_len hpt hpne hwd
  generalize wantedF drawn own head tail = wanted at hwd hwn Hwant Hsums hsm
  refine ex_freeze (x := "wanted") (by walk_at "mmem") (by walk_at "mset") ?_
  refine ex_weaken (σ' := [("turn", .val (.int turn)), ("row", .val (.list (row.map D.str))), ("head", .val (.str head)), ("tail", .val (.str tail)), ("pages", .val (.list (pages.map W2))), ("wanted", .val (.list (wanted.map W3)))]) (by walk_at "msub") ?_
  -- line, sums
  have hp0 : (pages.map W2)[0]? = some (W2 (pages.headD ([], 0))) := by cases pages with | nil => exact absurd rfl hpne | cons a r => rfl
  have hp1 : (pages.map W2)[pages.length - 1]? = some (W2 (pages.getLastD ([], 0))) := by
    rw [List.getElem?_map, List.getLastD_eq_getLast?, List.getLast?_eq_getElem?]
    cases pages with
    | nil => exact absurd rfl hpne
    | cons a r => rw [List.getElem?_eq_getElem (by simp)]; rfl
  have hpos : 1 ≤ pages.length := List.length_pos_iff.mpr hpne
  have hpm : (pages.map W2).length = pages.length := List.length_map _
  have hhl : (pages.headD ([], 0)).1.length ≤ 1000 := by cases pages with | nil => exact absurd rfl hpne | cons a r => exact hpt a (.head _)
  refine ex_assign (d := .str (pages.headD ([], 0)).1) (ev_item_tup (ds := [.str (pages.headD ([], 0)).1, .int (pages.headD ([], 0)).2]) (i := 0) (j := 0) (ev_item_list (i := 0) (j := 0) (by walk_at "mev") (by walk_at "mev") (by rw [hpm]; exact seqIndex_nat (by first | lia | omega) (by first | lia | omega)) hp0 (by first | lia | omega)) (by walk_at "mev") rfl rfl (by first | lia | omega)) (by (first | exact Or.inl rfl | exact Or.inr ⟨rfl, rfl⟩)) (by walk_at "mset") ?_
  have hfs : (firstSums pages).map W2 = [W2 (pages.headD ([], 0)), W2 (pages.getLastD ([], 0)), W2 ((pages.headD ([], 0)).1 ++ dots ++ (pages.headD ([], 0)).1.drop ((pages.headD ([], 0)).1.length - 1), if (pages.headD ([], 0)).1 = [] then 1 else 0)] := rfl
  refine ex_assign_own (d := .list ((firstSums pages).map W2)) ?_ (.inl rfl) (by walk_at "mset") ?_
  · rw [hfs]
    generalize (pages.headD ([], 0)) = p0 at hp0 hhl
    obtain ⟨line, n0⟩ := p0
    have hhl : line.length ≤ 1000 := hhl
    have hsl : line.drop (line.length - 1) = sliceL line (some (-1)) none := (sliceL_m0 line).symm
    have hsll := sliceL_length_le line (some (-1)) none
    refine evf_list (evl_cons (ev_item_list (i := 0) (j := 0) (by walk_at "mev") (by walk_at "mev") (by rw [hpm]; exact seqIndex_nat (by first | lia | omega) (by first | lia | omega)) hp0 (by first | lia | omega)) (evl_cons (ev_item_list (i := -1) (j := pages.length - 1) (by walk_at "mev") (by walk_at "mev") (by rw [hpm]; exact seqIndex_neg (by first | lia | omega) (by first | lia | omega)) hp1 (by first | lia | omega)) (evl_cons ?_ evl_nil)))
    refine ev_tuple (evl_cons (d := .str (line ++ dots ++ line.drop (line.length - 1))) ?_ (evl_cons (d := .int (if line = [] then 1 else 0)) ?_ evl_nil))
    · rw [hsl]
      exact ev_binop (a := .str (line ++ [46, 46, 46])) (by walk_at "mev") (by walk_at "mev") (op_add_str (by simp; (first | lia | omega)))
    · have e : (if line = [] then (1 : Int) else 0) = if decide (line = []) = true then 1 else 0 := by by_cases h : line = [] <;> simp [h]
      rw [e]
      exact ev_ifexp_int (by walk_at "mevt") (fun _ => by walk_at "mev") (fun _ => by walk_at "mev")
  clear hfs hp0 hp1 hhl
  refine ex_weaken (σ' := [("turn", .val (.int turn)), ("row", .val (.list (row.map D.str))), ("head", .val (.str head)), ("tail", .val (.str tail)), ("pages", .val (.list (pages.map W2))), ("wanted", .val (.list (wanted.map W3))), ("sums", .own (.list ((firstSums pages).map W2)))]) (by walk_at "msub") ?_
  refine ex_for (J := fun j σ => σ = [("turn", .val (.int turn)), ("row", .val (.list (row.map D.str))), ("head", .val (.str head)), ("tail", .val (.str tail)), ("pages", .val (.list (pages.map W2))), ("wanted", .val (.list (wanted.map W3))), ("sums", .own (.list ((firstSums pages ++ (wanted.take j).map fun q => (wantF q, dueF row head tail q)).map W2)))])
    (f := fun d σ => match d with | .tup ds => setAll σ ["first", "inner", "last"] ds | _ => σ) (evi_list hA.handled (by walk_at "mev")) ?_ (by rw [List.take_zero, List.map_nil, List.append_nil]) ?_ ?_
  · intro d hd
    obtain ⟨r, _, rfl⟩ := List.mem_map.mp hd
    exact binds_tup hA.handled (.cons stores_name (.inl rfl) (.cons stores_name (.inl rfl) (.cons stores_name (.inl rfl) .nil))) rfl
  · rintro j d σ' hd rfl
    rw [List.getElem?_map] at hd
    obtain ⟨q, hq, rfl⟩ := Option.map_eq_some_iff.mp hd
    have hmem := List.mem_of_getElem? hq
    have htq : wanted.take (j + 1) = wanted.take j ++ [q] := by rw [List.take_add_one, hq]; rfl
    have hwt := Hwant q hmem turn
    obtain ⟨⟨t1, t2, t3⟩, hil⟩ := hwd q hmem
    have hsl : ((firstSums pages ++ (wanted.take j).map fun q => (wantF q, dueF row head tail q)).map W2).length ≤ 100 := by
      rw [List.length_map, List.length_append, List.length_map, List.length_take]
      have : (firstSums pages).length = 3 := rfl
      (first | lia | omega)
    have hstep : (firstSums pages ++ (wanted.take (j + 1)).map fun q => (wantF q, dueF row head tail q)).map W2 = (firstSums pages ++ (wanted.take j).map fun q => (wantF q, dueF row head tail q)).map W2 ++ [W2 (wantF q, dueF row head tail q)] := by
      rw [htq, List.map_append (f := fun q => (wantF q, dueF row head tail q)), ← List.append_assoc, List.map_append (f := W2)]; rfl
    rw [hstep]
    generalize (firstSums pages ++ (wanted.take j).map fun q => (wantF q, dueF row head tail q)).map W2 = sums at hsl
    obtain ⟨first, inner, last⟩ := q
    have t1 : first ∈ Tbl := t1
    have t2 : ∀ u ∈ inner, u ∈ Tbl := t2
    have t3 : last ∈ Tbl := t3
    have hil : inner.length ≤ 4 := hil
    refine ex_conv (show Mine.setAll _ ["first", "inner", "last"] [.str first, .list (inner.map D.str), .str last] = _ by walk_at "mset") ?_
    have hws : ∀ u ∈ askW (first, inner, last), u ∈ Tbl := by
      intro u hu
      rcases List.mem_append.mp hu with hu | hu
      · rcases List.mem_append.mp hu with hu | hu
        · rw [List.mem_singleton.mp hu]; exact t1
        · exact t2 u hu
      · rw [List.mem_singleton.mp hu]; exact t3
    have hwl : (askW (first, inner, last)).length ≤ 6 := by simp only [askW, List.length_append, List.length_singleton]; (first | lia | omega)
    refine ex_assign (d := .list ((askW (first, inner, last)).map D.str)) ?_ (by (first | exact Or.inl rfl | exact Or.inr ⟨rfl, rfl⟩)) (by walk_at "mset") ?_
    · rw [askW, List.map_append, List.map_append]
      exact ev_binop (ev_binop (a := .list [.str first]) (b := .list (inner.map D.str)) (by walk_at "mev") (by walk_at "mev") (op_add_list (by simp; (first | lia | omega)))) (by walk_at "mev") (op_add_list (by simp; (first | lia | omega)))
    have hwf : wantF (first, inner, last) = joinL dots ((askW (first, inner, last)).map dressF) := rfl
    generalize askW (first, inner, last) = words at hws hwl hwt hwf
    have hw3 : ∀ u ∈ words, u.length ≤ 3 := fun u hu => (tbl_facts u (hws u hu)).1
    have hwa : ∀ u ∈ words, ∀ x ∈ u, x < 128 := fun u hu => (tbl_facts u (hws u hu)).2.1
    have hwg : ∀ u ∈ words, u = [] ∨ u.head? = some 97 ∨ u.head? = some 98 := fun u hu => (tbl_facts u (hws u hu)).2.2
    have hwm : (words.map D.str).length = words.length := List.length_map _
    obtain ⟨hs1, hs2, hs3⟩ := spell_facts words turn hws hwl
    have hdd : ∀ u ∈ words.map dressF, u.length ≤ 3 := by
      intro u hu
      obtain ⟨v, hv, rfl⟩ := List.mem_map.mp hu
      rw [dressF_len]; exact hw3 v hv
    have hds := sum_len_le hdd
    rw [List.length_map] at hds
    refine ex_assign (d := .str (wantF (first, inner, last))) ?_ (by (first | exact Or.inl rfl | exact Or.inr ⟨rfl, rfl⟩)) (by walk_at "mset") ?_
    · rw [← hwt]
      refine ev_call (f := 29) (ds := [.str (joinL dots (spellW words turn)), .str dots]) rfl rfl rfl rfl (evl_cons (ev_join (sep := dots) (ls := spellW words turn) (by exact ev_str lit_dots) ?_ (by rw [show dots.length = 3 from rfl]; (first | lia | omega))) (evl_cons (by exact ev_str lit_dots) evl_nil)) (fn_cap2 w mb _ dots (by first | lia | omega) (by decide) (by decide) hs3 (by decide)) hA1 (.inr ⟨_, _, rfl⟩) (by decide +kernel)
      refine ev_comp_i (σc := [("words", .val (.list (words.map D.str))), ("turn", .val (.int turn))]) (fun k => .str (spelledF (words.getD k.toNat []) (turn + k))) (evi_up (n := words.length) hA.handled rfl rfl (ev_len (d := .list (words.map D.str)) rfl rfl (by walk_at "mev") (congrArg some hwm) (by first | lia | omega)) (by first | lia | omega)) ⟨by walk_at "msub", ?_, ?_⟩ ?_ (fun _ => trivial) (by rw [upI_len]; (first | lia | omega)) ⟨rfl, by decide +kernel, rfl, by decide +kernel, rfl, by intro _; rfl⟩ (by rw [spellW, upI, List.map_map, List.map_map]; rfl)
      · intro y d h; simp at h
      · intro q hq
        simp only [List.mem_cons, List.not_mem_nil, or_false] at hq
        rcases hq with rfl | rfl
        · exact ⟨rfl, rfl, rfl⟩
        · exact ⟨rfl, rfl, rfl⟩
      · intro C k hk
        obtain ⟨k, hkl, rfl⟩ := upI_mem hk
        have hog : (words.map D.str)[k]? = some (.str (words.getD (k : Int).toNat [])) := by
          rw [Int.toNat_natCast, List.getElem?_map, List.getD_eq_getElem?_getD, List.getElem?_eq_getElem hkl]; rfl
        have hgt := tbl_getD hws (k : Int).toNat
        exact ev_call (f := 64) rfl rfl rfl rfl (evl_cons (ev_item_list (i := (k : Int)) (j := k) (by walk_at "mev") (by walk_at "mev") (by rw [hwm]; exact seqIndex_nat (by first | lia | omega) (by first | lia | omega)) hog (by first | lia | omega)) (by walk_at "mevl")) (fn_spelled w mb _ _ (tbl_facts _ hgt).1 (tbl_facts _ hgt).2.1) hA1 (.inr ⟨_, _, rfl⟩) (by decide +kernel)
    refine ex_if_ret (b := !decide (wantF (first, inner, last) = joinL dots (words.map dressF))) (evt_cmp (by walk_at "mev") (ev_join (sep := dots) (ls := words.map dressF) (by exact ev_str lit_dots) (ev_call (f := 76) rfl rfl rfl rfl (by walk_at "mevl") (fn_dressed w mb words (by first | lia | omega) hw3 hwg) hA1 (.inr ⟨_, _, rfl⟩) (by decide +kernel)) (by rw [List.length_map, show dots.length = 3 from rfl]; (first | lia | omega))) op_ne_str) ?_ ?_
    · intro hb
      rw [hwf] at hb; simp at hb
    intro _
    have hth3 := (tbl_facts head hth).1
    have hcut : head.take first.length = sliceL head none (some (first.length : Int)) := (sliceL_0n head (j := (first.length : Int)) (by first | lia | omega)).symm
    have hf3 := (tbl_facts first t1).1
    refine ex_append (d := W2 (wantF (first, inner, last), dueF row head tail (first, inner, last))) (by walk_at "mmem") ?_ (by first | lia | omega) (by walk_at "mset") ?_
    · refine ev_tuple (evl_cons (by walk_at "mev") (evl_cons (d := .int (dueF row head tail (first, inner, last))) ?_ evl_nil))
      have e : dueF row head tail (first, inner, last) = if (decide (inner = row) && (decide (last = tail) && decide (sliceL head none (some (first.length : Int)) = first))) = true then 1 else 0 := by
        rw [← hcut]; simp [dueF]
      rw [e]
      refine ev_ifexp_int (evt_and3 (evt_cmp (by walk_at "mev") (by walk_at "mev") (op_eq_strs hA (fun l hl => (tbl_facts l (t2 l hl)).2.1) (fun l hl => (tbl_facts l (htr l hl)).2.1))) (fun _ => by walk_at "mevt") (fun _ _ => ?_)) (fun _ => by walk_at "mev") (fun _ => by walk_at "mev")
      exact evt_cmp (ev_slice_str (by walk_at "mev") evo_none (evo_some (by walk_at "mev")) (by first | lia | omega)) (by walk_at "mev") op_eq_str
    exact ex_end (by walk_at "msub") rfl
  rintro σ' rfl
  rw [List.length_map, List.take_of_length_le (Nat.le_refl _)]
  have hse : (firstSums pages ++ wanted.map fun q => (wantF q, dueF row head tail q)) = sumsF pages wanted row head tail := rfl
  rw [hse]
  generalize sumsF pages wanted row head tail = sums at Hsums hsm
  refine ex_freeze (x := "sums") (by walk_at "mmem") (by walk_at "mset") ?_
  refine ex_weaken (σ' := [("pages", .val (.list (pages.map W2))), ("sums", .val (.list (sums.map W2)))]) (by walk_at "msub") ?_
  refine ex_for (J := fun j σ => σ = [("pages", .val (.list (pages.map W2))), ("sums", .val (.list (sums.map W2)))])
    (f := fun d σ => match d with | .tup ds => setAll σ ["want", "due"] ds | _ => σ) (evi_list hA.handled (by walk_at "mev")) ?_ rfl ?_ ?_
  · intro d hd
    obtain ⟨r, _, rfl⟩ := List.mem_map.mp hd
    exact binds_tup hA.handled (.cons stores_name (.inl rfl) (.cons stores_name (.inl rfl) .nil)) rfl
  · rintro j d σ' hd rfl
    rw [List.getElem?_map] at hd
    obtain ⟨⟨want, due⟩, hq, rfl⟩ := Option.map_eq_some_iff.mp hd
    have hmem := List.mem_of_getElem? hq
    have hbal : balF want pages = due := Hsums _ hmem
    have hwl : want.length ≤ 5000 := hsm _ hmem
    refine ex_conv (show Mine.setAll _ ["want", "due"] [.str want, .int due] = _ by walk_at "mset") ?_
    refine ex_assign (d := .int 0) (by walk_at "mev") (.inl rfl) (by walk_at "mset") ?_
    refine ex_for (J := fun t σ => σ = [("pages", .val (.list (pages.map W2))), ("sums", .val (.list (sums.map W2))), ("want", .val (.str want)), ("due", .val (.int due)), ("balance", .val (.int ((pages.take t).foldl (balStep want) 0)))])
      (f := fun d σ => match d with | .tup ds => setAll σ ["told", "number"] ds | _ => σ) (evi_list hA.handled (by walk_at "mev")) ?_ rfl ?_ ?_
    · intro d hd
      obtain ⟨r, _, rfl⟩ := List.mem_map.mp hd
      exact binds_tup hA.handled (.cons stores_name (.inl rfl) (.cons stores_name (.inl rfl) .nil)) rfl
    · rintro t d σ' hd rfl
      rw [List.getElem?_map] at hd
      obtain ⟨⟨told, number⟩, hp, rfl⟩ := Option.map_eq_some_iff.mp hd
      have hpm2 := List.mem_of_getElem? hp
      have htl : told.length ≤ 1000 := hpt _ hpm2
      have htt2 : pages.take (t + 1) = pages.take t ++ [(told, number)] := by rw [List.take_add_one, hp]; rfl
      rw [htt2, List.foldl_append, List.foldl_cons, List.foldl_nil]
      generalize (pages.take t).foldl (balStep want) 0 = bal
      have hstp : balStep want bal (told, number) = if matchF want told = true then bal + number else bal := rfl
      rw [hstp]
      refine ex_conv (show Mine.setAll _ ["told", "number"] [.str told, .int number] = _ by walk_at "mset") ?_
      refine ex_assign (d := .bool (matchF want told)) (ev_call (f := 21) rfl rfl rfl rfl (by walk_at "mevl") (fn_match w mb want told (by first | lia | omega) (by first | lia | omega)) hA1 (.inr ⟨_, _, rfl⟩) (by decide +kernel)) (.inl rfl) (by walk_at "mset") ?_
      generalize matchF want told = found
      refine ex_if (b := found == true) (N1 := fun σ' => ∀ p ∈ [("pages", Slot.val (.list (pages.map W2))), ("sums", .val (.list (sums.map W2))), ("want", .val (.str want)), ("due", .val (.int due)), ("balance", .val (.int (if found = true then bal + number else bal)))], p ∈ σ') (by walk_at "mevt") ?_ ?_ ?_
      · intro hb
        have hb : found = true := by simpa using hb
        subst hb
        refine ex_aug (a := .int bal) (b := .int number) (by walk_at "mmem") (by walk_at "mev") (by walk_at "mop") (.inl rfl) (by walk_at "mset") (ex_nil ?_)
        walk_at "msub"
      · intro hb
        have hb : found = false := by simpa using hb
        subst hb
        refine ex_if_ret (b := !(false == false)) (by walk_at "mevt") (fun h => by simp at h) fun _ => ex_nil ?_
        walk_at "msub"
      · intro σ' h
        exact ex_end h rfl
    · rintro σ' rfl
      rw [List.length_map, List.take_of_length_le (Nat.le_refl _)]
      have hbal2 : pages.foldl (balStep want) 0 = due := hbal
      rw [hbal2]
      refine ex_if_ret (b := !decide (due = due)) (by walk_at "mevt") (fun h => by simp at h) fun _ => ?_
      exact ex_end (by walk_at "msub") rfl
  · rintro σ' rfl
    exact ex_return (by walk_at "mev") rfl
end
section
set_option maxRecDepth 100000

noncomputable def Sgn (l : List Nat) : Prop := ∀ x ∈ l, x = 39 ∨ x = 97 ∨ x = 98 ∨ x = 65 ∨ x = 66
theorem sgn_space {l : List Nat} (h : Sgn l) : ∀ x ∈ l, Unicode.isSpace x = false := by
  have e : ∀ x ∈ [39, 97, 98, 65, 66], Unicode.isSpace x = false := by decide +kernel
  intro x hx
  exact e x (by rcases h x hx with h | h | h | h | h <;> simp [h])
theorem sep_space (k : Nat) : (∀ x ∈ sepF k, Unicode.isSpace x = true) ∧ sepF k ≠ [] := by
  unfold sepF; split <;> exact ⟨by decide +kernel, by decide⟩
theorem space32 : ∀ x ∈ [32], Unicode.isSpace x = true := by decide +kernel
theorem space10 : ∀ x ∈ [10], Unicode.isSpace x = true := by decide +kernel

theorem fold_word : ∀ (w : List Nat) (d : List (List Nat)) (c : List Nat), (∀ x ∈ w, Unicode.isSpace x = false) → w.foldl wstep (d, c) = (d, c ++ w)
  | [], d, c, _ => by simp
  | x :: w, d, c, h => by
    have hx := h x (.head _)
    rw [List.foldl_cons, show wstep (d, c) x = (d, c ++ [x]) from by unfold wstep; simp [hx], fold_word w d _ fun y hy => h y (.tail _ hy)]
    simp
theorem fold_space : ∀ (s : List Nat) (d : List (List Nat)), (∀ x ∈ s, Unicode.isSpace x = true) → s.foldl wstep (d, []) = (d, [])
  | [], d, _ => rfl
  | x :: s, d, h => by
    rw [List.foldl_cons, show wstep (d, []) x = (d, []) from by unfold wstep; simp [h x (.head _)]]
    exact fold_space s d fun y hy => h y (.tail _ hy)
theorem fold_sep (s : List Nat) (st : List (List Nat) × List Nat) (h : ∀ x ∈ s, Unicode.isSpace x = true) (hne : s ≠ []) : s.foldl wstep st = (wfin st, []) := by
  obtain ⟨d, c⟩ := st
  cases s with
  | nil => exact absurd rfl hne
  | cons x s =>
    have hx := h x (.head _)
    have e : wstep (d, c) x = (wfin (d, c), []) := by
      unfold wstep wfin
      by_cases hc : c = []
      · simp [hx, hc]
      · simp [hx, hc]
    rw [List.foldl_cons, e]
    exact fold_space s _ fun y hy => h y (.tail _ hy)
theorem wfin_full (d : List (List Nat)) (w : List Nat) : wfin (d, w) = d ++ fullF [w] := by
  unfold wfin fullF
  by_cases h : w = [] <;> simp [h]
theorem full_append (a b : List (List Nat)) : fullF (a ++ b) = fullF a ++ fullF b := List.filter_append ..
theorem full_cons (a : List Nat) (b : List (List Nat)) : fullF (a :: b) = fullF [a] ++ fullF b := full_append [a] b
theorem full_id {ws : List (List Nat)} (h : ∀ u ∈ ws, u ≠ []) : fullF ws = ws := by
  unfold fullF; rw [List.filter_eq_self]; intro u hu; simp [h u hu]
noncomputable def sprT : List (List Nat) → Int → List Nat
  | [], _ => []
  | w :: ws, t => sepF (t.fmod 4).toNat ++ (spelledF w t ++ sprT ws (t + 1))
noncomputable def spellT : List (List Nat) → Int → List (List Nat)
  | [], _ => []
  | w :: ws, t => spelledF w t :: spellT ws (t + 1)
theorem spread_eq : ∀ (ws : List (List Nat)) (st : List Nat × Int), (ws.foldl spreadStep st).1 = st.1 ++ sprT ws st.2
  | [], st => by simp [sprT]
  | w :: ws, st => by
    rw [List.foldl_cons, spread_eq ws]
    simp [spreadStep, sprT]

theorem tbl_sgn : ∀ u ∈ Tbl, ∀ x ∈ u, x = 39 ∨ x = 97 ∨ x = 98 := by decide
theorem up1_sgn {x : Nat} (h : x = 39 ∨ x = 97 ∨ x = 98) : x = 39 ∨ x = 97 ∨ x = 98 ∨ x = 65 ∨ x = 66 → up1 x = 39 ∨ up1 x = 97 ∨ up1 x = 98 ∨ up1 x = 65 ∨ up1 x = 66 := by
  intro _; rcases h with rfl | rfl | rfl <;> decide
theorem sgn_of {u : List Nat} (h : ∀ x ∈ u, x = 39 ∨ x = 97 ∨ x = 98) : Sgn u := fun x hx => by rcases h x hx with h | h | h <;> simp [h]
theorem sgn_up {u : List Nat} (h : ∀ x ∈ u, x = 39 ∨ x = 97 ∨ x = 98) : Sgn (u.map up1) := by
  intro x hx
  obtain ⟨y, hy, rfl⟩ := List.mem_map.mp hx
  exact up1_sgn (h y hy) (sgn_of h y hy)
theorem spelled_sgn {u : List Nat} (h : u ∈ Tbl) (t : Int) : Sgn (spelledF u t) := by
  have hu := tbl_sgn u h
  unfold spelledF
  split
  · exact sgn_of hu
  · split
    · exact sgn_up hu
    · intro x hx
      rcases List.mem_append.mp hx with hx | hx
      · exact sgn_of hu x (List.mem_of_mem_take hx)
      · exact sgn_up (u := u.drop 1) (fun y hy => hu y (List.mem_of_mem_drop hy)) x hx
theorem spelled_cap {u : List Nat} (h : u ∈ Tbl) (t : Int) : capL (spelledF u t) = dressF u := by
  have e : ∀ u ∈ Tbl, capL u = dressF u ∧ capL (u.map up1) = dressF u ∧ capL (u.take 1 ++ (u.drop 1).map up1) = dressF u := by decide
  obtain ⟨e1, e2, e3⟩ := e u h
  unfold spelledF
  split
  · exact e1
  · split
    · exact e2
    · exact e3
theorem spelled_nil (u : List Nat) (t : Int) : spelledF u t = [] ↔ u = [] := by
  rw [← List.length_eq_zero_iff, spelledF_len, List.length_eq_zero_iff]
theorem dress_nil (u : List Nat) : dressF u = [] ↔ u = [] := by cases u <;> simp [dressF]

theorem fold_spread : ∀ (ws : List (List Nat)) (t : Int) (st : List (List Nat) × List Nat), (∀ u ∈ ws, u ∈ Tbl) → wfin ((sprT ws t).foldl wstep st) = wfin st ++ fullF (spellT ws t)
  | [], t, st, _ => by simp [sprT, spellT, fullF]
  | w :: ws, t, st, h => by
    have hs := sep_space (t.fmod 4).toNat
    rw [sprT, List.foldl_append, List.foldl_append, fold_sep _ st hs.1 hs.2, fold_word _ _ _ (sgn_space (spelled_sgn (h w (.head _)) t)), fold_spread ws (t + 1) _ fun u hu => h u (.tail _ hu), List.nil_append, wfin_full, List.append_assoc, spellT, full_cons (spelledF w t) (spellT ws (t + 1))]
theorem words_spread (ws : List (List Nat)) (t : Int) (h : ∀ u ∈ ws, u ∈ Tbl) : wordsL (spreadF ws t) = fullF (spellT ws t) := by
  unfold wordsL spreadF
  rw [List.foldl_append, fold_sep [10] _ space10 (by decide), spread_eq]
  show wfin (wfin ((([] : List Nat) ++ sprT ws t).foldl wstep ([], [])), []) = _
  rw [List.nil_append, fold_spread ws t _ h]
  simp [wfin]
theorem cap_spell : ∀ (ws : List (List Nat)) (t : Int), (∀ u ∈ ws, u ∈ Tbl) → (fullF (spellT ws t)).map capL = fullF (ws.map dressF)
  | [], _, _ => rfl
  | w :: ws, t, h => by
    rw [spellT, full_cons, List.map_append, cap_spell ws _ fun u hu => h u (.tail _ hu), List.map_cons, full_cons (dressF w)]
    congr 1
    by_cases hw : w = []
    · rw [(spelled_nil w t).mpr hw, (dress_nil w).mpr hw]; rfl
    · have h1 : ¬ spelledF w t = [] := fun e => hw ((spelled_nil w t).mp e)
      have h2 : ¬ dressF w = [] := fun e => hw ((dress_nil w).mp e)
      rw [full_id (by simpa using h1), full_id (by simpa using h2), List.map_cons, List.map_nil, spelled_cap (h w (.head _))]
theorem told_ok (ws : List (List Nat)) (t : Int) (h : ∀ u ∈ ws, u ∈ Tbl) : capF1 (spreadF ws t) = joinL [32] (fullF (ws.map dressF)) := by
  unfold capF1
  rw [words_spread ws t h, cap_spell ws t h]

noncomputable def lineOf (ws : List (List Nat)) : List Nat := (ws.map (· ++ [32])).flatten
noncomputable def Wrd (ws : List (List Nat)) : Prop := ∀ u ∈ ws, u ∈ Tbl ∧ u ≠ []
theorem fold_line : ∀ (ws : List (List Nat)) (d : List (List Nat)), Wrd ws → (lineOf ws).foldl wstep (d, []) = (d ++ ws, [])
  | [], d, _ => by simp [lineOf]
  | w :: ws, d, h => by
    have hw := h w (.head _)
    have e : lineOf (w :: ws) = w ++ ([32] ++ lineOf ws) := by simp [lineOf]
    rw [e, List.foldl_append, List.foldl_append, fold_word _ _ _ (sgn_space (sgn_of (tbl_sgn w hw.1))), List.nil_append, fold_sep _ _ space32 (by decide), fold_line ws _ fun u hu => h u (.tail _ hu), wfin_full, full_id (by simpa using hw.2)]
    simp
theorem words_line {ws : List (List Nat)} (h : Wrd ws) : wordsL (lineOf ws) = ws := by
  unfold wordsL
  rw [fold_line ws [] h]
  simp [wfin]
theorem line_snoc (ws : List (List Nat)) (w : List Nat) : lineOf (ws ++ [w]) = lineOf ws ++ (w ++ [32]) := by simp [lineOf]

theorem no_dots {l : List Nat} (h : 46 ∉ l) (i : Nat) : ¬ dots <+: l.drop i := fun hp => h (List.mem_of_mem_drop (hp.subset (by decide)))
theorem splitR_join : ∀ (ls : List (List Nat)), ls ≠ [] → (∀ l ∈ ls, 46 ∉ l) → SplitR dots (joinL dots ls) ls
  | [], h, _ => absurd rfl h
  | [l], _, h => .last fun i => no_dots (h l (.head _)) i
  | l :: m :: r, _, h => by
    have e : joinL dots (l :: m :: r) = l ++ (dots ++ joinL dots (m :: r)) := by simp [joinL]
    rw [e]
    refine .cut (fun i hi hp => ?_) (splitR_join (m :: r) (by simp) fun u hu => h u (.tail _ hu))
    rw [List.drop_append_of_le_length (by first | lia | omega)] at hp
    have hd : l.drop i = l[i] :: l.drop (i + 1) := List.drop_eq_getElem_cons hi
    rw [hd] at hp
    obtain ⟨q, hq⟩ := hp
    have : (46 : Nat) = l[i] := by
      have h46 : dots ++ q = 46 :: ([46, 46] ++ q) := rfl
      rw [h46, List.cons_append] at hq
      exact (List.cons.inj hq).1
    exact h l (.head _) (this ▸ List.getElem_mem hi)
theorem split_join {ls : List (List Nat)} (hne : ls ≠ []) (h : ∀ l ∈ ls, 46 ∉ l) : splitF (joinL dots ls) dots = ls :=
  (splitF_spec _ dots (by decide) (by decide)).unique (by decide) (splitR_join ls hne h)
theorem has_dots (l m : List Nat) (r : List (List Nat)) : Txt.contains (S (joinL dots (l :: m :: r))) (S dots) = true := by
  rw [contains_L]
  have e : joinL dots (l :: m :: r) = l ++ (dots ++ joinL dots (m :: r)) := by simp [joinL]
  rw [e]
  exact ⟨l.length, by simp, by rw [List.drop_left]; exact List.prefix_append _ _⟩
theorem hasnt_dots {l : List Nat} (h : 46 ∉ l) : Txt.contains (S l) (S dots) = false := by
  rw [Bool.eq_false_iff, Ne, contains_L]
  rintro ⟨i, _, hp⟩
  exact no_dots h i hp
theorem map_getD {β : Type} (f : List Nat → β) (ws : List (List Nat)) : (List.range ws.length).map (fun k => f (ws.getD k [])) = ws.map f := by
  apply List.ext_getElem
  · simp
  · intro i h1 h2
    simp at h1
    simp [h1]
theorem want_ok (ws : List (List Nat)) (t : Int) (hne : ws ≠ []) (h : ∀ u ∈ ws, u ∈ Tbl) : capF2 (joinL dots (spellW ws t)) dots = joinL dots (ws.map dressF) := by
  unfold capF2
  have h1 : spellW ws t ≠ [] := by
    intro e
    have := congrArg List.length e
    simp [spellW] at this
    exact hne this
  rw [split_join h1]
  · congr 1
    rw [← map_getD dressF ws, spellW, List.map_map]
    apply List.map_congr_left
    intro k _
    exact spelled_cap (tbl_getD h k) _
  · intro l hl hd
    obtain ⟨k, _, rfl⟩ := List.mem_map.mp hl
    have := spelled_sgn (tbl_getD h k) (t + k) 46 hd
    (first | lia | omega)
end
section
set_option maxRecDepth 100000

theorem findL_at {got u : List Nat} {lo hi : Nat} (h1 : lo + u.length ≤ hi) (hp : u <+: got.drop lo) : findL got u lo hi = lo := by
  rcases findL_spec got u lo hi with ⟨_, h⟩ | ⟨k, e, h2, h3, h4, h5⟩
  · exact absurd hp (h lo (Nat.le_refl _) h1)
  · by_cases hk : lo < k
    · exact absurd hp (h5 lo (Nat.le_refl _) hk)
    · rw [e]; congr 1; (first | lia | omega)
theorem findL_skip {got u : List Nat} {lo lo' hi : Nat} (h : lo ≤ lo') (hn : ∀ i, lo ≤ i → i < lo' → i + u.length ≤ hi → ¬ u <+: got.drop i) : findL got u lo hi = findL got u lo' hi := by
  rcases findL_spec got u lo hi with ⟨e, h1⟩ | ⟨k, e, h1, h2, h3, h4⟩ <;> rcases findL_spec got u lo' hi with ⟨e', h1'⟩ | ⟨k', e', h1', h2', h3', h4'⟩
  · rw [e, e']
  · exact absurd h3' (h1 k' (by first | lia | omega) h2')
  · by_cases hk : k < lo'
    · exact absurd h3 (hn k h1 hk h2)
    · exact absurd h3 (h1' k (by first | lia | omega) h2)
  · rw [e, e']
    have a : ¬ k' < k := fun q => h4 k' (by first | lia | omega) q h3'
    have b : ¬ k < k' := fun q => by
      by_cases hk : k < lo'
      · exact hn k h1 hk h2 h3
      · exact h4' k (by first | lia | omega) q h3
    congr 1; (first | lia | omega)
theorem scan_at {got u : List Nat} {us : List (List Nat)} {lo hi : Nat} (h1 : lo + u.length ≤ hi) (hp : u <+: got.drop lo) : scan got hi (u :: us) lo = scan got hi us (lo + u.length) := by
  rw [scan, findL_at h1 hp, if_neg (by first | lia | omega), Int.toNat_natCast]
theorem scan_skip {got u : List Nat} {us : List (List Nat)} {lo lo' hi : Nat} (h : lo ≤ lo') (hn : ∀ i, lo ≤ i → i < lo' → i + u.length ≤ hi → ¬ u <+: got.drop i) : scan got hi (u :: us) lo = scan got hi (u :: us) lo' := by
  rw [scan, scan, findL_skip h hn]
theorem scan_nil1 {got : List Nat} {ws : List (List Nat)} {st e : Nat} (h : st ≤ e) : scan got e ([] :: ws) st = scan got e ws st := by
  rw [scan_at (u := []) (by simpa using h) (List.nil_prefix)]; simp
theorem scan_nil2 {got : List Nat} {e : Nat} : ∀ (ws : List (List Nat)) {st : Nat}, st ≤ e → scan got e (ws ++ [[]]) st = scan got e ws st
  | [], st, h => scan_nil1 h
  | w :: ws, st, h => by
    rw [List.cons_append, scan, scan]
    by_cases hf : findL got w st e < 0
    · rw [if_pos hf, if_pos hf]
    · rw [if_neg hf, if_neg hf]
      obtain ⟨h1, h2, _⟩ := findL_le hf
      exact scan_nil2 ws h1

theorem match_parts (F L : List Nat) (mid : List (List Nat)) (hd : ∀ l ∈ F :: (mid ++ [L]), 46 ∉ l) (got : List Nat) :
    matchF (joinL dots (F :: (mid ++ [L]))) got = (F.isPrefixOf got && L.isSuffixOf got && decide (F.length + L.length ≤ got.length) && scan got (got.length - L.length) mid F.length) := by
  have hc : Txt.contains (S (joinL dots (F :: (mid ++ [L])))) (S dots) = true := by
    cases mid with
    | nil => exact has_dots _ _ _
    | cons a r => exact has_dots _ _ _
  have hs := split_join (ls := F :: (mid ++ [L])) (by simp) hd
  unfold matchF
  rw [if_neg (by rw [hc]; decide), hs]
  have hl1 : (mid ++ [L]).getLastD [] = L := by simp
  have hl2 : (F :: (mid ++ [L])).getLastD [] = L := by simp [List.getLastD_eq_getLast?, List.getLast?_cons]
  have hd1 : (mid ++ [L]).dropLast = mid := by simp
  have hd2 : (F :: (mid ++ [L])).dropLast = F :: mid := by
    rw [← List.cons_append]; exact List.dropLast_concat
  have hF : (F :: (mid ++ [L])).headD [] = F := rfl
  have hT : (F :: (mid ++ [L])).tail = mid ++ [L] := rfl
  rw [hF, hT]
  have hsl : L.isSuffixOf got = true → L.length ≤ got.length := fun h => (List.isSuffixOf_iff_suffix.mp h).length_le
  have hpl : F.isPrefixOf got = true → F.length ≤ got.length := fun h => (List.isPrefixOf_iff_prefix.mp h).length_le
  by_cases h1 : F = []
  · subst h1
    rw [if_pos rfl]
    unfold matchB
    rw [hl2, hd2]
    by_cases h2 : L = []
    · subst h2
      rw [if_pos rfl, if_neg (by first | lia | omega), scan_nil1 (by first | lia | omega), scan_nil2 _ (by first | lia | omega)]
      simp
    · rw [if_neg h2]
      cases h3 : L.isSuffixOf got with
      | false => simp
      | true =>
        have := hsl h3
        rw [if_neg (by decide), if_neg (by first | lia | omega), scan_nil1 (by first | lia | omega)]
        simp [this]
  · rw [if_neg h1]
    cases h4 : F.isPrefixOf got with
    | false => simp
    | true =>
      have h5 := hpl h4
      rw [if_neg (by decide)]
      unfold matchB
      rw [hl1, hd1]
      by_cases h2 : L = []
      · subst h2
        rw [if_pos rfl, if_neg (by first | lia | omega), scan_nil2 _ h5]
        simp [h5]
      · rw [if_neg h2]
        cases h3 : L.isSuffixOf got with
        | false => simp
        | true =>
          have h6 := hsl h3
          rw [if_neg (by decide)]
          by_cases h7 : got.length - L.length < F.length
          · rw [if_pos h7, decide_eq_false (by first | lia | omega)]; simp
          · rw [if_neg h7, decide_eq_true (show F.length + L.length ≤ got.length by first | lia | omega)]; simp

noncomputable def Low (l : List Nat) : Prop := ∀ x ∈ l, x ≠ 65 ∧ x ≠ 66
structure CapW (D : List Nat) : Prop where
  shape : ∃ c r, D = c :: r ∧ (c = 65 ∨ c = 66) ∧ Low r
  blank : 32 ∉ D
noncomputable def Blk (s : List Nat) : Prop := s = [] ∨ ∃ s', s = 32 :: s'
noncomputable def Seg : List Nat → List (List Nat) → Prop
  | m, [] => Low m
  | m, D :: Ds => ∃ j s, m = j ++ (D ++ s) ∧ Low j ∧ CapW D ∧ Blk s ∧ Seg s Ds
theorem low_append {a b : List Nat} (h : Low a) (k : Low b) : Low (a ++ b) := fun x hx => by
  rcases List.mem_append.mp hx with hx | hx
  · exact h x hx
  · exact k x hx
theorem seg_low {j m : List Nat} (h : Low j) : ∀ {Ds : List (List Nat)}, Seg m Ds → Seg (j ++ m) Ds
  | [], k => low_append h k
  | _ :: _, ⟨j', s, e, h1, h2, h3, h4⟩ => ⟨j ++ j', s, by rw [e]; simp, low_append h h1, h2, h3, h4⟩
theorem pre_blk {u D s : List Nat} (hu : 32 ∉ u) (hs : Blk s) (h : u <+: D ++ s) : u <+: D := by
  rcases Nat.le_total u.length D.length with hl | hl
  · exact List.prefix_of_prefix_length_le h (List.prefix_append D s) hl
  · obtain ⟨x, hx⟩ := List.prefix_of_prefix_length_le (List.prefix_append D s) h hl
    subst hx
    rw [List.prefix_append_right_inj] at h
    cases x with
    | nil => simp
    | cons y x =>
      rcases hs with rfl | ⟨s', rfl⟩
      · simp at h
      · have := List.cons_prefix_cons.mp h
        exact absurd (by simp [this.1]) hu
theorem cap_get {u l : List Nat} (hu : CapW u) (h : u <+: l) : ∃ x, l.head? = some x ∧ (x = 65 ∨ x = 66) := by
  obtain ⟨c, r, rfl, hc, _⟩ := hu.shape
  obtain ⟨t, rfl⟩ := h
  exact ⟨c, rfl, hc⟩
theorem not_low {u pre m post : List Nat} (hu : CapW u) (hm : Low m) {i : Nat} (h1 : pre.length ≤ i) (h2 : i < pre.length + m.length) : ¬ u <+: (pre ++ (m ++ post)).drop i := fun h => by
  obtain ⟨x, hx, hc⟩ := cap_get hu h
  rw [List.head?_drop, List.getElem?_append_right h1, List.getElem?_append_left (by first | lia | omega)] at hx
  have := hm x (List.mem_of_getElem? hx)
  (first | lia | omega)

noncomputable def stepW (us : List (List Nat)) (x : List Nat) : List (List Nat) :=
  match us with
  | [] => []
  | u :: r => if u.isPrefixOf x = true then r else u :: r
theorem fold_stepW_nil (Ds : List (List Nat)) : Ds.foldl stepW [] = [] := by
  induction Ds with
  | nil => rfl
  | cons D Ds ih => exact ih

theorem scan_seg : ∀ (Ds : List (List Nat)) (m pre post : List Nat) (us : List (List Nat)), Seg m Ds → (∀ u ∈ us, CapW u) →
    scan (pre ++ (m ++ post)) (pre.length + m.length) us pre.length = decide (Ds.foldl stepW us = [])
  | Ds, m, pre, post, [], _, _ => by rw [scan, fold_stepW_nil]; rfl
  | [], m, pre, post, u :: us, hm, hu => by
    rw [scan]
    have hcu := hu u (.head _)
    obtain ⟨c, r, he, _, _⟩ := hcu.shape
    have hl : 1 ≤ u.length := by rw [he]; simp
    have hf : findL (pre ++ (m ++ post)) u pre.length (pre.length + m.length) < 0 := by
      rcases findL_spec (pre ++ (m ++ post)) u pre.length (pre.length + m.length) with ⟨e, _⟩ | ⟨k, e, h1, h2, h3, _⟩
      · rw [e]; decide
      · exact absurd h3 (not_low hcu hm h1 (by first | lia | omega))
    rw [if_pos hf]; simp
  | D :: Ds, m, pre, post, u :: us, ⟨j, s, e, hj, hD, hs, hseg⟩, hu => by
    subst e
    have hcu := hu u (.head _)
    obtain ⟨c, r, he, hc, hr⟩ := hD.shape
    have hskip : ∀ i, pre.length ≤ i → i < pre.length + j.length → i + u.length ≤ pre.length + (j ++ (D ++ s)).length → ¬ u <+: (pre ++ (j ++ (D ++ s) ++ post)).drop i := fun i h1 h2 _ => by
      rw [show pre ++ (j ++ (D ++ s) ++ post) = pre ++ (j ++ ((D ++ s) ++ post)) from by simp]
      exact not_low hcu hj h1 h2
    have hdrop : (pre ++ (j ++ (D ++ s) ++ post)).drop (pre.length + j.length) = D ++ (s ++ post) := by
      rw [show pre ++ (j ++ (D ++ s) ++ post) = (pre ++ j) ++ (D ++ (s ++ post)) from by simp, ← List.length_append, List.drop_left]
    rw [scan_skip (lo' := pre.length + j.length) (by first | lia | omega) hskip, List.foldl_cons]
    by_cases hp : u.isPrefixOf D = true
    · obtain ⟨D', hD'⟩ := List.isPrefixOf_iff_prefix.mp hp
      subst hD'
      have hul : 1 ≤ u.length := by obtain ⟨_, _, e1, _, _⟩ := hcu.shape; rw [e1]; simp
      have hlow : Low D' := by
        obtain ⟨c', r', e1, _, _⟩ := hcu.shape
        subst e1
        injection he with _ e2
        subst e2
        exact fun x hx => hr x (List.mem_append_right _ hx)
      rw [scan_at (by simp; (first | lia | omega)) (by rw [hdrop, List.append_assoc]; exact List.prefix_append _ _)]
      have := scan_seg Ds (D' ++ s) (pre ++ (j ++ u)) post us (seg_low hlow hseg) fun v hv => hu v (.tail _ hv)
      rw [show pre ++ (j ++ (u ++ D' ++ s) ++ post) = pre ++ (j ++ u) ++ (D' ++ s ++ post) from by simp,
        show pre.length + (j ++ (u ++ D' ++ s)).length = (pre ++ (j ++ u)).length + (D' ++ s).length from by simp; (first | lia | omega),
        show pre.length + j.length + u.length = (pre ++ (j ++ u)).length from by simp; (first | lia | omega), this]
      unfold stepW
      simp only [hp, if_true]
    · have hstep : stepW (u :: us) D = u :: us := by unfold stepW; simp only [hp]; rfl
      rw [hstep, scan_skip (lo' := pre.length + j.length + D.length) (by first | lia | omega) (fun i h1 h2 h3 h4 => ?_)]
      · have := scan_seg Ds s (pre ++ (j ++ D)) post (u :: us) hseg hu
        rw [show pre ++ (j ++ (D ++ s) ++ post) = pre ++ (j ++ D) ++ (s ++ post) from by simp,
          show pre.length + (j ++ (D ++ s)).length = (pre ++ (j ++ D)).length + s.length from by simp; (first | lia | omega),
          show pre.length + j.length + D.length = (pre ++ (j ++ D)).length from by simp; (first | lia | omega), this]
      · rcases Nat.lt_or_ge (pre.length + j.length) i with hi | hi
        · rw [he, show pre ++ (j ++ (c :: r ++ s) ++ post) = (pre ++ (j ++ [c])) ++ (r ++ (s ++ post)) from by simp] at h4
          refine not_low hcu hr ?_ ?_ h4
          · simp; (first | lia | omega)
          · rw [he] at h2; simp at h2 ⊢; (first | lia | omega)
        · have hi' : i = pre.length + j.length := by first | lia | omega
          subst hi'
          rw [hdrop] at h4
          have hul : u.length ≤ (D ++ s).length := by simp at h3 ⊢; (first | lia | omega)
          have h5 : u <+: D ++ s := by
            refine List.prefix_of_prefix_length_le h4 ?_ hul
            rw [← List.append_assoc]; exact List.prefix_append _ _
          exact hp (List.isPrefixOf_iff_prefix.mpr (pre_blk hcu.blank hs h5))
end
section
set_option maxRecDepth 100000

noncomputable def blk (ws : List (List Nat)) : List Nat := (ws.map fun w => 32 :: w).flatten
theorem joinL_blk : ∀ (a : List Nat) (r : List (List Nat)), joinL [32] (a :: r) = a ++ blk r
  | a, [] => by simp [joinL, blk]
  | a, b :: r => by
    rw [joinL, joinL_blk b r]; simp [blk]
theorem blk_append (a b : List (List Nat)) : blk (a ++ b) = blk a ++ blk b := by simp [blk]
theorem blk_Blk (a : List (List Nat)) : Blk (blk a) := by
  cases a with
  | nil => exact .inl rfl
  | cons b r => exact .inr ⟨b ++ blk r, rfl⟩
noncomputable def kF (T : List Nat) : List Nat := if T = [] then [] else [32]
theorem blk_full (T : List Nat) : blk (fullF [T]) = kF T ++ T := by
  unfold kF
  by_cases h : T = []
  · subst h; rfl
  · rw [full_id (by simpa using h), if_neg h]; simp [blk]
theorem kF_ok (T : List Nat) : Low (kF T) ∧ Blk (kF T) := by
  unfold kF
  split
  · exact ⟨fun x hx => (by cases hx), .inl rfl⟩
  · exact ⟨fun x hx => (by rw [List.mem_singleton.mp hx]; decide), .inr ⟨[], rfl⟩⟩
theorem seg_blk {k : List Nat} (h1 : Low k) (h2 : Blk k) : ∀ (Ds : List (List Nat)), (∀ D ∈ Ds, CapW D) → Seg (blk Ds ++ k) Ds ∧ Blk (blk Ds ++ k)
  | [], _ => ⟨h1, h2⟩
  | D :: Ds, h => by
    obtain ⟨h3, h4⟩ := seg_blk h1 h2 Ds fun E hE => h E (.tail _ hE)
    have e : blk (D :: Ds) ++ k = [32] ++ (D ++ (blk Ds ++ k)) := by simp [blk]
    exact ⟨⟨[32], _, e, fun x hx => (by rw [List.mem_singleton.mp hx]; decide), h D (.head _), h4, h3⟩, .inr ⟨_, e⟩⟩

noncomputable def tolX (H : List Nat) (Ds : List (List Nat)) (T : List Nat) : List Nat := joinL [32] (fullF [H] ++ (Ds ++ fullF [T]))

theorem tolX_cons {H : List Nat} (h : H ≠ []) (Ds : List (List Nat)) (T : List Nat) : tolX H Ds T = H ++ (blk Ds ++ (kF T ++ T)) := by
  unfold tolX
  rw [full_id (ws := [H]) (by simpa using h), List.singleton_append, joinL_blk, blk_append, blk_full]
theorem told_split {H T F : List Nat} {Ds : List (List Nat)} (hDs : ∀ D ∈ Ds, CapW D) (hH : H = [] ∨ CapW H) (hF : F <+: H) (h0 : F = [] → H = []) : ∃ m, tolX H Ds T = F ++ (m ++ T) ∧ Seg m Ds := by
  obtain ⟨k1, k2⟩ := kF_ok T
  rcases hH with rfl | hH
  · rw [List.prefix_nil] at hF
    subst hF
    cases Ds with
    | nil =>
      refine ⟨[], ?_, fun x hx => by cases hx⟩
      unfold tolX
      by_cases hT : T = []
      · subst hT; rfl
      · rw [full_id (ws := [T]) (by simpa using hT)]; rfl
    | cons D Ds =>
      obtain ⟨s1, s2⟩ := seg_blk k1 k2 Ds fun E hE => hDs E (.tail _ hE)
      refine ⟨D ++ (blk Ds ++ kF T), ?_, [], _, rfl, (fun x hx => by cases hx), hDs D (.head _), s2, s1⟩
      unfold tolX
      rw [show fullF [[]] ++ (D :: Ds ++ fullF [T]) = D :: (Ds ++ fullF [T]) from rfl, joinL_blk, blk_append, blk_full]
      simp
  · have hne : H ≠ [] := by obtain ⟨c, r, e, _, _⟩ := hH.shape; rw [e]; simp
    have hF0 : F ≠ [] := fun e => hne (h0 e)
    obtain ⟨H2, rfl⟩ := hF
    have hlow : Low H2 := by
      obtain ⟨c, r, e, _, hr⟩ := hH.shape
      cases F with
      | nil => exact absurd rfl hF0
      | cons f F =>
        injection e with _ e2
        subst e2
        exact fun x hx => hr x (List.mem_append_right _ hx)
    obtain ⟨s1, s2⟩ := seg_blk k1 k2 Ds hDs
    refine ⟨H2 ++ (blk Ds ++ kF T), ?_, seg_low hlow s1⟩
    rw [tolX_cons hne]; simp
theorem told_pre {H T F : List Nat} {Ds : List (List Nat)} (hne : H ≠ []) (hF : 32 ∉ F) (h : F <+: tolX H Ds T) : F <+: H := by
  rw [tolX_cons hne, ← blk_full, ← blk_append] at h
  exact pre_blk hF (blk_Blk _) h
theorem joinL_last (T : List Nat) : ∀ l : List (List Nat), ∃ x, joinL [32] (l ++ [T]) = x ++ T
  | [] => ⟨[], rfl⟩
  | a :: l => ⟨a ++ (blk l ++ [32]), by rw [List.cons_append, joinL_blk, blk_append]; simp [blk]⟩
theorem cap_suffix {L T : List Nat} (hT : CapW T) (hL : CapW L) (h : L <:+ T) : L = T := by
  obtain ⟨c, r, rfl, _, hr⟩ := hT.shape
  obtain ⟨d, s, rfl, hd, _⟩ := hL.shape
  rcases List.suffix_cons_iff.mp h with h | h
  · exact h
  · have := hr d (h.subset (.head _)); (first | lia | omega)
theorem told_suf {H T L : List Nat} {Ds : List (List Nat)} (hT : CapW T) (hL : CapW L) (h : L <:+ tolX H Ds T) : L = T := by
  have hne : T ≠ [] := by obtain ⟨c, r, e, _, _⟩ := hT.shape; rw [e]; simp
  obtain ⟨x, hx⟩ := joinL_last T (fullF [H] ++ Ds)
  unfold tolX at h
  rw [full_id (ws := [T]) (by simpa using hne), ← List.append_assoc, hx] at h
  rcases Nat.le_total L.length T.length with hl | hl
  · exact cap_suffix hT hL (List.suffix_of_suffix_length_le h (List.suffix_append x T) hl)
  · exact (cap_suffix hL hT (List.suffix_of_suffix_length_le (List.suffix_append x T) h hl)).symm

theorem cap_dress {u : List Nat} (h : u ∈ Tbl) (hne : u ≠ []) : CapW (dressF u) := by
  have e : ∀ u ∈ Tbl, u = [] ∨ (((dressF u).headD 0 = 65 ∨ (dressF u).headD 0 = 66) ∧ (∀ x ∈ (dressF u).tail, x ≠ 65 ∧ x ≠ 66) ∧ 32 ∉ dressF u) := by decide
  rcases e u h with e | ⟨h1, h2, h3⟩
  · exact absurd e hne
  · refine ⟨?_, h3⟩
    cases u with
    | nil => exact absurd rfl hne
    | cons x r => exact ⟨_, _, rfl, h1, h2⟩
theorem dress_pre : ∀ u ∈ Tbl, ∀ v ∈ Tbl, (dressF u).isPrefixOf (dressF v) = u.isPrefixOf v := by decide
theorem dress_inj : ∀ u ∈ Tbl, ∀ v ∈ Tbl, dressF u = dressF v → u = v := by decide
theorem dress_dot : ∀ u ∈ Tbl, 46 ∉ dressF u ∧ 32 ∉ dressF u := by decide
theorem stepW_sub {us : List (List Nat)} {w : List Nat} : ∀ u ∈ stepW us w, u ∈ us := by
  intro u hu
  cases us with
  | nil => cases hu
  | cons a r =>
    unfold stepW at hu
    dsimp only at hu
    split at hu
    · exact .tail _ hu
    · exact hu
theorem fold_dress : ∀ (Ws us : List (List Nat)), (∀ u ∈ us, u ∈ Tbl) → (∀ w ∈ Ws, w ∈ Tbl) → (Ws.map dressF).foldl stepW (us.map dressF) = (Ws.foldl stepW us).map dressF
  | [], us, _, _ => rfl
  | w :: Ws, us, hu, hw => by
    rw [List.map_cons, List.foldl_cons, List.foldl_cons, ← fold_dress Ws (stepW us w) (fun u h => hu u (stepW_sub u h)) fun v hv => hw v (.tail _ hv)]
    congr 1
    cases us with
    | nil => rfl
    | cons a r =>
      unfold stepW
      rw [List.map_cons]
      dsimp only
      rw [dress_pre a (hu a (.head _)) w (hw w (.head _))]
      split <;> rfl

theorem match_told {first last head tail : List Nat} {inner Ws : List (List Nat)} (h1 : first ∈ Tbl) (h2 : head ∈ Tbl) (h3 : first = [] ↔ head = []) (h4 : last ∈ Tbl) (h5 : tail ∈ Tbl) (h6 : last = [] ↔ tail = []) (hi : Wrd inner) (hw : Wrd Ws) :
    matchF (wantF (first, inner, last)) (tolX (dressF head) (Ws.map dressF) (dressF tail)) = (first.isPrefixOf head && decide (last = tail) && decide (Ws.foldl stepW inner = [])) := by
  have hwant : wantF (first, inner, last) = joinL dots (dressF first :: (inner.map dressF ++ [dressF last])) := by
    unfold wantF askW; simp
  have hDs : ∀ D ∈ Ws.map dressF, CapW D := by
    intro D hD; obtain ⟨u, hu, rfl⟩ := List.mem_map.mp hD; exact cap_dress (hw u hu).1 (hw u hu).2
  have hIs : ∀ D ∈ inner.map dressF, CapW D := by
    intro D hD; obtain ⟨u, hu, rfl⟩ := List.mem_map.mp hD; exact cap_dress (hi u hu).1 (hi u hu).2
  have hH : dressF head = [] ∨ CapW (dressF head) := by
    by_cases h : head = []
    · left; rw [h]; rfl
    · exact .inr (cap_dress h2 h)
  rw [hwant, match_parts]
  · have e1 : decide (Ws.foldl stepW inner = []) = decide ((Ws.map dressF).foldl stepW (inner.map dressF) = []) := by
      rw [fold_dress Ws inner (fun u hu => (hi u hu).1) fun u hu => (hw u hu).1]
      simp
    by_cases hok : first.isPrefixOf head = true ∧ last = tail
    · obtain ⟨o1, rfl⟩ := hok
      have hp : dressF first <+: dressF head := by
        rw [← List.isPrefixOf_iff_prefix, dress_pre first h1 head h2]; exact o1
      obtain ⟨m, em, hm⟩ := told_split (T := dressF last) hDs hH hp fun h => (dress_nil _).mpr (h3.mp ((dress_nil _).mp h))
      rw [em, e1, ← scan_seg _ m (dressF first) (dressF last) _ hm hIs, o1]
      have a1 : (dressF first).isPrefixOf (dressF first ++ (m ++ dressF last)) = true := List.isPrefixOf_iff_prefix.mpr (List.prefix_append _ _)
      have a2 : (dressF last).isSuffixOf (dressF first ++ (m ++ dressF last)) = true := List.isSuffixOf_iff_suffix.mpr (by rw [← List.append_assoc]; exact List.suffix_append _ _)
      have a3 : (dressF first).length + (dressF last).length ≤ (dressF first ++ (m ++ dressF last)).length := by simp only [List.length_append]; (first | lia | omega)
      have a4 : (dressF first ++ (m ++ dressF last)).length - (dressF last).length = (dressF first).length + m.length := by simp only [List.length_append]; (first | lia | omega)
      rw [a1, a2, decide_eq_true a3, a4]; simp
    · have hbad : ¬ ((dressF first).isPrefixOf (tolX (dressF head) (Ws.map dressF) (dressF tail)) = true ∧ (dressF last).isSuffixOf (tolX (dressF head) (Ws.map dressF) (dressF tail)) = true) := by
        rintro ⟨b1, b2⟩
        refine hok ⟨?_, ?_⟩
        · by_cases hh : head = []
          · rw [h3.mpr hh]; cases head <;> rfl
          · have hne : dressF head ≠ [] := fun e => hh ((dress_nil _).mp e)
            rw [← dress_pre first h1 head h2, List.isPrefixOf_iff_prefix]
            exact told_pre hne (dress_dot first h1).2 (List.isPrefixOf_iff_prefix.mp b1)
        · by_cases ht : tail = []
          · rw [h6.mpr ht, ht]
          · have hl : last ≠ [] := fun e => ht (h6.mp e)
            exact dress_inj last h4 tail h5 (told_suf (cap_dress h5 ht) (cap_dress h4 hl) (List.isSuffixOf_iff_suffix.mp b2))
      have e2 : (first.isPrefixOf head && decide (last = tail)) = false := by
        rw [Bool.and_eq_false_iff, decide_eq_false_iff_not]
        by_cases q : first.isPrefixOf head = true
        · exact .inr fun q2 => hok ⟨q, q2⟩
        · exact .inl (Bool.eq_false_iff.mpr q)
      have e3 : ((dressF first).isPrefixOf (tolX (dressF head) (Ws.map dressF) (dressF tail)) && (dressF last).isSuffixOf (tolX (dressF head) (Ws.map dressF) (dressF tail))) = false := by
        rw [Bool.eq_false_iff, Ne, Bool.and_eq_true]; exact hbad
      rw [e2, e3]; simp
  · intro l hl
    rcases List.mem_cons.mp hl with rfl | hl
    · exact (dress_dot _ h1).1
    · rcases List.mem_append.mp hl with hl | hl
      · obtain ⟨u, hu, rfl⟩ := List.mem_map.mp hl
        exact (dress_dot u (hi u hu).1).1
      · rw [List.mem_singleton.mp hl]; exact (dress_dot _ h4).1
theorem told_tolX {head tail line : List Nat} {Ws : List (List Nat)} (h : wordsL line = Ws) (hw : Wrd Ws) : toldF head tail line = tolX (dressF head) (Ws.map dressF) (dressF tail) := by
  unfold toldF tolX wordsF
  rw [h, List.map_append, List.map_append, List.append_assoc, full_append, full_append]
  rw [full_id (ws := Ws.map dressF)]
  · rfl
  · intro D hD
    obtain ⟨u, hu, rfl⟩ := List.mem_map.mp hD
    exact fun e => (hw u hu).2 ((dress_nil _).mp e)
end
section
set_option maxRecDepth 100000

noncomputable def sumD (g : Nums) (f : List Nat → Int) : Int := (g.map fun kv => kv.2 * f kv.1).sum
theorem sumD_cons (kv : List Nat × Int) (b : Nums) (f : List Nat → Int) : sumD (kv :: b) f = kv.2 * f kv.1 + sumD b f := by simp [sumD]
theorem sumD_put (f : List Nat → Int) (k : List Nat) (z : Int) : ∀ g : Nums, (g.map (·.1)).Nodup → sumD (zadd g k z) f = sumD g f + z * f k
  | [], _ => by simp [zadd, zput, zget, sumD]
  | (k', n) :: g, h => by
    rw [List.map_cons, List.nodup_cons] at h
    by_cases e : k' = k
    · subst e
      have hmap : g.map (fun kv => if kv.1 = k' then (kv.1, n + z) else kv) = g := by
        conv => rhs; rw [← List.map_id g]
        apply List.map_congr_left
        intro kv hkv
        have : ¬ kv.1 = k' := by rintro rfl; exact h.1 (List.mem_map.mpr ⟨kv, hkv, rfl⟩)
        simp [this]
      have e2 : zadd ((k', n) :: g) k' z = (k', n + z) :: g := by
        unfold zadd zput zget
        simp [hmap]
      rw [e2, sumD_cons, sumD_cons]
      show (n + z) * f k' + sumD g f = n * f k' + sumD g f + z * f k'
      rw [Int.add_mul]; (first | lia | omega)
    · have ih := sumD_put f k z g h.2
      have e2 : zadd ((k', n) :: g) k z = (k', n) :: zadd g k z := by
        unfold zadd zput zget
        rw [List.any_cons, List.find?_cons]
        simp only [e, decide_false, Bool.false_or]
        split
        · rw [List.map_cons, if_neg e]
        · rfl
      rw [e2, sumD_cons, sumD_cons, ih]; (first | lia | omega)
theorem zadd_nd {g : Nums} (h : (g.map (·.1)).Nodup) (k : List Nat) (z : Int) : ((zadd g k z).map (·.1)).Nodup := by
  unfold zadd
  rw [zput_keys]
  split
  · exact h
  · rename_i hn
    rw [List.nodup_append]
    exact ⟨h, by simp, fun a ha b hb => by rw [List.mem_singleton.mp hb]; rintro rfl; exact hn ha⟩
noncomputable def wsum (ways : List Way) (f : List Nat → Int) (line : List Nat) : Int := (ways.map fun w => w.2 * f (line ++ w.1)).sum
theorem sumD_growW (f : List Nat → Int) (line : List Nat) (n : Int) : ∀ (ways : List Way) (g : Nums), (g.map (·.1)).Nodup → sumD (growW line n ways g) f = sumD g f + n * wsum ways f line ∧ ((growW line n ways g).map (·.1)).Nodup
  | [], g, h => by simp [growW, wsum, h]
  | w :: ways, g, h => by
    have h1 := zadd_nd h (line ++ w.1) (w.2 * n)
    obtain ⟨e, h2⟩ := sumD_growW f line n ways _ h1
    refine ⟨?_, h2⟩
    show sumD (growW line n ways (zadd g (line ++ w.1) (w.2 * n))) f = _
    rw [e, sumD_put f _ _ g h]
    simp only [wsum, List.map_cons, List.sum_cons]
    rw [Int.mul_add, Int.mul_comm w.2 n, Int.mul_assoc]; (first | lia | omega)
theorem sumD_growL' (f : List Nat → Int) (ways : List Way) : ∀ (nums g : Nums), (g.map (·.1)).Nodup → sumD (nums.foldl (fun g kv => growW kv.1 kv.2 ways g) g) f = sumD g f + sumD nums (wsum ways f)
  | [], g, _ => by simp [sumD]
  | kv :: nums, g, h => by
    obtain ⟨e, h2⟩ := sumD_growW f kv.1 kv.2 ways g h
    rw [List.foldl_cons, sumD_growL' f ways nums _ h2, e, sumD_cons]; (first | lia | omega)
theorem sumD_growL (f : List Nat → Int) (ways : List Way) (nums : Nums) : sumD (growL ways nums) f = sumD nums (wsum ways f) := by
  unfold growL
  rw [sumD_growL' f ways nums [] (by simp)]; simp [sumD]
theorem sumD_congr {g : Nums} {f f' : List Nat → Int} (h : ∀ kv ∈ g, f kv.1 = f' kv.1) : sumD g f = sumD g f' := by
  unfold sumD
  congr 1
  apply List.map_congr_left
  intro kv hkv; rw [h kv hkv]
theorem sumD_add (g : Nums) (f f' : List Nat → Int) : sumD g (fun l => f l + f' l) = sumD g f + sumD g f' := by
  induction g with
  | nil => rfl
  | cons kv g ih => rw [sumD_cons, sumD_cons, sumD_cons, ih, Int.mul_add]; (first | lia | omega)
theorem sumD_neg (g : Nums) (f : List Nat → Int) : sumD g (fun l => - f l) = - sumD g f := by
  induction g with
  | nil => rfl
  | cons kv g ih => rw [sumD_cons, sumD_cons, ih, Int.mul_neg]; (first | lia | omega)
theorem sumD_zero (g : Nums) : sumD g (fun _ => 0) = 0 := by
  induction g with
  | nil => rfl
  | cons kv g ih => rw [sumD_cons, ih]; simp

theorem tbl_cut : ∀ u ∈ Tbl, u ≠ [] → 1 < u.length → u.dropLast ∈ Tbl ∧ u.dropLast ≠ [] ∧ u.dropLast.length + 1 = u.length := by decide
theorem wrd_snoc {ws : List (List Nat)} {u : List Nat} (h : Wrd ws) (hu : u ∈ Tbl ∧ u ≠ []) : Wrd (ws ++ [u]) := by
  intro v hv
  rcases List.mem_append.mp hv with hv | hv
  · exact h v hv
  · rw [List.mem_singleton.mp hv]; exact hu
noncomputable def KeyOk (row : List (List Nat)) (i : Nat) (k : List Nat) : Prop := ∃ ws, Wrd ws ∧ ws.length ≤ i ∧ k = lineOf ws ∧ k.length ≤ (lineOf (row.take i)).length
theorem getD_of {row : List (List Nat)} {i : Nat} (hi : i < row.length) : ∃ u, row[i]? = some u ∧ row.getD i [] = u ∧ u ∈ row ∧ row.take (i + 1) = row.take i ++ [u] := by
  refine ⟨row[i], List.getElem?_eq_getElem hi, ?_, List.getElem_mem hi, ?_⟩
  · rw [List.getD_eq_getElem?_getD, List.getElem?_eq_getElem hi]; rfl
  · rw [List.take_add_one, List.getElem?_eq_getElem hi]; rfl
theorem key_way {row : List (List Nat)} (hr : Wrd row) {i : Nat} (hi : i < row.length) {k : List Nat} (hk : KeyOk row i k) : ∀ w ∈ waysF row i, KeyOk row (i + 1) (k ++ w.1) := by
  obtain ⟨u, _, hu, hm, ht⟩ := getD_of hi
  obtain ⟨ws, h1, h2, rfl, h4⟩ := hk
  have hL : (lineOf (row.take (i + 1))).length = (lineOf (row.take i)).length + (u.length + 1) := by rw [ht, line_snoc]; simp
  intro w hw
  unfold waysF at hw
  rw [hu] at hw
  rcases List.mem_append.mp hw with hw | hw
  · rcases List.mem_cons.mp hw with rfl | hw
    · exact ⟨ws ++ [u], wrd_snoc h1 (hr u hm), by simp; (first | lia | omega), (line_snoc ws u).symm, by rw [hL]; simp; (first | lia | omega)⟩
    · rw [List.mem_singleton.mp hw]
      show KeyOk row (i + 1) (lineOf ws ++ if 1 < u.length then u.dropLast ++ [32] else [])
      split
      · rename_i hl
        obtain ⟨c1, c2, c3⟩ := tbl_cut u (hr u hm).1 (hr u hm).2 hl
        exact ⟨ws ++ [u.dropLast], wrd_snoc h1 ⟨c1, c2⟩, by simp; (first | lia | omega), (line_snoc ws _).symm, by rw [hL]; simp only [List.length_append, List.length_singleton]; (first | lia | omega)⟩
      · exact ⟨ws, h1, by first | lia | omega, by simp, by rw [hL]; simp; (first | lia | omega)⟩
  · split at hw
    · rw [List.mem_singleton.mp hw]
      exact ⟨ws, h1, by first | lia | omega, by simp, by rw [hL]; simp; (first | lia | omega)⟩
    · cases hw
theorem keys_ok {row : List (List Nat)} (hr : Wrd row) : ∀ i, i ≤ row.length → ∀ k ∈ (numsF row i).map (·.1), KeyOk row i k
  | 0, _ => by
    intro k hk
    simp only [numsF, List.map_cons, List.map_nil, List.mem_singleton] at hk
    subst hk
    exact ⟨[], (fun u hu => by cases hu), by simp, rfl, by simp⟩
  | i + 1, hi => by
    have ih := keys_ok hr i (by first | lia | omega)
    have hb : ∀ u ∈ row, u.length ≤ 3 := fun u hu => (tbl_facts u (hr u hu).1).1
    have hok := numsF_ok row hb i
    have hw := waysF_ok row i hb
    exact (growL_ok' (B := 4 * i) (b := 4) (P := KeyOk row i) (Q := KeyOk row (i + 1)) (waysF row i) (numsF row i) (nil_ok _ _) (fun kv hkv => ⟨hok.len _ (List.mem_map.mpr ⟨kv, hkv, rfl⟩), ih _ (List.mem_map.mpr ⟨kv, hkv, rfl⟩)⟩) (fun k hk w hww => ⟨(hw.2 w hww).1, key_way hr (by first | lia | omega) hk w hww⟩)).all

theorem zadd_head {g : Nums} {k0 : List Nat} (h : (g.map (·.1)).head? = some k0) (k : List Nat) (z : Int) : ((zadd g k z).map (·.1)).head? = some k0 := by
  unfold zadd
  rw [zput_keys]
  split
  · exact h
  · rw [List.head?_append, h]; rfl
theorem growW_head {line : List Nat} {n : Int} {k0 : List Nat} : ∀ (ways : List Way) {g : Nums}, (g.map (·.1)).head? = some k0 → ((growW line n ways g).map (·.1)).head? = some k0
  | [], _, h => h
  | w :: ways, _, h => growW_head ways (zadd_head h (line ++ w.1) (w.2 * n))
theorem growL_head {ways : List Way} {k0 : List Nat} : ∀ (nums : Nums) {g : Nums}, (g.map (·.1)).head? = some k0 → ((nums.foldl (fun g kv => growW kv.1 kv.2 ways g) g).map (·.1)).head? = some k0
  | [], _, h => h
  | _ :: nums, _, h => growL_head nums (growW_head ways h)
theorem first_key {row : List (List Nat)} : ∀ i, i ≤ row.length → ((numsF row i).map (·.1)).head? = some (lineOf (row.take i))
  | 0, _ => by simp [numsF, lineOf]
  | i + 1, hi => by
    have ih := first_key (row := row) i (by first | lia | omega)
    obtain ⟨u, _, hu, hm, ht⟩ := getD_of (show i < row.length by first | lia | omega)
    rw [ht, line_snoc]
    show ((growL (waysF row i) (numsF row i)).map (·.1)).head? = _
    cases hn : numsF row i with
    | nil => rw [hn] at ih; cases ih
    | cons kv nums =>
      rw [hn] at ih
      have hk : kv.1 = lineOf (row.take i) := Option.some.inj ih
      unfold growL
      rw [List.foldl_cons]
      refine growL_head nums ?_
      unfold waysF
      rw [hu, hk]
      show ((growW (lineOf (row.take i)) kv.2 ((u ++ [32], 1) :: (_ :: _)) []).map (·.1)).head? = _
      unfold growW
      rw [List.foldl_cons]
      refine growW_head (line := lineOf (row.take i)) (n := kv.2) _ ?_
      simp [zadd, zput]
end
section
set_option maxRecDepth 100000

noncomputable def cutW (u : List Nat) (s : List (List Nat)) : List (List Nat) := if 1 < u.length then stepW s u.dropLast else s
noncomputable def delta (F : List (List Nat) → Int) (u : List Nat) : List (List Nat) → Int
  | [] => 0
  | v :: r => if v = u then F r - F (v :: r) else 0
theorem delta_cons (F : List (List Nat) → Int) (u v : List Nat) (r : List (List Nat)) : delta F u (v :: r) = if v = u then F r - F (v :: r) else 0 := rfl
theorem tbl_step : ∀ u ∈ Tbl, ∀ v ∈ Tbl, u ≠ [] → v ≠ [] →
    (v = u → v.isPrefixOf u = true ∧ (1 < u.length → v.isPrefixOf u.dropLast = false)) ∧ (v ≠ u → if 1 < u.length then v.isPrefixOf u = v.isPrefixOf u.dropLast else v.isPrefixOf u = false) := by decide
theorem delta_eq (F : List (List Nat) → Int) {u : List Nat} (hu : u ∈ Tbl ∧ u ≠ []) {s : List (List Nat)} (hs : Wrd s) : F (stepW s u) - F (cutW u s) = delta F u s := by
  cases s with
  | nil => unfold cutW; split <;> simp [stepW, delta]
  | cons v r =>
    obtain ⟨h1, h2⟩ := tbl_step u hu.1 v (hs v (.head _)).1 hu.2 (hs v (.head _)).2
    rw [delta_cons]
    unfold cutW
    by_cases e : v = u
    · obtain ⟨a, b⟩ := h1 e
      rw [if_pos e]
      have e1 : stepW (v :: r) u = r := by unfold stepW; simp only [a, if_true]
      rw [e1]
      split
      · rename_i hl
        have e2 : stepW (v :: r) u.dropLast = v :: r := by unfold stepW; simp [b hl]
        rw [e2]
      · rfl
    · have h3 := h2 e
      rw [if_neg e]
      split
      · rename_i hl
        rw [if_pos hl] at h3
        have : stepW (v :: r) u = stepW (v :: r) u.dropLast := by unfold stepW; simp only [h3]
        rw [this]; (first | lia | omega)
      · rename_i hl
        rw [if_neg hl] at h3
        have : stepW (v :: r) u = v :: r := by unfold stepW; simp [h3]
        rw [this]; (first | lia | omega)

noncomputable def vsum (inner row : List (List Nat)) (i : Nat) (F : List (List Nat) → Int) : Int := sumD (numsF row i) fun l => F ((wordsL l).foldl stepW inner)
theorem vsum_step {inner row : List (List Nat)} (hr : Wrd row) {i : Nat} (hi : i < row.length) {u : List Nat} (hu : row.getD i [] = u) (hm : u ∈ row) (F : List (List Nat) → Int) :
    vsum inner row (i + 1) F = vsum inner row i (fun s => F (stepW s u)) - vsum inner row i (fun s => F (cutW u s)) + if 0 < i ∧ row.getD (i - 1) [] = u then vsum inner row i F else 0 := by
  have hut := hr u hm
  unfold vsum
  rw [show numsF row (i + 1) = growL (waysF row i) (numsF row i) from rfl, sumD_growL]
  have key : ∀ kv ∈ numsF row i, wsum (waysF row i) (fun l => F ((wordsL l).foldl stepW inner)) kv.1 =
      (F (stepW ((wordsL kv.1).foldl stepW inner) u) + -(F (cutW u ((wordsL kv.1).foldl stepW inner)))) + (if 0 < i ∧ row.getD (i - 1) [] = u then F ((wordsL kv.1).foldl stepW inner) else 0) := by
    intro kv hkv
    obtain ⟨ws, h1, h2, h3, h4⟩ := keys_ok hr i (by first | lia | omega) kv.1 (List.mem_map.mpr ⟨kv, hkv, rfl⟩)
    rw [h3, words_line h1]
    have e1 : wordsL (lineOf ws ++ (u ++ [32])) = ws ++ [u] := by rw [← line_snoc, words_line (wrd_snoc h1 hut)]
    have e2 : ((wordsL (lineOf ws ++ if 1 < u.length then u.dropLast ++ [32] else [])).foldl stepW inner) = cutW u (ws.foldl stepW inner) := by
      unfold cutW
      split
      · rename_i hl
        obtain ⟨c1, c2, c3⟩ := tbl_cut u hut.1 hut.2 hl
        rw [← line_snoc, words_line (wrd_snoc h1 ⟨c1, c2⟩), List.foldl_append]; rfl
      · rw [List.append_nil, words_line h1]
    have e3 : (ws ++ [u]).foldl stepW inner = stepW (ws.foldl stepW inner) u := by rw [List.foldl_append]; rfl
    unfold wsum waysF
    rw [hu]
    generalize (if 1 < u.length then u.dropLast ++ [32] else []) = cs at e2
    by_cases hc : 0 < i ∧ row.getD (i - 1) [] = u
    · rw [if_pos hc, if_pos hc]
      simp only [List.map_append, List.map_cons, List.map_nil, List.sum_append, List.sum_cons, List.sum_nil, e1, e2, e3, List.append_nil, words_line h1]
      (first | lia | omega)
    · rw [if_neg hc, if_neg hc]
      simp only [List.append_nil, List.map_cons, List.map_nil, List.sum_cons, List.sum_nil, e1, e2, e3]
      (first | lia | omega)
  rw [sumD_congr (f' := fun l => (F (stepW ((wordsL l).foldl stepW inner) u) + -(F (cutW u ((wordsL l).foldl stepW inner)))) + (if 0 < i ∧ row.getD (i - 1) [] = u then F ((wordsL l).foldl stepW inner) else 0)) key, sumD_add, sumD_add, sumD_neg]
  congr 1
  split
  · rfl
  · exact sumD_zero _

theorem wrd_drop {ws : List (List Nat)} (h : Wrd ws) (k : Nat) : Wrd (ws.drop k) := fun u hu => h u (List.mem_of_mem_drop hu)
theorem vsum_eq {inner row : List (List Nat)} (hn : Wrd inner) (hr : Wrd row) : ∀ i, i ≤ row.length → ∀ F : List (List Nat) → Int,
    vsum inner row i F = if inner.take i = row.take i then F (inner.drop i) - (if i = 0 then 0 else F (inner.drop (i - 1))) else 0
  | 0, _, F => by simp [vsum, numsF, sumD, wordsL, wfin]
  | i + 1, hi, F => by
    have ih := vsum_eq hn hr i (by first | lia | omega)
    obtain ⟨u, hru, hu, hm, ht⟩ := getD_of (show i < row.length by first | lia | omega)
    rw [vsum_step hr (by first | lia | omega) hu hm, ih, ih, ih, if_neg (Nat.succ_ne_zero i), Nat.add_sub_cancel]
    by_cases hA : inner.take i = row.take i
    · rw [if_pos hA, if_pos hA, if_pos hA]
      have d0 := delta_eq F (hr u hm) (wrd_drop hn i)
      have d1 := delta_eq F (hr u hm) (wrd_drop hn (i - 1))
      have hlen : i ≤ inner.length := by
        have := congrArg List.length hA
        rw [List.length_take, List.length_take] at this
        (first | lia | omega)
      -- the last term but one falls away
      have hprev : (if i = 0 then (0 : Int) else delta F u (inner.drop (i - 1))) = if 0 < i ∧ row.getD (i - 1) [] = u then F (inner.drop i) - (if i = 0 then 0 else F (inner.drop (i - 1))) else 0 := by
        by_cases h0 : i = 0
        · subst h0; simp
        · rw [if_neg h0, if_neg h0]
          obtain ⟨v, hv, hgv, _, _⟩ := getD_of (show i - 1 < row.length by first | lia | omega)
          have hiv : inner[i - 1]? = some v := by
            have := congrArg (fun l => l[i - 1]?) hA
            simp only [List.getElem?_take, if_pos (show i - 1 < i by first | lia | omega)] at this
            rw [this, hv]
          have hd : inner.drop (i - 1) = v :: inner.drop i := by
            obtain ⟨hlt, hge⟩ := List.getElem?_eq_some_iff.mp hiv
            rw [List.drop_eq_getElem_cons hlt, hge, show i - 1 + 1 = i from by first | lia | omega]
          rw [hgv, hd]
          rw [delta_cons]
          by_cases e : v = u
          · rw [if_pos e, if_pos ⟨by first | lia | omega, e⟩]
          · rw [if_neg e, if_neg fun h => e h.2]
      have hnew : delta F u (inner.drop i) = if inner.take (i + 1) = row.take (i + 1) then F (inner.drop (i + 1)) - F (inner.drop i) else 0 := by
        cases hiv : inner[i]? with
        | none =>
          have hle : inner.length ≤ i := List.getElem?_eq_none_iff.mp hiv
          rw [List.drop_of_length_le hle, if_neg]
          · rfl
          · intro h
            have := congrArg List.length h
            rw [List.length_take, List.length_take] at this
            (first | lia | omega)
        | some v =>
          obtain ⟨hlt, hge⟩ := List.getElem?_eq_some_iff.mp hiv
          have hd : inner.drop i = v :: inner.drop (i + 1) := by rw [List.drop_eq_getElem_cons hlt, hge]
          have htk : inner.take (i + 1) = inner.take i ++ [v] := by rw [List.take_add_one, hiv]; rfl
          rw [htk, ht, hA, hd]
          rw [delta_cons]
          by_cases e : v = u
          · subst e; rw [if_pos rfl, if_pos rfl]
          · rw [if_neg e, if_neg fun h => e (by simpa using h)]
      rw [← hnew]
      by_cases h0 : i = 0
      · subst h0
        simp only [if_true] at hprev ⊢
        simp only [Nat.lt_irrefl, false_and, if_false]
        (first | lia | omega)
      · simp only [if_neg h0] at hprev ⊢
        rw [← hprev]
        (first | lia | omega)
    · have hB : ¬ inner.take (i + 1) = row.take (i + 1) := fun h => hA (by
        have := congrArg (List.take i) h
        rwa [List.take_take, List.take_take, Nat.min_eq_left (by first | lia | omega)] at this)
      rw [if_neg hA, if_neg hA, if_neg hA, if_neg hB]
      split <;> (first | lia | omega)
theorem vsum_end {inner row : List (List Nat)} (hn : Wrd inner) (hr : Wrd row) : vsum inner row row.length (fun s => if s = [] then 1 else 0) = if inner = row then 1 else 0 := by
  rw [vsum_eq hn hr _ (Nat.le_refl _), List.take_length]
  by_cases hA : inner.take row.length = row
  · rw [if_pos hA]
    have hlen : row.length ≤ inner.length := by
      have := congrArg List.length hA
      rw [List.length_take] at this
      (first | lia | omega)
    have hprev : (if row.length = 0 then (0 : Int) else if inner.drop (row.length - 1) = [] then 1 else 0) = 0 := by
      by_cases h0 : row.length = 0
      · rw [if_pos h0]
      · rw [if_neg h0, if_neg]
        intro h
        have := congrArg List.length h
        rw [List.length_drop] at this
        simp at this
        (first | lia | omega)
    rw [hprev, Int.sub_zero]
    by_cases e : inner = row
    · rw [if_pos e, if_pos (by rw [e, List.drop_length])]
    · rw [if_neg e, if_neg]
      intro h
      refine e ?_
      have := congrArg List.length h
      rw [List.length_drop] at this
      have h2 : inner.length ≤ row.length := by simp at this; (first | lia | omega)
      rw [List.take_of_length_le h2] at hA
      exact hA
  · rw [if_neg hA, if_neg]
    rintro rfl
    exact hA (List.take_length)
end
section
set_option maxRecDepth 100000

theorem fold_blk : ∀ (r : List (List Nat)) (st : List (List Nat) × List Nat), (∀ u ∈ r, Sgn u) → wfin ((blk r).foldl wstep st) = wfin st ++ fullF r
  | [], st, _ => by simp [blk, fullF]
  | w :: r, st, h => by
    have e : blk (w :: r) = [32] ++ (w ++ blk r) := by simp [blk]
    rw [e, List.foldl_append, List.foldl_append, fold_sep [32] st space32 (by decide), fold_word _ _ _ (sgn_space (h w (.head _))), fold_blk r _ fun u hu => h u (.tail _ hu), List.nil_append, wfin_full, List.append_assoc, full_cons w r]
theorem words_join (X : List (List Nat)) (h : ∀ u ∈ X, Sgn u) : wordsL (joinL [32] X) = fullF X := by
  cases X with
  | nil => rfl
  | cons a r =>
    unfold wordsL
    rw [joinL_blk, List.foldl_append, fold_word _ _ _ (sgn_space (h a (.head _))), fold_blk r _ fun u hu => h u (.tail _ hu), List.nil_append, wfin_full, full_cons a r]; rfl
theorem dress_sgn : ∀ u ∈ Tbl, ∀ x ∈ dressF u, x = 39 ∨ x = 97 ∨ x = 98 ∨ x = 65 ∨ x = 66 := by decide
theorem map_dress_inj : ∀ {a b : List (List Nat)}, (∀ u ∈ a, u ∈ Tbl) → (∀ u ∈ b, u ∈ Tbl) → a.map dressF = b.map dressF → a = b
  | [], [], _, _, _ => rfl
  | [], _ :: _, _, _, h => by cases h
  | _ :: _, [], _, _, h => by cases h
  | x :: a, y :: b, ha, hb, h => by
    rw [List.map_cons, List.map_cons] at h
    injection h with h1 h2
    rw [dress_inj x (ha x (.head _)) y (hb y (.head _)) h1, map_dress_inj (fun u hu => ha u (.tail _ hu)) (fun u hu => hb u (.tail _ hu)) h2]
theorem tolX_words {head tail : List Nat} {Ws : List (List Nat)} (hh : head ∈ Tbl) (ht : tail ∈ Tbl) (hw : Wrd Ws) : wordsL (tolX (dressF head) (Ws.map dressF) (dressF tail)) = fullF [dressF head] ++ (Ws.map dressF ++ fullF [dressF tail]) := by
  unfold tolX
  have hs : ∀ u ∈ fullF [dressF head] ++ (Ws.map dressF ++ fullF [dressF tail]), Sgn u ∧ u ≠ [] := by
    intro u hu
    rcases List.mem_append.mp hu with hu | hu
    · obtain ⟨h1, h2⟩ := mem_full.mp hu
      rw [List.mem_singleton] at h1; subst h1
      exact ⟨dress_sgn _ hh, h2⟩
    · rcases List.mem_append.mp hu with hu | hu
      · obtain ⟨v, hv, rfl⟩ := List.mem_map.mp hu
        exact ⟨dress_sgn _ (hw v hv).1, fun e => (hw v hv).2 ((dress_nil _).mp e)⟩
      · obtain ⟨h1, h2⟩ := mem_full.mp hu
        rw [List.mem_singleton] at h1; subst h1
        exact ⟨dress_sgn _ ht, h2⟩
  rw [words_join _ fun u hu => (hs u hu).1, full_id fun u hu => (hs u hu).2]
theorem tolX_inj {head tail : List Nat} {Vs Ws : List (List Nat)} (hh : head ∈ Tbl) (ht : tail ∈ Tbl) (hv : Wrd Vs) (hw : Wrd Ws) (h : tolX (dressF head) (Vs.map dressF) (dressF tail) = tolX (dressF head) (Ws.map dressF) (dressF tail)) : Vs = Ws := by
  have := congrArg wordsL h
  rw [tolX_words hh ht hv, tolX_words hh ht hw, List.append_cancel_left_eq, List.append_cancel_right_eq] at this
  exact map_dress_inj (fun u hu => (hv u hu).1) (fun u hu => (hw u hu).1) this
theorem joinL_length (X : List (List Nat)) : (joinL [32] X).length = (blk X).length - 1 := by
  cases X with
  | nil => rfl
  | cons a r => rw [joinL_blk]; simp [blk]
theorem blk_dress : ∀ Ws : List (List Nat), (blk (Ws.map dressF)).length = (lineOf Ws).length
  | [] => rfl
  | w :: Ws => by
    have ih := blk_dress Ws
    have e : blk ((w :: Ws).map dressF) = [32] ++ (dressF w ++ blk (Ws.map dressF)) := by simp [blk]
    have e2 : lineOf (w :: Ws) = w ++ ([32] ++ lineOf Ws) := by simp [lineOf]
    rw [e, e2]
    simp only [List.length_append, dressF_len, ih]; (first | lia | omega)
theorem tolX_length (H T : List Nat) (Ws : List (List Nat)) : (tolX H (Ws.map dressF) T).length = (blk (fullF [H])).length + (lineOf Ws).length + (blk (fullF [T])).length - 1 := by
  unfold tolX
  rw [joinL_length, blk_append, blk_append, List.length_append, List.length_append, blk_dress]; congr 1; (first | lia | omega)
theorem tolX_signs {head tail : List Nat} {Ws : List (List Nat)} (hh : head ∈ Tbl) (ht : tail ∈ Tbl) (hw : Wrd Ws) : 46 ∉ tolX (dressF head) (Ws.map dressF) (dressF tail) := by
  intro h
  rcases joinL_mem [32] _ 46 h with h | ⟨l, hl, h⟩
  · simp at h
  · have : l ∈ [dressF head] ++ (Ws.map dressF ++ [dressF tail]) := by
      rcases List.mem_append.mp hl with hl | hl
      · exact List.mem_append_left _ (mem_full.mp hl).1
      · refine List.mem_append_right _ ?_
        rcases List.mem_append.mp hl with hl | hl
        · exact List.mem_append_left _ hl
        · exact List.mem_append_right _ (mem_full.mp hl).1
    rcases List.mem_append.mp this with q | q
    · rw [List.mem_singleton.mp q] at h; exact (dress_dot _ hh).1 h
    · rcases List.mem_append.mp q with q | q
      · obtain ⟨v, hv, rfl⟩ := List.mem_map.mp q
        exact (dress_dot _ (hw v hv).1).1 h
      · rw [List.mem_singleton.mp q] at h; exact (dress_dot _ ht).1 h

theorem bal_foldl (want : List Nat) : ∀ (pages : Nums) (b : Int), pages.foldl (balStep want) b = b + (pages.map fun p => if matchF want p.1 = true then p.2 else 0).sum
  | [], b => by simp
  | p :: pages, b => by
    rw [List.foldl_cons, bal_foldl want pages, List.map_cons, List.sum_cons]
    unfold balStep
    split <;> (first | lia | omega)
theorem bal_sumD (want head tail : List Nat) (nums : Nums) : balF want (pagesF head tail nums) = sumD nums fun l => if matchF want (toldF head tail l) = true then 1 else 0 := by
  unfold balF pagesF sumD
  rw [bal_foldl, List.map_map, Int.zero_add]
  congr 1
  apply List.map_congr_left
  intro kv _
  simp only [Function.comp]
  split <;> simp
theorem sumD_one {k : List Nat} {n : Int} : ∀ {g : Nums}, (g.map (·.1)).Nodup → (k, n) ∈ g → sumD g (fun l => if l = k then 1 else 0) = n
  | [], _, h => by cases h
  | kv :: g, hn, h => by
    rw [List.map_cons, List.nodup_cons] at hn
    rw [sumD_cons]
    rcases List.mem_cons.mp h with e | h
    · subst e
      have : sumD g (fun l => if l = k then (1 : Int) else 0) = sumD g fun _ => 0 := sumD_congr fun kv hkv => if_neg (by rintro rfl; exact hn.1 (List.mem_map.mpr ⟨kv, hkv, rfl⟩))
      rw [this, sumD_zero]; simp
    · have : ¬ kv.1 = k := by rintro rfl; exact hn.1 (List.mem_map.mpr ⟨_, h, rfl⟩)
      rw [if_neg this, sumD_one hn.2 h]; simp

theorem end_nil {f : Int} {own : List Nat} (h12 : f < 12) : endF f own = [] ↔ own = [] := by
  unfold endF
  by_cases h : own = [] ∨ f < 4
  · rw [if_pos h]
  · rw [if_neg h]
    have h1 : own ≠ [] := fun e => h (.inl e)
    have h2 : ¬ f < 4 := fun e => h (.inr e)
    by_cases h4 : f = 4
    · rw [if_pos h4]
      cases own with
      | nil => exact absurd rfl h1
      | cons a r => simp
    · rw [if_neg h4]
      have hk : ∀ k : Nat, 1 ≤ k → k ≤ 7 → wordF k ≠ [] := by
        intro k a b
        match k, a, b with
        | 1, _, _ => decide
        | 2, _, _ => decide
        | 3, _, _ => decide
        | 4, _, _ => decide
        | 5, _, _ => decide
        | 6, _, _ => decide
        | 7, _, _ => decide
      exact iff_of_false (hk (f - 4).toNat (by first | lia | omega) (by first | lia | omega)) h1
theorem wrd_full {ws : List (List Nat)} (h : ∀ u ∈ ws, u ∈ Tbl) : Wrd (fullF ws) := fun u hu => ⟨h u (mem_full.mp hu).1, (mem_full.mp hu).2⟩

structure WantOk (head tail : List Nat) (q : Wtd) : Prop where
  f : q.1 ∈ Tbl
  f0 : q.1 = [] ↔ head = []
  l : q.2.2 ∈ Tbl
  l0 : q.2.2 = [] ↔ tail = []
  w : Wrd q.2.1
theorem wanted_ok {drawn : List Int} {own : List (List Nat)} {head tail : List Nat} (ho : ∀ u ∈ own, u ∈ Tbl) (hh : head ∈ Tbl) (ht : tail ∈ Tbl) : ∀ q ∈ wantedF drawn own head tail, WantOk head tail q := by
  intro q hq
  rcases List.mem_cons.mp hq with rfl | hq
  · exact ⟨hh, Iff.rfl, ht, Iff.rfl, wrd_full ho⟩
  · obtain ⟨x, _, rfl⟩ := List.mem_map.mp hq
    exact ⟨tbl_end _ hh, end_nil (figF_range x 0).2, tbl_end _ ht, end_nil (figF_range x 1).2, wrd_full (tbl_inners x ho)⟩

theorem law1_ok {head tail : List Nat} {row : List (List Nat)} {wanted : List Wtd} (hh : head ∈ Tbl) (ht : tail ∈ Tbl) (hr : Wrd row) (hl : row.length ≤ 4) (hw : ∀ q ∈ wanted, WantOk head tail q) : Law1 head tail row (numsF row row.length) wanted := by
  have hkeys : ∀ kv ∈ numsF row row.length, ∃ ws, Wrd ws ∧ ws.length ≤ row.length ∧ kv.1 = lineOf ws ∧ wordsL kv.1 = ws ∧ kv.1.length ≤ (lineOf row).length := by
    intro kv hkv
    obtain ⟨ws, h1, h2, h3, h4⟩ := keys_ok hr row.length (Nat.le_refl _) kv.1 (List.mem_map.mpr ⟨kv, hkv, rfl⟩)
    rw [List.take_length] at h4
    exact ⟨ws, h1, h2, h3, by rw [h3]; exact words_line h1, h4⟩
  have hfirst := first_key (row := row) row.length (Nat.le_refl _)
  rw [List.take_length] at hfirst
  have hnd : ((numsF row row.length).map (·.1)).Nodup := (numsF_ok row (fun u hu => (tbl_facts u (hr u hu).1).1) row.length).nd
  have hask : ∀ {f l : List Nat} {w : List (List Nat)}, f ∈ Tbl → (∀ u ∈ w, u ∈ Tbl) → l ∈ Tbl → ∀ u ∈ [f] ++ w ++ [l], u ∈ Tbl := by
    intro f l w h1 h2 h3 u hu
    rcases List.mem_append.mp hu with hu | hu
    · rcases List.mem_append.mp hu with hu | hu
      · rw [List.mem_singleton.mp hu]; exact h1
      · exact h2 u hu
    · rw [List.mem_singleton.mp hu]; exact h3
  obtain ⟨n0, g0, hg⟩ : ∃ n0 g0, numsF row row.length = (lineOf row, n0) :: g0 := by
    cases hn : numsF row row.length with
    | nil => rw [hn] at hfirst; cases hfirst
    | cons kv g =>
      rw [hn] at hfirst
      have : kv.1 = lineOf row := Option.some.inj hfirst
      exact ⟨kv.2, g, by rw [← this]⟩
  -- a page's own sum
  have hself : ∀ p ∈ pagesF head tail (numsF row row.length), balF p.1 (pagesF head tail (numsF row row.length)) = p.2 := by
    intro p hp
    obtain ⟨⟨k, n⟩, hkv, rfl⟩ := List.mem_map.mp hp
    show balF (toldF head tail k) _ = n
    rw [bal_sumD, ← sumD_one hnd hkv]
    refine sumD_congr fun kv hkv' => ?_
    obtain ⟨ws, a1, _, a2, a3, _⟩ := hkeys kv hkv'
    obtain ⟨vs, b1, _, b2, b3, _⟩ := hkeys (k, n) hkv
    have b2 : k = lineOf vs := b2
    have b3 : wordsL k = vs := b3
    rw [told_tolX a3 a1, told_tolX b3 b1]
    unfold matchF
    rw [if_pos (hasnt_dots (tolX_signs hh ht b1))]
    simp only [decide_eq_true_eq]
    by_cases e : kv.1 = k
    · have : ws = vs := by rw [← a3, ← b3, e]
      rw [if_pos e, if_pos (by rw [this])]
    · rw [if_neg e, if_neg]
      intro h
      exact e (by rw [a2, b2, tolX_inj hh ht b1 a1 h])
  have h0 : (pagesF head tail (numsF row row.length)).headD ([], 0) = (toldF head tail (lineOf row), n0) := by rw [hg]; rfl
  refine ⟨by rw [hg]; simp, ?_, ?_, ?_, ?_⟩
  · intro kv hkv
    obtain ⟨ws, h1, h2, h3, h4, _⟩ := hkeys kv hkv
    rw [h4]
    exact ⟨by first | lia | omega, fun u hu => (h1 u hu).1⟩
  · intro kv hkv t
    obtain ⟨ws, h1, h2, h3, h4, _⟩ := hkeys kv hkv
    rw [told_ok]
    · rfl
    · unfold wordsF
      rw [h4]
      exact hask hh (fun u hu => (h1 u hu).1) ht
  · intro q hq t
    have h := hw q hq
    exact want_ok (askW q) t (by simp [askW]) (hask h.f (fun u hu => (h.w u hu).1) h.l)
  · intro p hp
    rcases List.mem_append.mp hp with hp | hp
    · unfold firstSums at hp
      rcases List.mem_cons.mp hp with rfl | hp
      · refine hself _ ?_
        rw [h0, hg]; exact .head _
      · rcases List.mem_cons.mp hp with rfl | hp
        · refine hself _ ?_
          have hne : pagesF head tail (numsF row row.length) ≠ [] := by rw [hg]; simp [pagesF]
          rw [List.getLastD_eq_getLast?]
          cases h : (pagesF head tail (numsF row row.length)).getLast? with
          | none => exact absurd (List.getLast?_eq_none_iff.mp h) hne
          | some a => exact List.mem_of_getLast? h
        · rw [List.mem_singleton.mp hp, h0]
          show balF (toldF head tail (lineOf row) ++ dots ++ (toldF head tail (lineOf row)).drop ((toldF head tail (lineOf row)).length - 1)) _ = if toldF head tail (lineOf row) = [] then 1 else 0
          have hw0 := words_line hr
          have hdot := tolX_signs hh ht hr
          rw [told_tolX hw0 hr]
          generalize ht0 : tolX (dressF head) (row.map dressF) (dressF tail) = told0 at hdot
          have hjoin : told0 ++ dots ++ told0.drop (told0.length - 1) = joinL dots (told0 :: ([] ++ [told0.drop (told0.length - 1)])) := rfl
          rw [hjoin, bal_sumD]
          have hparts := fun got => match_parts told0 (told0.drop (told0.length - 1)) [] (fun l hl => by
            rcases List.mem_cons.mp hl with rfl | hl
            · exact hdot
            · rw [List.nil_append, List.mem_singleton] at hl
              rw [hl]; exact fun h => hdot (List.mem_of_mem_drop h)) got
          by_cases e : told0 = []
          · rw [if_pos e]
            subst e
            have hrow : row = [] := by
              have := tolX_words hh ht hr
              rw [ht0] at this
              have h3 := congrArg List.length this
              simp [wordsL, wfin] at h3
              exact List.eq_nil_of_length_eq_zero (by first | lia | omega)
            subst hrow
            show sumD [([], 1)] _ = 1
            rw [sumD_cons, hparts]
            simp [sumD, scan]
          · rw [if_neg e]
            refine Eq.trans (sumD_congr (f' := fun _ => 0) fun kv hkv => if_neg ?_) (sumD_zero _)
            obtain ⟨ws, a1, _, a2, a3, a4⟩ := hkeys kv hkv
            rw [hparts, told_tolX a3 a1]
            have l1 := tolX_length (dressF head) (dressF tail) ws
            have l2 := tolX_length (dressF head) (dressF tail) row
            rw [ht0] at l2
            rw [a2] at a4
            have hpos : 1 ≤ told0.length := List.length_pos_iff.mpr e
            have : ¬ told0.length + (told0.drop (told0.length - 1)).length ≤ (tolX (dressF head) (ws.map dressF) (dressF tail)).length := by
              rw [List.length_drop]; (first | lia | omega)
            rw [decide_eq_false this]; simp
    · obtain ⟨⟨first, inner, last⟩, hq, rfl⟩ := List.mem_map.mp hp
      have h := hw _ hq
      have hf : first ∈ Tbl := h.f
      have hlst : last ∈ Tbl := h.l
      have hin : Wrd inner := h.w
      have hf0 : first = [] ↔ head = [] := h.f0
      have hl0 : last = [] ↔ tail = [] := h.l0
      show balF (wantF (first, inner, last)) _ = dueF row head tail (first, inner, last)
      rw [bal_sumD]
      have hm : ∀ kv ∈ numsF row row.length, (if matchF (wantF (first, inner, last)) (toldF head tail kv.1) = true then (1 : Int) else 0) =
          if first.isPrefixOf head = true ∧ last = tail then (fun s => if s = [] then (1 : Int) else 0) ((wordsL kv.1).foldl stepW inner) else 0 := by
        intro kv hkv
        obtain ⟨ws, a1, _, a2, a3, _⟩ := hkeys kv hkv
        rw [told_tolX a3 a1, match_told hf hh hf0 hlst ht hl0 hin a1, a3]
        by_cases c1 : first.isPrefixOf head = true <;> by_cases c2 : last = tail <;> simp [c1, c2]
      rw [sumD_congr (f' := fun l => if first.isPrefixOf head = true ∧ last = tail then (fun s => if s = [] then (1 : Int) else 0) ((wordsL l).foldl stepW inner) else 0) hm]
      have hpre : first.isPrefixOf head = true ↔ head.take first.length = first := by
        rw [List.isPrefixOf_iff_prefix, List.prefix_iff_eq_take]; exact eq_comm
      show _ = if inner = row ∧ last = tail ∧ head.take first.length = first then (1 : Int) else 0
      by_cases hc : first.isPrefixOf head = true ∧ last = tail
      · simp only [if_pos hc]
        rw [show sumD (numsF row row.length) (fun l => if (wordsL l).foldl stepW inner = [] then (1 : Int) else 0) = vsum inner row row.length (fun s => if s = [] then 1 else 0) from rfl, vsum_end hin hr]
        by_cases e : inner = row
        · rw [if_pos e, if_pos ⟨e, hc.2, hpre.mp hc.1⟩]
        · rw [if_neg e, if_neg fun q => e q.1]
      · simp only [if_neg hc]
        rw [sumD_zero, if_neg fun q => hc ⟨hpre.mpr q.2.2, q.2.1⟩]
end
section
open PySem PySem.W PyProof.Rows PySem.W.X PySem.W.ZRun
set_option maxRecDepth 100000
set_option maxHeartbeats 4000000
set_option pp.deepTerms false
set_option pp.maxSteps 3000
theorem well_int {P : Params} {h : Heap} {v : Value} {n : Int} (w : Well P h v (.int n)) : ∃ t, v = .int n t := by
  cases w; exact ⟨_, rfl⟩
theorem ints_of_well {P : Params} {h : Heap} {c : Cx} {Q : Facts} : ∀ {vs : List Value} {ns : List Int}, WellAll P h vs (ofPys (ns.map PyData.int)) → RepL c Q vs (ns.map D.int) := by
  intro vs ns
  induction ns generalizing vs with
  | nil => intro h; cases h; exact .nil
  | cons n ns ih =>
    intro h
    cases h with
    | cons h r => obtain ⟨t, rfl⟩ := well_int h; exact .cons (.int _ _) (ih r)
theorem well_list {P : Params} {h : Heap} {l : Addr} {ns : List Int} (w : Well P h (.ref l) (ofPy (PyData.list (ns.map PyData.int)))) : ∃ vs, h.get? l = some (listO vs 0) ∧ WellAll P h vs (ofPys (ns.map PyData.int)) := by
  cases w with
  | list h1 h2 => exact ⟨_, h1, h2⟩
theorem drawnF_len (script : List Int) : 3 ≤ (drawnF script).length ∧ (drawnF script).length ≤ 4 := by
  unfold drawnF
  rw [List.length_append, List.length_take, List.length_drop, show ([1540, 4676, 5793] : List Int).length = 3 from rfl]
  (first | lia | omega)
theorem law1_all (drawn : List Int) (hd : drawn.length ≤ 4) (a b : Nat) : Law1 (wordF a) (wordF b) (fullF (ownF drawn)) (numsF (fullF (ownF drawn)) (fullF (ownF drawn)).length) (wantedF drawn (ownF drawn) (wordF a) (wordF b)) := by
  have hl := full_length (ownF drawn)
  rw [show (ownF drawn).length = drawn.length from List.length_map _] at hl
  exact law1_ok (tbl_wordF a) (tbl_wordF b) (wrd_full (tbl_own drawn)) (by first | lia | omega) (wanted_ok (tbl_own drawn) (tbl_wordF a) (tbl_wordF b))

theorem join1 : PySem.Challenge.rw_qc0002_01.Holds := by
  refine Mine.hd ?_
  k_fill
  intro w s₀ s₁ mg mb G Y fa o pm cd doc dV kV ho hd hcd hD hmg hg args vals as hpre hlay hrd hwl hlo
  have KX := kIn_of Y
  clear hcd hD hd
  have hmg' : mg (Str.ofString "law") = some (.ref fa) := hmg
  clear hmg
  refine Ground.open G ?_
  intro T B D TE TW
  clear B D TE TW ho Y
  wrow_args hpre hlay hrd hwl hlo
  refine enter_call ?_
  rename_i ns _ _ _ _ _ _ _ l _ _ _ _ w1 _ _ _ hlen _
  have hlen' : ns.length ≤ 63 := by
    have : ¬ ((63 : Nat) : Int) < ((ns.length : Nat) : Int) := by assumption
    (first | lia | omega)
  have h3 : s₁.heap.get? 3 = _ := KX 3 _ rfl
  have TT : Tops (cx1 w mb) s₁.heap := by
    refine ⟨?_, T.b, T.nolimit, KX, T.builtins⟩
    obtain ⟨o1, es, ep, ho1, hd1, hk1, hm1⟩ := T.g
    refine ⟨o1, es, ep, ho1, hd1, hk1, fun name => ?_⟩
    obtain rfl := Option.some.inj (h3.symm.trans ho1)
    injection hd1 with e _
    subst e
    rfl
  have hfa : fa = 81 := by
    have h1 := ns_det T.g TT.g (Str.ofString "law")
    rw [hmg'] at h1
    have h2 : (cx1 w mb).mg (Str.ofString "law") = some (.ref 81) := by rfl
    rw [h2] at h1
    cases h1; rfl
  rw [hfa]
  obtain ⟨us, hl1, hl2⟩ := well_list w1
  have hAk : AOk 4 callerA := ⟨rfl, by decide +kernel, by decide +kernel⟩
  have hdl := drawnF_len ns
  refine fn_law w mb ns hlen' _ rfl _ rfl _ _ rfl rfl hdl (law1_all _ hdl.2 _ _) hAk (fun a o => a = l ∧ o = listO us 0) s₁ [.ref l] TT (fun a o e => by rw [e.1, e.2]; exact hl1) (.cons (.list ⟨rfl, rfl⟩ (ints_of_well hl2)) .nil) _ ?_
  intro v h' tk P' S R
  obtain rfl := R.bool_inv
  refine GoodW.toG ⟨.inl ⟨_, .bool true, [], rfl, fun _ => rfl, .bool true, ?_, fun _ => ⟨.nil, by simp⟩⟩, S.ext, rfl, hg⟩
  wrow_post
end
end
end Mine
theorem PySem.Challenge.cw_qc0002_01_holds : PySem.Challenge.rw_qc0002_01.Holds :=
  Mine.join1
