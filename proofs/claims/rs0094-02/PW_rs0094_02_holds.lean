import PyProof.Rows.All
import Wide.All
import OpenK.AllK
import Wide.FinOn
import PySem.Challenge.RW_rs0094_02
set_option Elab.async false
set_option linter.all false

noncomputable section
open PySem PySem.W PyProof.Rows
namespace Mine

mutual
inductive Rp (h : Heap) (S : Addr → Prop) : Value → PyData → Prop
  | none : Rp h S .none .none
  | bool (b) : Rp h S (.bool b) (.bool b)
  | int (i t) : Rp h S (.int i t) (.int i)
  | str (x t) : Rp h S (.str x t) (.str x)
  | list {a vs xs} : h.PlainList a vs → ¬ S a → RpAll h S vs.toList xs → Rp h S (.ref a) (.list xs)
  | tuple {a vs xs} : h.IsTuple a vs → ¬ S a → RpAll h S vs.toList xs → Rp h S (.ref a) (.tuple xs)
inductive RpAll (h : Heap) (S : Addr → Prop) : List Value → List PyData → Prop
  | nil : RpAll h S [] []
  | cons {v vs d ds} : Rp h S v d → RpAll h S vs ds → RpAll h S (v :: vs) (d :: ds)
end

structure Cx where
  prog : Program
  w : World
  mg : Str → Option Value
  mb : Str → Option Value
  fr : Addr → Option Obj
  T : Addr → Prop
  tq : Addr → Int × Int × Str
  base : Nat

noncomputable def CodeObj (h : Heap) (c : Addr) (q : Str) : Prop := ∃ o vs t, h.get? c = some o ∧ o.cls = .type "code" ∧ o.data = .fields vs ∧ vs[1]? = some (.str q t)
noncomputable def TabOk (C : Cx) (h : Heap) : Prop := ∀ P, C.T P → h.get? P = some (tabObj #[]) ∨ ∃ c, h.get? P = some (tabObj #[.int (C.tq P).1 0, .int (C.tq P).2.1 0, .ref c]) ∧ CodeObj h c (C.tq P).2.2

structure Inv (C : Cx) (s : Shared) : Prop where
  g : s.heap.Ns mainGlobals C.mg
  b : s.heap.Ns builtinsNs C.mb
  lim : s.heap.NoLimit
  fr : ∀ a o, C.fr a = some o → s.heap.get? a = some o
  tab : TabOk C s.heap
  tok : 1 ≤ s.toks

structure Wf (C : Cx) : Prop where
  fr : ∀ a o, C.fr a = some o → a < C.base ∧ ¬ C.T a
  tlt : ∀ a, C.T a → a < C.base
  low : 3 < C.base
  last : ∃ o, C.fr (C.base - 1) = some o
  t0 : ¬ C.T 0
  t2 : ¬ C.T 2
  t3 : ¬ C.T 3

structure KB (C : Cx) (Mu : Addr → Prop) (s s' : Shared) : Prop where
  keep : ∀ b o, s.heap.get? b = some o → ¬ Mu b → ¬ (C.T b ∧ o.cls = .none) → s'.heap.get? b = some o
  tab : TabOk C s.heap → TabOk C s'.heap
  live : ∀ b o, s.heap.get? b = some o → ¬ Mu b → ∃ o', s'.heap.get? b = some o'
  gens : ∀ (g : Nat) (st : GenState), s.gens[g]? = some st → s'.gens[g]? = some st
  gsize : s.gens.size ≤ s'.gens.size
  bare : AllBare s.gens → AllBare s'.gens
  os : s'.os = s.os
  tok : s.toks ≤ s'.toks

noncomputable abbrev No : Addr → Prop := fun _ => False

variable {C : Cx} {Mu Mu' : Addr → Prop} {s s' s'' : Shared} {S S' : Addr → Prop}

theorem KB.refl : KB C Mu s s := ⟨fun _ _ e _ _ => e, id, fun _ o e _ => ⟨o, e⟩, fun _ _ e => e, Nat.le_refl _, id, rfl, Nat.le_refl _⟩
theorem KB.trans (x : KB C Mu s s') (y : KB C Mu s' s'') : KB C Mu s s'' :=
  ⟨fun b o e m t => y.keep b o (x.keep b o e m t) m t, fun q => y.tab (x.tab q), fun b o e m => let ⟨o', e'⟩ := x.live b o e m; y.live b o' e' m, fun g st e => y.gens g st (x.gens g st e), Nat.le_trans x.gsize y.gsize, fun q => y.bare (x.bare q), y.os.trans x.os, Nat.le_trans x.tok y.tok⟩
theorem KB.mono (x : KB C Mu s s') (h : ∀ a, Mu a → Mu' a) : KB C Mu' s s' :=
  ⟨fun b o e m t => x.keep b o e (fun q => m (h b q)) t, x.tab, fun b o e m => x.live b o e fun q => m (h b q), x.gens, x.gsize, x.bare, x.os, x.tok⟩
theorem KB.no (x : KB C No s s') : KB C Mu s s' := x.mono fun _ q => False.elim q
theorem KB.retok {t : Nat} (x : KB C Mu s s') (ht : s.toks ≤ t) : KB C Mu s { s' with toks := t } := ⟨x.keep, x.tab, x.live, x.gens, x.gsize, x.bare, x.os, ht⟩
theorem KB.toks {t : Nat} (x : KB C Mu s s') (ht : s'.toks ≤ t) : KB C Mu s { s' with toks := t } := ⟨x.keep, x.tab, x.live, x.gens, x.gsize, x.bare, x.os, Nat.le_trans x.tok ht⟩
theorem KB.toks0 {t : Nat} (ht : s.toks ≤ t := by first | assumption | exact Nat.le_refl _ | exact Nat.le_succ _ | lia | (simp; lia)) : KB C Mu s { s with toks := t } := KB.refl.toks ht

theorem CodeObj.keeps {h h' : Heap} {c : Addr} {q : Str} (x : CodeObj h c q) (k : ∀ b o, h.get? b = some o → h'.get? b = some o) : CodeObj h' c q :=
  let ⟨o, vs, t, a, b, d, e⟩ := x; ⟨o, vs, t, k _ _ a, b, d, e⟩
theorem TabOk.keeps {h h' : Heap} (x : TabOk C h) (k : ∀ b o, h.get? b = some o → h'.get? b = some o) : TabOk C h' := fun P hP => by
  rcases x P hP with e | ⟨c, e, co⟩
  · exact .inl (k _ _ e)
  · exact .inr ⟨c, k _ _ e, co.keeps k⟩

noncomputable def Loose (o : Obj) : Prop := (∀ vs, o.data ≠ .fields vs) ∨ (o.cls ≠ .none ∧ o.cls ≠ .type "code")
theorem Loose.ne_tab {o : Obj} (x : Loose o) (vs : Array Value) : o ≠ tabObj vs := by
  rintro rfl
  rcases x with q | q
  · exact q vs rfl
  · exact q.1 rfl
theorem TabOk.upd {h h' : Heap} {a : Addr} {o : Obj} (x : TabOk C h) (k : Heap.ExtBut a h h') (e : h.get? a = some o) (l : Loose o) : TabOk C h' := fun P hP => by
  rcases x P hP with q | ⟨c, q, oc, vs, t, ho, hc, hd, hn⟩
  · exact .inl (k P _ (fun z => l.ne_tab _ (by subst z; rw [e] at q; exact Option.some.inj q)) q)
  · refine .inr ⟨c, k P _ (fun z => l.ne_tab _ (by subst z; rw [e] at q; exact Option.some.inj q)) q, oc, vs, t, k c _ (fun z => ?_) ho, hc, hd, hn⟩
    subst z
    rw [e] at ho
    have := Option.some.inj ho
    subst this
    rcases l with q | q
    · exact q _ hd
    · exact q.2 hc

theorem KB.grow {h' : Heap} {t : Nat} (k : ∀ b o, s.heap.get? b = some o → h'.get? b = some o) (ht : s.toks ≤ t := by first | assumption | exact Nat.le_refl _ | exact Nat.le_succ _ | lia | (simp; lia)) : KB C Mu s { s with heap := h', toks := t } :=
  ⟨fun b o e _ _ => k b o e, fun q => q.keeps k, fun b o e _ => ⟨o, k b o e⟩, fun _ _ e => e, Nat.le_refl _, id, rfl, ht⟩
theorem KB.push {o : Obj} {t : Nat} (ht : s.toks ≤ t := by first | assumption | exact Nat.le_refl _ | exact Nat.le_succ _ | lia | (simp; lia)) : KB C Mu s { s with heap := s.heap.push o, toks := t } :=
  KB.grow (fun _ _ e => Heap.get?_push_of_some _ e) ht
theorem KB.upd {h' : Heap} {a : Addr} {o : Obj} {t : Nat} (k : Heap.ExtBut a s.heap h') (e : s.heap.get? a = some o) (l : Loose o) (m : Mu a) (ht : s.toks ≤ t := by first | assumption | exact Nat.le_refl _ | exact Nat.le_succ _ | lia | (simp; lia)) : KB C Mu s { s with heap := h', toks := t } :=
  ⟨fun b o e q _ => k b o (fun x => q (x ▸ m)) e, fun q => q.upd k e l, fun b o e q => ⟨o, k b o (fun x => q (x ▸ m)) e⟩, fun _ _ e => e, Nat.le_refl _, id, rfl, ht⟩

noncomputable def SeqCls (o : Obj) : Prop := o.cls = .type "list" ∨ o.cls = .type "tuple"
theorem SeqCls.ne {o : Obj} (h : SeqCls o) : o.cls ≠ .none := fun z => by rcases h with h | h <;> rw [h] at z <;> cases z
noncomputable def SeqDat (o : Obj) : Prop := ∃ xs n, o.data = .seq xs n
noncomputable def KeepSeq (h h' : Heap) (S S' : Addr → Prop) : Prop := ∀ b o, h.get? b = some o → ¬ S b → SeqCls o → SeqDat o → h'.get? b = some o ∧ ¬ S' b
theorem plain_map {h h' : Heap} {a : Addr} {vs : Array Value} (k : KeepSeq h h' S S') (p : h.PlainList a vs) (m : ¬ S a) : h'.PlainList a vs ∧ ¬ S' a :=
  Exists.elim p fun n e => ⟨⟨n, (k _ _ e m (.inl rfl) ⟨_, _, rfl⟩).1⟩, (k _ _ e m (.inl rfl) ⟨_, _, rfl⟩).2⟩
theorem tuple_map {h h' : Heap} {a : Addr} {vs : Array Value} (k : KeepSeq h h' S S') (p : h.IsTuple a vs) (m : ¬ S a) : h'.IsTuple a vs ∧ ¬ S' a :=
  Exists.elim p fun o e => Exists.elim e.2.2 fun n q => ⟨⟨o, (k _ _ e.1 m (.inr e.2.1) ⟨_, _, q⟩).1, e.2⟩, (k _ _ e.1 m (.inr e.2.1) ⟨_, _, q⟩).2⟩
theorem Rp.map {h h' : Heap} {v : Value} {d : PyData} (k : KeepSeq h h' S S') (x : Rp h S v d) : Rp h' S' v d :=
  Rp.rec (motive_1 := fun v d _ => Rp h' S' v d) (motive_2 := fun vs ds _ => RpAll h' S' vs ds) .none .bool .int .str (fun p m _ r => .list (plain_map k p m).1 (plain_map k p m).2 r) (fun p m _ r => .tuple (tuple_map k p m).1 (tuple_map k p m).2 r) .nil (fun _ _ a b => .cons a b) x
theorem RpAll.map {h h' : Heap} {v : List Value} {d : List PyData} (k : KeepSeq h h' S S') (x : RpAll h S v d) : RpAll h' S' v d :=
  RpAll.rec (motive_1 := fun v d _ => Rp h' S' v d) (motive_2 := fun vs ds _ => RpAll h' S' vs ds) .none .bool .int .str (fun p m _ r => .list (plain_map k p m).1 (plain_map k p m).2 r) (fun p m _ r => .tuple (tuple_map k p m).1 (tuple_map k p m).2 r) .nil (fun _ _ a b => .cons a b) x
theorem Rp.kb' {h h' : Heap} {v : Value} {d : PyData} (k : ∀ b o, h.get? b = some o → ¬ S b → SeqCls o → h'.get? b = some o) (x : Rp h S v d) : Rp h' S v d := x.map fun b o e m c _ => ⟨k b o e m c, m⟩
theorem RpAll.kb' {h h' : Heap} {vs : List Value} {ds : List PyData} (k : ∀ b o, h.get? b = some o → ¬ S b → SeqCls o → h'.get? b = some o) (x : RpAll h S vs ds) : RpAll h' S vs ds := x.map fun b o e m c _ => ⟨k b o e m c, m⟩
theorem Rp.kb {v : Value} {d : PyData} (x : Rp s.heap S v d) (k : KB C Mu s s') (m : ∀ a, Mu a → S a) : Rp s'.heap S v d :=
  x.kb' fun b o e q c => k.keep b o e (fun z => q (m b z)) fun z => c.ne z.2
theorem RpAll.kb {v : List Value} {d : List PyData} (x : RpAll s.heap S v d) (k : KB C Mu s s') (m : ∀ a, Mu a → S a) : RpAll s'.heap S v d :=
  x.kb' fun b o e q c => k.keep b o e (fun z => q (m b z)) fun z => c.ne z.2
theorem Rp.no {v : Value} {d : PyData} (x : Rp s.heap S v d) (k : KB C No s s') : Rp s'.heap S v d := x.kb k fun _ z => False.elim z
theorem RpAll.no {v : List Value} {d : List PyData} (x : RpAll s.heap S v d) (k : KB C No s s') : RpAll s'.heap S v d := x.kb k fun _ z => False.elim z

theorem Rp.avoid {h : Heap} {v : Value} {d : PyData} (k : ∀ b o, h.get? b = some o → ¬ S b → ¬ S' b) (x : Rp h S v d) : Rp h S' v d := x.map fun b o e m _ _ => ⟨e, k b o e m⟩
theorem RpAll.avoid {h : Heap} {vs : List Value} {ds : List PyData} (k : ∀ b o, h.get? b = some o → ¬ S b → ¬ S' b) (x : RpAll h S vs ds) : RpAll h S' vs ds := x.map fun b o e m _ _ => ⟨e, k b o e m⟩
theorem Rp.inv {h : Heap} {v : Value} {d : PyData} (x : Rp h S v d) : match d with
    | .none => v = .none
    | .bool b => v = .bool b
    | .int i => ∃ t, v = .int i t
    | .str x => ∃ t, v = .str x t
    | .list xs => ∃ a vs, v = .ref a ∧ h.PlainList a vs ∧ ¬ S a ∧ RpAll h S vs.toList xs
    | .tuple xs => ∃ a vs, v = .ref a ∧ h.IsTuple a vs ∧ ¬ S a ∧ RpAll h S vs.toList xs
    | .dict _ => False := by
  cases x with
  | none => rfl
  | bool b => rfl
  | int i t => exact ⟨t, rfl⟩
  | str x t => exact ⟨t, rfl⟩
  | list p m r => exact ⟨_, _, rfl, p, m, r⟩
  | tuple p m r => exact ⟨_, _, rfl, p, m, r⟩
theorem Rp.int_inv {h : Heap} {v : Value} {i : Int} (x : Rp h S v (.int i)) : ∃ t, v = .int i t := x.inv
theorem Rp.str_inv {h : Heap} {v : Value} {i : Str} (x : Rp h S v (.str i)) : ∃ t, v = .str i t := x.inv
theorem Rp.bool_inv {h : Heap} {v : Value} {b : Bool} (x : Rp h S v (.bool b)) : v = .bool b := x.inv
theorem Rp.none_inv {h : Heap} {v : Value} (x : Rp h S v .none) : v = .none := x.inv
theorem Rp.list_inv {h : Heap} {v : Value} {xs : List PyData} (x : Rp h S v (.list xs)) : ∃ a vs, v = .ref a ∧ h.PlainList a vs ∧ ¬ S a ∧ RpAll h S vs.toList xs := x.inv
theorem Rp.tuple_inv {h : Heap} {v : Value} {xs : List PyData} (x : Rp h S v (.tuple xs)) : ∃ a vs, v = .ref a ∧ h.IsTuple a vs ∧ ¬ S a ∧ RpAll h S vs.toList xs := x.inv
theorem RpAll.inv {h : Heap} {vs : List Value} {ds : List PyData} (x : RpAll h S vs ds) : match ds with
    | [] => vs = []
    | d :: ds => ∃ v t, vs = v :: t ∧ Rp h S v d ∧ RpAll h S t ds := by
  cases x with
  | nil => rfl
  | cons a b => exact ⟨_, _, rfl, a, b⟩
theorem RpAll.one {h : Heap} {vs : List Value} {d : PyData} (x : RpAll h S vs [d]) : ∃ v, vs = [v] ∧ Rp h S v d := by
  obtain ⟨v, t, e, a, b⟩ := RpAll.inv (ds := [d]) x
  have q : t = [] := RpAll.inv (ds := []) b
  exact ⟨v, by rw [e, q], a⟩
theorem RpAll.two {h : Heap} {vs : List Value} {d d' : PyData} (x : RpAll h S vs [d, d']) : ∃ v w, vs = [v, w] ∧ Rp h S v d ∧ Rp h S w d' := by
  obtain ⟨v, t, e, a, b⟩ := RpAll.inv (ds := [d, d']) x
  obtain ⟨w, q, c⟩ := RpAll.one b
  exact ⟨v, w, by rw [e, q], a, c⟩
theorem RpAll.three {h : Heap} {vs : List Value} {d d' d'' : PyData} (x : RpAll h S vs [d, d', d'']) : ∃ v w u, vs = [v, w, u] ∧ Rp h S v d ∧ Rp h S w d' ∧ Rp h S u d'' := by
  obtain ⟨v, t, e, a, b⟩ := RpAll.inv (ds := [d, d', d'']) x
  obtain ⟨w, u, q, c, f⟩ := RpAll.two b
  exact ⟨v, w, u, by rw [e, q], a, c, f⟩
theorem RpAll.length {h : Heap} {vs : List Value} {ds : List PyData} (x : RpAll h S vs ds) : vs.length = ds.length :=
  RpAll.rec (motive_1 := fun _ _ _ => True) (motive_2 := fun vs ds _ => vs.length = ds.length) trivial (fun _ => trivial) (fun _ _ => trivial) (fun _ _ => trivial) (fun _ _ _ _ => trivial) (fun _ _ _ _ => trivial) rfl (fun _ _ _ b => congrArg (· + 1) b) x
theorem RpAll.get {h : Heap} {vs : List Value} {ds : List PyData} (x : RpAll h S vs ds) : ∀ {i : Nat} {d : PyData}, ds[i]? = some d → ∃ v, vs[i]? = some v ∧ Rp h S v d :=
  RpAll.rec (motive_1 := fun _ _ _ => True) (motive_2 := fun vs ds _ => ∀ {i : Nat} {d : PyData}, ds[i]? = some d → ∃ v, vs[i]? = some v ∧ Rp h S v d) trivial (fun _ => trivial) (fun _ _ => trivial) (fun _ _ => trivial) (fun _ _ _ _ => trivial) (fun _ _ _ _ => trivial)
    (fun e => nomatch e) (fun {v _ _ _} a _ _ b {i} {_} e => match i, e with
      | 0, e => ⟨v, rfl, Option.some.inj e ▸ a⟩
      | _ + 1, e => b e) x
theorem RpAll.append {h : Heap} {ws : List Value} {es : List PyData} (y : RpAll h S ws es) {vs : List Value} {ds : List PyData} (x : RpAll h S vs ds) : RpAll h S (vs ++ ws) (ds ++ es) :=
  RpAll.rec (motive_1 := fun _ _ _ => True) (motive_2 := fun vs ds _ => RpAll h S (vs ++ ws) (ds ++ es)) trivial (fun _ => trivial) (fun _ _ => trivial) (fun _ _ => trivial) (fun _ _ _ _ => trivial) (fun _ _ _ _ => trivial) y (fun a _ _ b => .cons a b) x
theorem RpAll.reverse {h : Heap} {vs : List Value} {ds : List PyData} (x : RpAll h S vs ds) : RpAll h S vs.reverse ds.reverse :=
  RpAll.rec (motive_1 := fun _ _ _ => True) (motive_2 := fun vs ds _ => RpAll h S vs.reverse ds.reverse) trivial (fun _ => trivial) (fun _ _ => trivial) (fun _ _ => trivial) (fun _ _ _ _ => trivial) (fun _ _ _ _ => trivial) .nil (fun a _ _ b => by rw [List.reverse_cons, List.reverse_cons]; exact RpAll.append (.cons a .nil) b) x

theorem Rp.reads {h : Heap} {v : Value} {d : PyData} (x : Rp h S v d) : ∃ as, Reads h v d as :=
  Rp.rec (motive_1 := fun v d _ => ∃ as, Reads h v d as) (motive_2 := fun vs ds _ => ∃ as, ReadsAll h vs ds as) ⟨_, .none⟩ (fun b => ⟨_, .bool b⟩) (fun i t => ⟨_, .int i t⟩) (fun x t => ⟨_, .str x t⟩)
    (fun p _ _ z => Exists.elim p fun _ e => Exists.elim z fun _ z => ⟨_, .list e rfl rfl z⟩) (fun p _ _ z => Exists.elim p fun _ e => Exists.elim e.2.2 fun _ q => Exists.elim z fun _ z => ⟨_, .tuple e.1 e.2.1 q z⟩)
    ⟨_, .nil⟩ (fun _ _ x y => Exists.elim x fun _ x => Exists.elim y fun _ y => ⟨_, .cons x y⟩) x

theorem Ns.kb {a : Addr} {m : Str → Option Value} (x : s.heap.Ns a m) (k : KB C Mu s s') (h1 : ¬ Mu a) (h2 : ¬ C.T a) : s'.heap.Ns a m :=
  let ⟨o, es, n, e, r⟩ := x; ⟨o, es, n, k.keep _ _ e h1 fun z => h2 z.1, r⟩
theorem Inv.kb (W : Wf C) (x : Inv C s) (k : KB C Mu s s') (m : ∀ a, Mu a → C.base ≤ a) : Inv C s' where
  g := Ns.kb x.g k (fun z => absurd (m _ z) (Nat.not_le.mpr W.low)) W.t3
  b := Ns.kb x.b k (fun z => absurd (m _ z) (by have := W.low; show ¬ C.base ≤ 0; lia)) W.t0
  lim := let ⟨mc, a, b⟩ := x.lim; ⟨mc, Ns.kb a k (fun z => absurd (m _ z) (by have := W.low; show ¬ C.base ≤ 2; lia)) W.t2, b⟩
  fr := fun a o e => k.keep _ _ (x.fr a o e) (fun z => absurd (m _ z) (Nat.not_le.mpr (W.fr a o e).1)) fun z => (W.fr a o e).2 z.1
  tab := k.tab x.tab
  tok := Nat.le_trans x.tok k.tok
noncomputable def Live (h : Heap) (S : Addr → Prop) : Prop := ∀ a, S a → ∃ o, h.get? a = some o
theorem Live.no (x : Live s.heap S) (k : KB C No s s') : Live s'.heap S := fun a z => let ⟨o, e⟩ := x a z; k.live a o e fun q => q
theorem Live.upd {h h' : Heap} {a : Addr} (x : Live h S) (k : Heap.ExtBut a h h') (z : ∃ o', h'.get? a = some o') : Live h' S := fun b q => if h : b = a then h ▸ z else let ⟨o, e⟩ := x b q; ⟨o, k b o h e⟩
theorem Live.fresh {h : Heap} (x : Live h S) : ¬ S h.objs.size := fun z => let ⟨_, e⟩ := x _ z; absurd (Heap.lt_size e) (Nat.lt_irrefl _)
theorem Inv.big (W : Wf C) (x : Inv C s) : C.base ≤ s.heap.objs.size := by
  obtain ⟨o, e⟩ := W.last
  have q : (C.base - 1 : Nat) < (s.heap.objs.size : Nat) := Heap.lt_size (x.fr _ _ e)
  have := W.low
  lia
theorem Inv.no (W : Wf C) (x : Inv C s) (k : KB C No s s') : Inv C s' := x.kb W k fun _ z => False.elim z
end Mine
end

noncomputable section
open PySem PySem.W PyProof.Rows
namespace Mine

noncomputable abbrev allW : Str → Bool := fun _ => true

inductive Sl where
  | un
  | v (d : PyData)
  | own (xs : List PyData)

noncomputable def SlotAt (h : Heap) (lo : Nat) (S : Addr → Prop) : Sl → Option Value → Prop
  | .un, _ => True
  | .v d, vo => ∃ v, vo = some v ∧ Rp h S v d
  | .own xs, vo => ∃ a vs, vo = some (.ref a) ∧ S a ∧ lo ≤ a ∧ h.PlainList a vs ∧ RpAll h S vs.toList xs

structure FrameOk (C : Cx) (sc : Scope) (ns : List Str) (fn : Str → Bool) (env : Env) (lo : Nat) (S : Addr → Prop) (Γ : List Sl) (h : Heap) : Prop where
  scope : env.scope = sc
  kind : sc.kind = .function
  glob : env.globals = mainGlobals
  blt : env.builtins = builtinsNs
  nd : ns.Nodup
  loc : ∃ m, h.Ns env.locals m ∧ ∀ (i : Nat) x, ns[i]? = some x → sc.names.lookup x = some .local → SlotAt h lo S (Γ.getD i .un) (m x)
  cel : ∀ (i : Nat) x, ns[i]? = some x → sc.names.lookup x ≠ some .local → (sc.names.lookup x = some .cell ∨ (sc.names.lookup x = some .free ∧ (x == ("__classdict__" : Str)) = false)) ∧
    ∃ c vo, env.cells.lookup x = some c ∧ h.IsCell c vo ∧ SlotAt h lo S (Γ.getD i .un) vo
  apart : ∀ x y c, env.cells.lookup x = some c → env.cells.lookup y = some c → x = y
  locS : S env.locals ∧ lo ≤ env.locals
  celS : ∀ x c, env.cells.lookup x = some c → S c
  celC : ∀ x c, env.cells.lookup x = some c → ∃ vo, h.IsCell c vo
  celM : ∀ x c, fn x = true → env.cells.lookup x = some c → lo ≤ c
  bd : Live h S
  bs : ∀ a, S a → C.base ≤ a
  nofree : ∀ x ∈ ns, fn x = true → sc.names.lookup x ≠ some .free
  lob : C.base ≤ lo
  one : ∀ (i j : Nat) xs ys, Γ[i]? = some (.own xs) → Γ[j]? = some (.own ys) → i = j

structure Room (A : Around) (k : Nat) : Prop where
  depth : A.depth + k < recursionLimit
  units : A.units + 10 * k + 200 < cLine
  handled : A.handled = none

theorem Room.le {A : Around} {k k' : Nat} (r : Room A k) (h : k' ≤ k) : Room A k' := ⟨by have := r.depth; lia, by have := r.units; lia, r.handled⟩
theorem Room.deeper {A : Around} {k : Nat} (env : Env) (r : Room A (k + 1)) : Room (A.deeper env) k :=
  ⟨by have := r.depth; show A.depth + 1 + k < _; lia, by have := r.units; show A.units + 3 + 10 * k + 200 < _; lia, r.handled⟩

variable {C : Cx} {k : Nat} {sc : Scope} {ns : List Str} {fn : Str → Bool} {env : Env} {lo : Nat} {S : Addr → Prop} {Γ : List Sl} {s s' s'' : Shared} {A : Around} {Mu : Addr → Prop} {e : Expr} {d : PyData}

theorem SlotAt.no {sl : Sl} {vo : Option Value} (x : SlotAt s.heap lo S sl vo) (k : KB C No s s') : SlotAt s'.heap lo S sl vo := by
  cases sl with
  | un => trivial
  | v d => obtain ⟨v, e, r⟩ := x; exact ⟨v, e, r.no k⟩
  | own xs =>
    obtain ⟨a, vs, e, h1, h2, ⟨n, ho⟩, r⟩ := x
    exact ⟨a, vs, e, h1, h2, ⟨n, k.keep _ _ ho (fun z => z) (fun z => by cases z.2)⟩, r.no k⟩
theorem IsCell.no {c : Addr} {vo : Option Value} (x : s.heap.IsCell c vo) (k : KB C No s s') (W : Wf C) (h : C.base ≤ c) : s'.heap.IsCell c vo :=
  let ⟨o, ho, hd⟩ := x; ⟨o, k.keep _ _ ho (fun z => z) (fun z => absurd (W.tlt _ z.1) (Nat.not_lt.mpr h)), hd⟩
theorem FrameOk.no (W : Wf C) (F : FrameOk C sc ns fn env lo S Γ s.heap) (k : KB C No s s') : FrameOk C sc ns fn env lo S Γ s'.heap where
  scope := F.scope
  kind := F.kind
  glob := F.glob
  blt := F.blt
  nd := F.nd
  loc := let ⟨m, hn, h⟩ := F.loc; ⟨m, Ns.kb hn k (fun z => z) (fun z => absurd (W.tlt _ z) (Nat.not_lt.mpr (F.bs _ F.locS.1))), fun i x e q => (h i x e q).no k⟩
  cel := fun i x e q => let ⟨h1, c, vo, h2, h3, h4⟩ := F.cel i x e q; ⟨h1, c, vo, h2, IsCell.no h3 k W (F.bs _ (F.celS _ _ h2)), h4.no k⟩
  apart := F.apart
  locS := F.locS
  celS := F.celS
  celC := fun x c e => let ⟨vo, q⟩ := F.celC x c e; ⟨vo, IsCell.no q k W (F.bs _ (F.celS _ _ e))⟩
  celM := F.celM
  bd := F.bd.no k
  bs := F.bs
  nofree := F.nofree
  lob := F.lob
  one := F.one

noncomputable def Ev (C : Cx) (k : Nat) (sc : Scope) (ns : List Str) (Γ : List Sl) (e : Expr) (d : PyData) : Prop :=
  ∀ A env fn lo S s, Room A k → Inv C s → FrameOk C sc ns fn env lo S Γ s.heap →
    wpAny (model C.prog C.w) A (eval e env) (fun v s' => KB C No s s' ∧ Rp s'.heap S v d) (fun _ _ => False) s
noncomputable def Ts (C : Cx) (k : Nat) (sc : Scope) (ns : List Str) (Γ : List Sl) (e : Expr) (b : Bool) : Prop :=
  ∀ A env fn lo S s, Room A k → Inv C s → FrameOk C sc ns fn env lo S Γ s.heap →
    wpAny (model C.prog C.w) A (isTrue e env (eval e env)) (fun r s' => KB C No s s' ∧ r = b) (fun _ _ => False) s

section
variable {α : Type} {t : Sem α} {P Q : α → Shared → Prop}
theorem wq (h : wpAny (model C.prog C.w) A t P (fun _ _ => False) s) {E : Value → Shared → Prop} (q : ∀ a s', P a s' → Q a s') : wpAny (model C.prog C.w) A t Q E s :=
  wpAny_mono h q fun _ _ z => False.elim z
end

theorem Ev.go (W : Wf C) (x : Ev C k sc ns Γ e d) (r : Room A k) (I : Inv C s) (F : FrameOk C sc ns fn env lo S Γ s.heap) {Q : Value → Shared → Prop} {E : Value → Shared → Prop}
    (q : ∀ v s', KB C No s s' → Rp s'.heap S v d → Inv C s' → FrameOk C sc ns fn env lo S Γ s'.heap → Q v s') : wpAny (model C.prog C.w) A (eval e env) Q E s :=
  wq (x A env fn lo S s r I F) fun v s' ⟨k, p⟩ => q v s' k p (I.no W k) (F.no W k)
theorem Ts.go (W : Wf C) {b : Bool} (x : Ts C k sc ns Γ e b) (r : Room A k) (I : Inv C s) (F : FrameOk C sc ns fn env lo S Γ s.heap) {Q : Bool → Shared → Prop} {E : Value → Shared → Prop}
    (q : ∀ s', KB C No s s' → Inv C s' → FrameOk C sc ns fn env lo S Γ s'.heap → Q b s') : wpAny (model C.prog C.w) A (isTrue e env (eval e env)) Q E s :=
  wq (x A env fn lo S s r I F) fun v s' ⟨k, p⟩ => p ▸ q s' k (I.no W k) (F.no W k)

theorem Ev.int {i : Int} {kk : Nat} {p : Pos} : Ev C k sc ns Γ (.Constant (.int i) kk p) (.int i) :=
  fun _ _ _ _ _ _ _ _ _ => wpAny_Constant_int ⟨KB.toks0, .int _ _⟩
theorem Ev.str {x : Str} {kk : Nat} {p : Pos} : Ev C k sc ns Γ (.Constant (.str x) kk p) (.str x) :=
  fun _ _ _ _ _ _ _ _ _ => Calls.Constant_str ⟨KB.toks0, .str _ _⟩
theorem Ev.bool {b : Bool} {kk : Nat} {p : Pos} : Ev C k sc ns Γ (.Constant (.bool b) kk p) (.bool b) :=
  fun _ _ _ _ _ _ _ _ _ => (fun _ _ _ => ⟨KB.refl, .bool _⟩)
theorem Ev.none {kk : Nat} {p : Pos} : Ev C k sc ns Γ (.Constant .none kk p) .none :=
  fun _ _ _ _ _ _ _ _ _ => (fun _ _ _ => ⟨KB.refl, .none⟩)

theorem frame_load (F : FrameOk C sc ns fn env lo S Γ s.heap) {x : Str} {i : Nat} (hx : ns[i]? = some x) (hv : Γ[i]? = some (.v d)) {Q : Value → Shared → Prop} {E : Value → Shared → Prop}
    (q : ∀ v, Rp s.heap S v d → Q v s) : wpAny (model C.prog C.w) A (loadName env x) Q E s := by
  have hg : Γ.getD i .un = .v d := by rw [List.getD_eq_getElem?_getD, hv]; rfl
  have hk : env.kindOf x = sc.names.lookup x := by unfold Env.kindOf; rw [F.scope]
  have hf : env.scope.kind = .function := by rw [F.scope]; exact F.kind
  by_cases hl : sc.names.lookup x = some .local
  · obtain ⟨m, hn, h⟩ := F.loc
    have z := h i x hx hl
    rw [hg] at z
    obtain ⟨v, e, r⟩ := z
    exact wpAny_loadName_local hf (hk.trans hl) hn e (q v r)
  · obtain ⟨h1, c, vo, h2, h3, h4⟩ := F.cel i x hx hl
    rw [hg] at h4
    obtain ⟨v, e, r⟩ := h4
    subst e
    rcases h1 with h1 | ⟨h1, h5⟩
    · exact wpAny_loadName_cell hf (hk.trans h1) h2 h3 (q v r)
    · exact wpAny_loadName_free hf (hk.trans h1) h2 h3 (q v r) h5
theorem Ev.loc {x : Str} {p : Pos} (i : Nat) (hx : ns[i]? = some x := by rfl) (hv : Γ[i]? = some (.v d) := by rfl) (hd : (x == ("__debug__" : Str)) = false := by decide) : Ev C k sc ns Γ (.Name x p) d :=
  fun _ _ _ _ _ _ _ _ F => wpAny_Name (frame_load F hx hv fun _ r => ⟨KB.refl, r⟩) hd
theorem Ev.globInt {x : Str} {p : Pos} {n : Int} {t : Tok} (hk : sc.names.lookup x = some .globalImplicit) (hv : C.mg x = some (.int n t)) (hd : (x == ("__debug__" : Str)) = false := by decide) : Ev C k sc ns Γ (.Name x p) (.int n) :=
  fun _ _ _ _ _ _ _ I F => Calls.Name_function_global (by rw [F.scope]; exact F.kind) (by unfold Env.kindOf; rw [F.scope]; exact hk) (Calls.loadGlobal_global (by rw [F.glob]; exact I.g) hv ⟨KB.refl, .int _ _⟩) hd

noncomputable def BinOk (C : Cx) (k : Nat) (op : Operator) (da db dc : PyData) : Prop :=
  ∀ A S s va vb, Room A k → Inv C s → Rp s.heap S va da → Rp s.heap S vb db → Live s.heap S → wpAny (model C.prog C.w) A (binaryOp op va vb) (fun v s' => KB C No s s' ∧ Rp s'.heap S v dc) (fun _ _ => False) s
theorem Ev.bin (W : Wf C) {l r : Expr} {op : Operator} {p : Pos} {da db dc : PyData} (hl : Ev C k sc ns Γ l da) (hr : Ev C k sc ns Γ r db) (ho : BinOk C k op da db dc) : Ev C k sc ns Γ (.BinOp l op r p) dc :=
  fun A env fn lo S s R I F => wpAny_BinOp (hl.go W R I F fun va s₁ k₁ ra I₁ F₁ => hr.go W R I₁ F₁ fun vb s₂ k₂ rb I₂ F₂ =>
    wq (ho A S s₂ va vb R I₂ (ra.no k₂) rb F₂.bd) fun v s' ⟨k₃, q⟩ => ⟨(k₁.trans k₂).trans k₃, q⟩)

noncomputable def CmpOk (C : Cx) (k : Nat) (op : CmpOp) (da db : PyData) (b : Bool) : Prop :=
  ∀ A S s va vb, Room A k → Inv C s → Rp s.heap S va da → Rp s.heap S vb db → wpAny (model C.prog C.w) A (compareOp op va vb) (fun v s' => KB C No s s' ∧ v = .bool b) (fun _ _ => False) s
theorem Ev.cmp (W : Wf C) {l r : Expr} {op : CmpOp} {p : Pos} {da db : PyData} {b : Bool} (hl : Ev C k sc ns Γ l da) (hr : Ev C k sc ns Γ r db) (ho : CmpOk C k op da db b) (hm : behindInMarks op r = false := by rfl) :
    Ev C k sc ns Γ (.Compare l [op] [r] p) (.bool b) :=
  fun A env fn lo S s R I F => wpAny_Compare1 (hl.go W R I F fun va s₁ k₁ ra I₁ F₁ => hr.go W R I₁ F₁ fun vb s₂ k₂ rb I₂ F₂ =>
    wq (ho A S s₂ va vb R I₂ (ra.no k₂) rb) fun v s' ⟨k₃, q⟩ => ⟨(k₁.trans k₂).trans k₃, q ▸ .bool b⟩) hm
theorem Ts.cmp (W : Wf C) {l r : Expr} {op : CmpOp} {p : Pos} {da db : PyData} {b : Bool} (hl : Ev C k sc ns Γ l da) (hr : Ev C k sc ns Γ r db) (ho : CmpOk C k op da db b) (hm : behindInMarks op r = false := by rfl) :
    Ts C k sc ns Γ (.Compare l [op] [r] p) b :=
  fun A env fn lo S s R I F => wpAny_isTrue_Compare1 (hl.go W R I F fun va s₁ k₁ ra I₁ F₁ => hr.go W R I₁ F₁ fun vb s₂ k₂ rb I₂ F₂ =>
    wq (ho A S s₂ va vb R I₂ (ra.no k₂) rb) fun v s' ⟨k₃, q⟩ => q ▸ wpAny_truthy_bool ⟨(k₁.trans k₂).trans k₃, rfl⟩) hm

section ops
variable {a b : Int}
theorem BinOk.add : BinOk C k .Add (.int a) (.int b) (.int (a + b)) := fun _ _ _ _ _ _ _ ha hb _ => by obtain ⟨_, rfl⟩ := ha.int_inv; obtain ⟨_, rfl⟩ := hb.int_inv; exact add_int ⟨KB.toks0, .int _ _⟩
theorem BinOk.sub : BinOk C k .Sub (.int a) (.int b) (.int (a - b)) := fun _ _ _ _ _ _ _ ha hb _ => by obtain ⟨_, rfl⟩ := ha.int_inv; obtain ⟨_, rfl⟩ := hb.int_inv; exact sub_int ⟨KB.toks0, .int _ _⟩
theorem BinOk.mul (h : IntMulOk a b) : BinOk C k .Mult (.int a) (.int b) (.int (a * b)) := fun _ _ _ _ _ _ _ ha hb _ => by obtain ⟨_, rfl⟩ := ha.int_inv; obtain ⟨_, rfl⟩ := hb.int_inv; exact mul_int ⟨KB.toks0, .int _ _⟩ h
theorem BinOk.fdiv (h : b ≠ 0) (h2 : Builtin.divisionGoesByPylong a b = false) : BinOk C k .FloorDiv (.int a) (.int b) (.int (a.fdiv b)) := fun _ _ _ _ _ _ _ ha hb _ => by obtain ⟨_, rfl⟩ := ha.int_inv; obtain ⟨_, rfl⟩ := hb.int_inv; exact floordiv_int h ⟨KB.toks0, .int _ _⟩ (.inl h2)
theorem BinOk.fmod (h : b ≠ 0) : BinOk C k .Mod (.int a) (.int b) (.int (a.fmod b)) := fun _ _ _ _ _ _ _ ha hb _ => by obtain ⟨_, rfl⟩ := ha.int_inv; obtain ⟨_, rfl⟩ := hb.int_inv; exact mod_int h ⟨KB.toks0, .int _ _⟩
theorem BinOk.shl (h : 0 ≤ b) (h2 : (Builtin.Int.intBits a : Int) + b ≤ 2 ^ 27) : BinOk C k .LShift (.int a) (.int b) (.int (a * 2 ^ b.toNat)) := fun _ _ _ _ _ _ _ ha hb _ => by obtain ⟨_, rfl⟩ := ha.int_inv; obtain ⟨_, rfl⟩ := hb.int_inv; exact lshift_int h h2 ⟨KB.toks0, .int _ _⟩
theorem BinOk.shr (h : 0 ≤ b) : BinOk C k .RShift (.int a) (.int b) (.int (a.fdiv (2 ^ b.toNat))) := fun _ _ _ _ _ _ _ ha hb _ => by obtain ⟨_, rfl⟩ := ha.int_inv; obtain ⟨_, rfl⟩ := hb.int_inv; exact rshift_int h ⟨KB.toks0, .int _ _⟩
theorem BinOk.and : BinOk C k .BitAnd (.int a) (.int b) (.int (Builtin.bitAnd a b)) := fun _ _ _ _ _ _ _ ha hb _ => by obtain ⟨_, rfl⟩ := ha.int_inv; obtain ⟨_, rfl⟩ := hb.int_inv; exact and_int ⟨KB.toks0, .int _ _⟩
theorem BinOk.or : BinOk C k .BitOr (.int a) (.int b) (.int (Builtin.bitOr a b)) := fun _ _ _ _ _ _ _ ha hb _ => by obtain ⟨_, rfl⟩ := ha.int_inv; obtain ⟨_, rfl⟩ := hb.int_inv; exact or_int ⟨KB.toks0, .int _ _⟩
theorem BinOk.xor : BinOk C k .BitXor (.int a) (.int b) (.int (Builtin.bitXor a b)) := fun _ _ _ _ _ _ _ ha hb _ => by obtain ⟨_, rfl⟩ := ha.int_inv; obtain ⟨_, rfl⟩ := hb.int_inv; exact xor_int ⟨KB.toks0, .int _ _⟩
theorem BinOk.pow (h : 0 ≤ b) (h2 : (Builtin.Int.intBits a : Int) * b ≤ 2 ^ 27) : BinOk C k .Pow (.int a) (.int b) (.int (a ^ b.toNat)) := fun _ _ _ _ _ _ _ ha hb _ => by obtain ⟨_, rfl⟩ := ha.int_inv; obtain ⟨_, rfl⟩ := hb.int_inv; exact pow_int h h2 ⟨KB.toks0, .int _ _⟩
theorem BinOk.cat {x y : Str} (h : x.length + y.length ≤ sizeLine) : BinOk C k .Add (.str x) (.str y) (.str (x ++ y)) := fun _ _ _ _ _ _ _ ha hb _ => by obtain ⟨_, rfl⟩ := ha.str_inv; obtain ⟨_, rfl⟩ := hb.str_inv; exact wpAny_with_toks (Nat.le_refl _) (add_str (fun _ _ ht => ⟨KB.toks0 ht, .str _ _⟩) h)
theorem BinOk.rep {x : Str} {n : Int} (h : MulOk x n) : BinOk C k .Mult (.str x) (.int n) (.str (Txt.mul x n)) := fun _ _ _ _ _ _ _ ha hb _ => by obtain ⟨_, rfl⟩ := ha.str_inv; obtain ⟨_, rfl⟩ := hb.int_inv; exact wpAny_with_toks (Nat.le_refl _) (SB.mul h (fun _ _ ht => ⟨KB.toks0 ht, .str _ _⟩))

theorem CmpOk.lt : CmpOk C k .Lt (.int a) (.int b) (decide (a < b)) := fun _ _ _ _ _ _ _ ha hb => by obtain ⟨_, rfl⟩ := ha.int_inv; obtain ⟨_, rfl⟩ := hb.int_inv; exact lt_int ⟨KB.refl, rfl⟩
theorem CmpOk.le : CmpOk C k .LtE (.int a) (.int b) (decide (a ≤ b)) := fun _ _ _ _ _ _ _ ha hb => by obtain ⟨_, rfl⟩ := ha.int_inv; obtain ⟨_, rfl⟩ := hb.int_inv; exact le_int ⟨KB.refl, rfl⟩
theorem CmpOk.gt : CmpOk C k .Gt (.int a) (.int b) (decide (b < a)) := fun _ _ _ _ _ _ _ ha hb => by obtain ⟨_, rfl⟩ := ha.int_inv; obtain ⟨_, rfl⟩ := hb.int_inv; exact gt_int ⟨KB.refl, rfl⟩
theorem CmpOk.eqi : CmpOk C k .Eq (.int a) (.int b) (a == b) := fun _ _ _ _ _ _ _ ha hb => by obtain ⟨_, rfl⟩ := ha.int_inv; obtain ⟨_, rfl⟩ := hb.int_inv; exact eq_int ⟨KB.refl, rfl⟩
theorem CmpOk.eqs {x y : Str} : CmpOk C k .Eq (.str x) (.str y) (x == y) := fun _ _ _ _ _ _ _ ha hb => by obtain ⟨_, rfl⟩ := ha.str_inv; obtain ⟨_, rfl⟩ := hb.str_inv; exact eq_str ⟨KB.refl, rfl⟩
theorem CmpOk.eq {x y : PyData} (hx : SeqAt.shaped x = true) (hy : SeqAt.shaped y = true) : CmpOk C k .Eq x y (PyData.eqv x y) := fun _ _ _ _ _ R _ ha hb => by
  obtain ⟨_, ra⟩ := ha.reads
  obtain ⟨_, rb⟩ := hb.reads
  exact SeqAt.compareEq_shaped ra rb hx hy (by have := R.units; lia) ⟨KB.refl, rfl⟩
theorem CmpOk.ne {x y : PyData} (hx : SeqAt.shaped x = true) (hy : SeqAt.shaped y = true) : CmpOk C k .NotEq x y (!PyData.eqv x y) := fun _ _ _ _ _ R _ ha hb => by
  obtain ⟨_, ra⟩ := ha.reads
  obtain ⟨_, rb⟩ := hb.reads
  exact SeqAt.compareNe_shaped ra rb hx hy (by have := R.units; lia) ⟨KB.refl, rfl⟩
end ops
end Mine
end

noncomputable section
open PySem PySem.W PyProof.Rows
namespace Mine
variable {C : Cx} {k : Nat} {sc : Scope} {ns : List Str} {fn : Str → Bool} {env : Env} {lo : Nat} {S : Addr → Prop} {Γ : List Sl} {s s' s'' : Shared} {A : Around} {Mu : Addr → Prop} {e : Expr} {d : PyData}

theorem Rp.push {h : Heap} {v : Value} {o : Obj} (x : Rp h S v d) : Rp (h.push o) S v d := x.kb' fun _ _ e _ _ => Heap.get?_push_of_some _ e
theorem RpAll.push {h : Heap} {v : List Value} {ds : List PyData} {o : Obj} (x : RpAll h S v ds) : RpAll (h.push o) S v ds := x.kb' fun _ _ e _ _ => Heap.get?_push_of_some _ e
inductive EvAll (C : Cx) (k : Nat) (sc : Scope) (ns : List Str) (Γ : List Sl) : List Expr → List PyData → Prop
  | nil : EvAll C k sc ns Γ [] []
  | cons {e es d ds} (h : Ev C k sc ns Γ e d) (t : EvAll C k sc ns Γ es ds) (n : isStarred e = false := by rfl) : EvAll C k sc ns Γ (e :: es) (d :: ds)

theorem starEach_cons {e : Expr} {es : List Expr} (h : isStarred e = false) : starEach (e :: es) env = (false, eval e env) :: starEach es env := by
  cases e <;> first | rfl | cases h
theorem backTo_cons {p : Pos} {t : Sem Value} {r : List (Bool × Sem Value)} : backTo p ((false, t) :: r) = (false, t) :: backTo p r := rfl

theorem EvAll.go (W : Wf C) {es : List Expr} {ds : List PyData} {p : Pos} {E : Value → Shared → Prop} (x : EvAll C k sc ns Γ es ds) : ∀ {s : Shared}, Room A k → Inv C s → FrameOk C sc ns fn env lo S Γ s.heap → ∀ {Q : List Value → Shared → Prop},
    (∀ vs s', KB C No s s' → RpAll s'.heap S vs ds → Inv C s' → FrameOk C sc ns fn env lo S Γ s'.heap → Q vs s') → wpAny (model C.prog C.w) A (spliced (backTo p (starEach es env))) Q E s := by
  induction x with
  | nil => intro s R I F Q q; exact Calls.spliced_nil (q _ _ KB.refl .nil I F)
  | cons h t n ih =>
    intro s R I F Q q
    rw [starEach_cons n, backTo_cons]
    refine Calls.spliced_cons (h.go W R I F fun v s₁ k₁ r₁ I₁ F₁ => ih R I₁ F₁ fun vs s₂ k₂ r₂ I₂ F₂ => ?_)
    exact q _ _ (k₁.trans k₂) (.cons (r₁.no k₂) r₂) I₂ F₂


theorem Ev.tuple (W : Wf C) {es : List Expr} {ds : List PyData} {kk : Nat} {p : Pos} (x : EvAll C k sc ns Γ es ds) (hsz : ds.length ≤ sizeLine := by exact of_decide_eq_true rfl) : Ev C k sc ns Γ (.Tuple es kk p) (.tuple ds) :=
  fun A env fn lo S s R I F => Tuple_ (x.go W R I F fun vs s₁ k₁ r₁ I₁ F₁ => wpAny_newObj_type
    ⟨k₁.trans KB.push, .tuple ⟨_, Heap.get?_push_size _ rfl, rfl, _, rfl⟩ F₁.bd.fresh r₁.push⟩ (by show vs.toArray.size ≤ sizeLine; rw [List.size_toArray, r₁.length]; exact hsz))
theorem Ev.list (W : Wf C) {es : List Expr} {ds : List PyData} {p : Pos} (x : EvAll C k sc ns Γ es ds) (hsz : ds.length ≤ sizeLine := by exact of_decide_eq_true rfl) : Ev C k sc ns Γ (.List es p) (.list ds) :=
  fun A env fn lo S s R I F => List_ (x.go W R I F fun vs s₁ k₁ r₁ I₁ F₁ => wpAny_newObj_type
    ⟨k₁.trans KB.push, .list ⟨_, Heap.get?_push_size _ rfl⟩ F₁.bd.fresh r₁.push⟩ (by show vs.toArray.size ≤ sizeLine; rw [List.size_toArray, r₁.length]; exact hsz))

noncomputable def bareSlice : Expr → Bool
  | .Slice _ _ .none _ => true
  | _ => false
theorem subs_int {slice : Expr} (h : bareSlice slice = false) (o i : Value) : subscripted slice false o i = operate [o, i] (getItem o i) := by
  cases slice with
  | Slice l u st p => cases st with
    | none => cases h
    | some _ => rfl
  | _ => rfl
theorem Ev.item (W : Wf C) {v sl : Expr} {p : Pos} {xs : List PyData} {i : Int} (hv : Ev C k sc ns Γ v (.list xs)) (hi : Ev C k sc ns Γ sl (.int i)) (h0 : 0 ≤ i) (h1 : i < 2 ^ 63) (hx : xs[i.toNat]? = some d)
    (hs : bareSlice sl = false := by rfl) : Ev C k sc ns Γ (.Subscript v sl p) d :=
  fun A env fn lo S s R I F => Subscript_ (hv.go W R I F fun ov s₁ k₁ r₁ I₁ F₁ => hi.go W R I₁ F₁ fun iv s₂ k₂ r₂ I₂ F₂ => by
    obtain ⟨_, rfl⟩ := r₂.int_inv
    obtain ⟨_, _, rfl, hl, hn, hr⟩ := (r₁.no k₂).list_inv
    obtain ⟨y, hy, ry⟩ := hr.get hx
    exact tail_any hl.isList.typeIs slot_list_getitem.lookup (wpAny_getItem_list hl.isList h0 h1 (by rw [← Array.getElem?_toList]; exact hy) ⟨k₁.trans k₂, ry⟩) (subs_int hs _ _))
theorem Ev.itemT (W : Wf C) {v sl : Expr} {p : Pos} {xs : List PyData} {i : Int} (hv : Ev C k sc ns Γ v (.tuple xs)) (hi : Ev C k sc ns Γ sl (.int i)) (h0 : 0 ≤ i) (h1 : i < 2 ^ 63) (hx : xs[i.toNat]? = some d)
    (hs : bareSlice sl = false := by rfl) : Ev C k sc ns Γ (.Subscript v sl p) d :=
  fun A env fn lo S s R I F => Subscript_ (hv.go W R I F fun ov s₁ k₁ r₁ I₁ F₁ => hi.go W R I₁ F₁ fun iv s₂ k₂ r₂ I₂ F₂ => by
    obtain ⟨_, rfl⟩ := r₂.int_inv
    obtain ⟨_, _, rfl, hl, hn, hr⟩ := (r₁.no k₂).tuple_inv
    obtain ⟨y, hy, ry⟩ := hr.get hx
    rw [Array.getElem?_toList] at hy
    have hlt : i.toNat < _ := (Array.getElem?_eq_some_iff.mp hy).1
    have ht : IsTup s₂.heap _ _ := hl
    exact tail_any ht.typeIs slot_tuple_getitem.lookup (getItem_tuple (j := i.toNat) ht (by lia) h1 (by unfold seqIndex?; simp; lia) hy ⟨k₁.trans k₂, ry⟩) (subs_int hs _ _))
noncomputable def EvO (C : Cx) (k : Nat) (sc : Scope) (ns : List Str) (Γ : List Sl) : Option Expr → Option Int → Prop
  | .none, .none => True
  | .some e, .some i => Ev C k sc ns Γ e (.int i)
  | _, _ => False
theorem EvO.go (W : Wf C) {eo : Option Expr} {io : Option Int} (x : EvO C k sc ns Γ eo io) (r : Room A k) (I : Inv C s) (F : FrameOk C sc ns fn env lo S Γ s.heap) {Q : Value → Shared → Prop} {E : Value → Shared → Prop}
    (q : ∀ (t : Tok) s', KB C No s s' → Inv C s' → FrameOk C sc ns fn env lo S Γ s'.heap → Q (partValue (io.map fun i => (i, t))) s') : wpAny (model C.prog C.w) A (evalPart eo env) Q E s := by
  cases eo with
  | none => cases io with
    | none => rw [evalPart_none]; exact wpAny_pure (q 0 s KB.refl I F)
    | some i => exact False.elim x
  | some e => cases io with
    | none => exact False.elim x
    | some i => rw [evalPart_some]; exact Ev.go W x r I F fun v s' k' r' I' F' => by obtain ⟨_, rfl⟩ := r'.int_inv; exact q _ s' k' I' F'
theorem isPart_of (io : Option Int) (t : Tok) : IsPart (partValue (io.map fun i => (i, t))) io := by
  cases io with
  | none => exact .none
  | some i => exact .int i t

theorem RpAll.pick {h : Heap} {vs : Array Value} {xs : List PyData} (r : RpAll h S vs.toList xs) : ∀ (l : List Nat), RpAll h S (l.filterMap (vs[·]?)) (l.filterMap (xs[·]?))
  | [] => .nil
  | i :: l => by
    have ih := RpAll.pick r l
    simp only [List.filterMap_cons]
    cases hx : xs[i]? with
    | none =>
      have : vs[i]? = .none := by
        rw [Array.getElem?_eq_none_iff]; rw [List.getElem?_eq_none_iff] at hx
        have := r.length; simp at this; lia
      rw [this]; exact ih
    | some d =>
      obtain ⟨v, hv, rv⟩ := r.get hx
      rw [Array.getElem?_toList] at hv
      rw [hv]; exact .cons rv ih
noncomputable def lslice (xs : List PyData) (lo hi st : Option Int) : List PyData :=
  (sliceRange (sliceBounds lo hi st xs.length).1 (sliceBounds lo hi st xs.length).2.1 (sliceBounds lo hi st xs.length).2.2).filterMap (xs[·]?)
theorem RpAll.slice {h : Heap} {vs : Array Value} {xs : List PyData} (r : RpAll h S vs.toList xs) (lo hi st : Option Int) : RpAll h S (slicePick vs lo hi st).toList (lslice xs lo hi st) := by
  have e : vs.size = xs.length := by rw [← r.length]; simp
  unfold slicePick lslice
  rw [e]
  exact RpAll.pick r _
theorem Ev.slice (W : Wf C) {v : Expr} {l u : Option Expr} {p pos : Pos} {xs : List PyData} {lo' hi' : Option Int} (hv : Ev C k sc ns Γ v (.list xs)) (hl : EvO C k sc ns Γ l lo') (hu : EvO C k sc ns Γ u hi')
    (hsz : xs.length ≤ sizeLine) (ht : ∀ o r, letTemporaryGo v o r = pure () := by intro _ _; rfl) : Ev C k sc ns Γ (.Subscript v (.Slice l u .none p) pos) (.list (lslice xs lo' hi' .none)) :=
  fun A env fn lo S s R I F => wpAny_Subscript_list_slice (hv.go W R I F fun ov s₁ k₁ r₁ I₁ F₁ => hl.go W R I₁ F₁ fun t₁ s₂ k₂ I₂ F₂ => hu.go W R I₂ F₂ fun t₂ s₃ k₃ I₃ F₃ => by
    cases (r₁.no k₂).no k₃ with
    | @list _ vs _ hl hn hr =>
      refine ⟨_, _, lo', hi', rfl, hl.isList, by have := hr.length; simp at this; lia, isPart_of _ _, isPart_of _ _, ?_, ?_⟩
      · exact ((k₁.trans k₂).trans k₃).trans (KB.grow (t := s₃.toks) fun b o e => Heap.get?_push_of_some _ (Heap.get?_push_of_some _ e))
      · refine .list ⟨0, ?_⟩ (fun z => ?_) ((hr.slice lo' hi' .none).push.push)
        · have := Heap.get?_push_size (s₃.heap.push { cls := .type "slice", data := .fields #[partValue (lo'.map fun i => (i, t₁)), partValue (hi'.map fun i => (i, t₂)), .none] }) (o := { cls := .type "list", data := .seq (slicePick vs lo' hi' .none) }) rfl
          rw [Heap.size_push] at this
          exact this
        · exact let ⟨_, e⟩ := F₃.bd _ z; Nat.lt_irrefl _ (Nat.lt_of_le_of_lt (Nat.le_succ _) (Heap.lt_size e))) ht
theorem Ev.sliceBy (W : Wf C) {v stx : Expr} {l u : Option Expr} {p pos : Pos} {xs : List PyData} {lo' hi' : Option Int} {st : Int} (hv : Ev C k sc ns Γ v (.list xs)) (hl : EvO C k sc ns Γ l lo') (hu : EvO C k sc ns Γ u hi')
    (hst : Ev C k sc ns Γ stx (.int st)) (h0 : st ≠ 0)
    (hsz : xs.length ≤ sizeLine) (ht : ∀ o r, letTemporaryGo v o r = pure () := by intro _ _; rfl) : Ev C k sc ns Γ (.Subscript v (.Slice l u (.some stx) p) pos) (.list (lslice xs lo' hi' (.some st))) :=
  fun A env fn lo S s R I F => wpAny_Subscript_Slice_step (T := "list") list_getitem_lookup (hv.go W R I F fun ov s₁ k₁ r₁ I₁ F₁ => wpAny_Slice (hl.go W R I₁ F₁ fun t₁ s₂ k₂ I₂ F₂ => hu.go W R I₂ F₂ fun t₂ s₃ k₃ I₃ F₃ => by
    rw [evalPart_some]
    refine hst.go W R I₃ F₃ fun vs s₄ k₄ r₄ I₄ F₄ => ?_
    obtain ⟨t₄, rfl⟩ := r₄.int_inv
    obtain ⟨_, _, rfl, hl, hn, hr⟩ := (((r₁.no k₂).no k₃).no k₄).list_inv
    have hp := fun o => (Heap.PlainList.at (h' := s₄.heap.push o) hl fun o' e => Heap.get?_push_of_some _ e)
    refine ⟨(hp _).isList.typeIs, wpAny_getItem_list_slice (hp _).isList (Heap.IsSliceOf.new ..) (isPart_of lo' t₁) (isPart_of hi' t₂) (.int st t₄) (by simpa using h0) ?_ (by have := hr.length; simp at this; lia)⟩
    refine ⟨?_, .list ⟨0, Heap.get?_push_size _ rfl⟩ (fun z => ?_) ((hr.slice lo' hi' (.some st)).push.push)⟩
    · exact (((k₁.trans k₂).trans k₃).trans k₄).trans (KB.grow (t := s₄.toks) fun b o e => Heap.get?_push_of_some _ (Heap.get?_push_of_some _ e))
    · obtain ⟨_, e⟩ := F₄.bd _ z; have := Heap.lt_size e; rw [Heap.size_push] at this; exact Nat.lt_irrefl _ (Nat.lt_of_le_of_lt (Nat.le_succ _) this))) ht
theorem Ev.sliceS (W : Wf C) {v : Expr} {l u : Option Expr} {p pos : Pos} {x : Str} {lo' hi' : Option Int} (hv : Ev C k sc ns Γ v (.str x)) (hl : EvO C k sc ns Γ l lo') (hu : EvO C k sc ns Γ u hi')
    (hsz : x.length ≤ sizeLine) (ht : ∀ o r, letTemporaryGo v o r = pure () := by intro _ _; rfl) : Ev C k sc ns Γ (.Subscript v (.Slice l u .none p) pos) (.str (Txt.slice x lo' hi')) :=
  fun A env fn lo S s R I F => wpAny_with_toks (Nat.le_refl _) (wpAny_Subscript_str_slice (hv.go W R I F fun ov s₁ k₁ r₁ I₁ F₁ => hl.go W R I₁ F₁ fun t₁ s₂ k₂ I₂ F₂ => hu.go W R I₂ F₂ fun t₂ s₃ k₃ I₃ F₃ => by
    obtain ⟨_, rfl⟩ := r₁.str_inv
    refine ⟨x, _, lo'.map fun i => (i, t₁), hi'.map fun i => (i, t₂), rfl, rfl, rfl, ?_⟩
    have e : ∀ (io : Option Int) (t : Tok), (io.map fun i => (i, t)).map (·.1) = io := fun io t => by cases io <;> rfl
    have q : Txt.slice x lo' hi' = if (((.none : Option (Int × Tok)).map (·.1)).getD 1 == 1 && (slicePicked x (lo'.map fun i => (i, t₁)) (hi'.map fun i => (i, t₂)) .none).length == x.length) = true then x else ⟨((slicePicked x (lo'.map fun i => (i, t₁)) (hi'.map fun i => (i, t₂)) .none).filterMap (x.cps[·]?)).toArray⟩ := by
      unfold Txt.slice slicePicked
      rw [e, e]; rfl
    unfold sliceMade
    refine post_val_or_str ⟨by rw [← q]; exact Nat.le_trans (Txt.slice_le x _ _) hsz, fun t' kk => ?_⟩
    rw [← q]
    exact fun hk => ⟨(((k₁.trans k₂).trans k₃).trans (KB.push (t := s₃.toks))).retok hk, .str _ _⟩) ht)
end Mine
end

noncomputable section
open PySem PySem.W PyProof.Rows
namespace Mine
variable {C : Cx} {k : Nat} {sc : Scope} {ns : List Str} {fn : Str → Bool} {env : Env} {lo : Nat} {S : Addr → Prop} {Γ : List Sl} {s s' s'' : Shared} {A : Around} {Mu : Addr → Prop} {e : Expr} {d : PyData}

theorem Ts.and (W : Wf C) {x y : Expr} {p : Pos} {a b : Bool} (hx : Ts C k sc ns Γ x a) (hy : a = true → Ts C k sc ns Γ y b) : Ts C k sc ns Γ (.BoolOp .And [x, y] p) (a && b) :=
  fun A env fn lo S s R I F => isTrue_and (hx.go W R I F fun s₁ k₁ I₁ F₁ => by
    cases a with
    | false => exact ⟨k₁, rfl⟩
    | true => exact isTrue_and ((hy rfl).go W R I₁ F₁ fun s₂ k₂ I₂ F₂ => by
        cases b with
        | false => exact ⟨k₁.trans k₂, rfl⟩
        | true => exact isTrue_and_nil ⟨k₁.trans k₂, rfl⟩))
noncomputable def plainTest : Expr → Bool
  | .UnaryOp .Not _ _ => false
  | .BoolOp .. => false
  | .IfExp .. => false
  | .Compare .. => false
  | _ => true
theorem isTrue_of_plain {e : Expr} (h : plainTest e = true) (whole : Sem Value) : isTrue e env whole = (do let v ← whole; standAt e.pos; holding [v] (truthy v)) := by
  cases e <;> first | rfl | cases h | skip
  rename_i op _ _
  cases op <;> first | rfl | cases h
theorem Ts.int (W : Wf C) {x : Expr} {i : Int} (hx : Ev C k sc ns Γ x (.int i)) (h : plainTest x = true := by rfl) : Ts C k sc ns Γ x (i != 0) :=
  fun A env fn lo S s R I F => isTrue_plain (hx.go W R I F fun v s₁ k₁ r₁ I₁ F₁ => by obtain ⟨_, rfl⟩ := r₁.int_inv; exact truthy_int ⟨k₁, rfl⟩) (isTrue_of_plain h _)
theorem Ts.bool (W : Wf C) {x : Expr} {b : Bool} (hx : Ev C k sc ns Γ x (.bool b)) (h : plainTest x = true := by rfl) : Ts C k sc ns Γ x b :=
  fun A env fn lo S s R I F => isTrue_plain (hx.go W R I F fun v s₁ k₁ r₁ I₁ F₁ => by obtain rfl := r₁.bool_inv; exact wpAny_truthy_bool ⟨k₁, rfl⟩) (isTrue_of_plain h _)
theorem Ts.list (W : Wf C) {x : Expr} {xs : List PyData} (hx : Ev C k sc ns Γ x (.list xs)) (hl : (xs.length : Int) < 2 ^ 63) (h : plainTest x = true := by rfl) : Ts C k sc ns Γ x (!xs.isEmpty) :=
  fun A env fn lo S s R I F => isTrue_plain (hx.go W R I F fun v s₁ k₁ r₁ I₁ F₁ => by
    obtain ⟨_, vs, rfl, hp, hn, hr⟩ := r₁.list_inv
    have e := hr.length
    simp at e
    refine wpAny_truthy_list hp.isList (by lia) ⟨k₁.trans KB.toks0, ?_⟩
    cases xs with
    | nil => simp at e; simp [Array.isEmpty, e]
    | cons _ _ => simp at e; simp [Array.isEmpty, e]) (isTrue_of_plain h _)

theorem Ev.ite (W : Wf C) {t x y : Expr} {p : Pos} {b : Bool} {dx dy : PyData} (ht : Ts C k sc ns Γ t b) (hx : b = true → Ev C k sc ns Γ x dx) (hy : b = false → Ev C k sc ns Γ y dy) : Ev C k sc ns Γ (.IfExp t x y p) (if b then dx else dy) :=
  fun A env fn lo S s R I F => wpAny_IfExp (ht.go W R I F fun s₁ k₁ I₁ F₁ => by
    cases b with
    | true => exact (hx rfl).go W R I₁ F₁ fun v s₂ k₂ r₂ _ _ => ⟨k₁.trans k₂, r₂⟩
    | false => exact (hy rfl).go W R I₁ F₁ fun v s₂ k₂ r₂ _ _ => ⟨k₁.trans k₂, r₂⟩)
theorem Ev.not (W : Wf C) {x : Expr} {p : Pos} {b : Bool} (hx : Ev C k sc ns Γ x (.bool b)) : Ev C k sc ns Γ (.UnaryOp .Not x p) (.bool (!b)) :=
  fun A env fn lo S s R I F => wpAny_UnaryOp (hx.go W R I F fun v s₁ k₁ r₁ I₁ F₁ => by obtain rfl := r₁.bool_inv; exact not_of (wpAny_truthy_bool ⟨k₁, .bool _⟩))
theorem Ev.and (W : Wf C) {x y : Expr} {p : Pos} {a b : Bool} (hx : Ev C k sc ns Γ x (.bool a)) (hy : a = true → Ev C k sc ns Γ y (.bool b)) : Ev C k sc ns Γ (.BoolOp .And [x, y] p) (.bool (a && b)) :=
  fun A env fn lo S s R I F => by
    show wpAny _ A (eval x env >>= _) _ _ s
    refine wpAny_bind (hx.go W R I F fun v s₁ k₁ r₁ I₁ F₁ => ?_)
    obtain rfl := r₁.bool_inv
    refine wpAny_bind (wpAny_standAt (wpAny_bind (wpAny_holding (wpAny_truthy_bool ?_))))
    cases a with
    | false => exact wpAny_pure ⟨k₁, .bool _⟩
    | true => exact (hy rfl).go W R I₁ F₁ fun v s₂ k₂ r₂ _ _ => ⟨k₁.trans k₂, by simpa using r₂⟩

noncomputable def Fn (C : Cx) (k : Nat) (fa : Addr) (ds : List PyData) (d : PyData) : Prop :=
  ∀ A S s vals, Room A k → Inv C s → Live s.heap S → (∀ a, S a → C.base ≤ a) → RpAll s.heap S vals ds →
    codeAny (model C.prog C.w) A (.call (.ref fa) ⟨vals, []⟩) (fun r s' => ∃ v, r = .ok (.ret v) ∧ KB C No s s' ∧ Rp s'.heap S v d) s
noncomputable def isFn : Option Obj → Bool
  | .some ⟨_, _, .func _, _⟩ => true
  | _ => false
theorem isFn_of {o : Option Obj} (h : isFn o = true) : ∃ o' fd, o = .some o' ∧ o'.data = .func fd := by
  cases o with
  | none => cases h
  | some o =>
    obtain ⟨_, _, dt, _⟩ := o
    cases dt with
    | func fd => exact ⟨_, fd, rfl, rfl⟩
    | _ => cases h

theorem evalArgs_go (W : Wf C) {f : Value} {es : List Expr} {ds : List PyData} {p : Pos} {E : Value → Shared → Prop} (x : EvAll C k sc ns Γ es ds) (R : Room A k) (I : Inv C s) (F : FrameOk C sc ns fn env lo S Γ s.heap) {Q : Args → Shared → Prop}
    (q : ∀ vs s', KB C No s s' → RpAll s'.heap S vs ds → Inv C s' → FrameOk C sc ns fn env lo S Γ s'.heap → Q ⟨vs, []⟩ s') : wpAny (model C.prog C.w) A (evalArgs f true (backTo p (starEach es env)) []) Q E s := by
  cases x with
  | nil => exact PySem.evalArgs_none (q _ _ KB.refl .nil I F)
  | cons h t n =>
    have z := EvAll.go W (p := p) (E := E) (.cons h t n) R I F q
    rw [starEach_cons n, backTo_cons] at z ⊢
    exact Calls.evalArgs_plain z
theorem stars_none {p : Pos} : ∀ {es : List Expr} {ds : List PyData}, EvAll C k sc ns Γ es ds → (backTo p (starEach es env)).any (·.1) = false
  | _, _, .nil => rfl
  | _, _, .cons h t n => by rw [starEach_cons n, backTo_cons, List.any_cons, stars_none t]; rfl

theorem Ev.call (W : Wf C) {x : Str} {p pos : Pos} {fa : Addr} {es : List Expr} {ds : List PyData} (hk : sc.names.lookup x = some .globalImplicit) (hv : C.mg x = some (.ref fa)) (hf : isFn (C.fr fa) = true)
    (ha : EvAll C k sc ns Γ es ds) (h : Fn C k fa ds d) (hd : (x == ("__debug__" : Str)) = false := by decide) : Ev C k sc ns Γ (.Call (.Name x p) es [] pos) d :=
  fun A env fn lo S s R I F => by
    rw [arm_eval_Call_Name']
    refine wpAny_bind (Calls.Name_function_global (by rw [F.scope]; exact F.kind) (by unfold Env.kindOf; rw [F.scope]; exact hk) (Calls.loadGlobal_global (by rw [F.glob]; exact I.g) hv ?_) hd)
    obtain ⟨o, fd, e1, e2⟩ := isFn_of hf
    refine Calls.callWith_function (o := o) (fd := fd) (evalArgs_go W ha R I F fun vs s₁ k₁ r₁ I₁ F₁ => ⟨⟨I₁.fr _ _ e1, e2⟩, ?_⟩)
    refine wpAny_call (codeAny_mono (h A S s₁ vs R I₁ F₁.bd F₁.bs r₁) fun r s₂ hr => ?_)
    obtain ⟨v, rfl, k₂, r₂⟩ := hr
    exact ⟨k₁.trans k₂, r₂⟩

noncomputable def Bi (C : Cx) (k : Nat) (f : Value) (ds : List PyData) (d : PyData) : Prop :=
  ∀ A S s vals, Room A k → Inv C s → Live s.heap S → RpAll s.heap S vals ds →
    wpAny (model C.prog C.w) A (call f vals) (fun v s' => KB C No s s' ∧ Rp s'.heap S v d) (fun _ _ => False) s
theorem Ev.callB (W : Wf C) {x : Str} {p pos : Pos} {id : String} {es : List Expr} {ds : List PyData} (hk : sc.names.lookup x = some .globalImplicit) (h0 : C.mg x = .none) (hv : C.mb x = some (.builtin id))
    (ha : EvAll C k sc ns Γ es ds) (h : Bi C k (.builtin id) ds d) (hd : (x == ("__debug__" : Str)) = false := by decide) : Ev C k sc ns Γ (.Call (.Name x p) es [] pos) d :=
  fun A env fn lo S s R I F => by
    rw [arm_eval_Call_Name']
    refine wpAny_bind (Calls.Name_function_global (by rw [F.scope]; exact F.kind) (by unfold Env.kindOf; rw [F.scope]; exact hk) (Calls.loadGlobal_builtin (by rw [F.glob]; exact I.g) h0 (by rw [F.blt]; exact I.b) hv ?_) hd)
    refine Calls.callWith_builtin (stars_none ha) (evalArgs_go W ha R I F fun vs s₁ k₁ r₁ I₁ F₁ => ?_)
    exact wq (h A S s₁ vs R I₁ F₁.bd r₁) fun v s₂ ⟨k₂, r₂⟩ => ⟨k₁.trans k₂, r₂⟩
end Mine
end

noncomputable section
open PySem PySem.W PyProof.Rows
namespace Mine
variable {C : Cx} {k : Nat} {sc : Scope} {ns : List Str} {fn : Str → Bool} {env : Env} {lo : Nat} {S S' S'' : Addr → Prop} {Γ Γ' : List Sl} {s s' s'' : Shared} {A : Around} {Mu : Addr → Prop} {e : Expr} {d : PyData}

inductive Out where
  | next (Γ : List Sl)
  | ret (d : PyData)

structure SExt (h : Heap) (lo : Nat) (S S' : Addr → Prop) : Prop where
  new : ∀ a, S' a → S a ∨ h.get? a = .none
  low : ∀ a, S a → a < lo → S' a
theorem SExt.refl {h : Heap} : SExt h lo S S := ⟨fun _ z => .inl z, fun _ z _ => z⟩
noncomputable abbrev MuOf (lo : Nat) (S : Addr → Prop) : Addr → Prop := fun a => S a ∧ lo ≤ a

noncomputable def OutOk (C : Cx) (sc : Scope) (ns : List Str) (env : Env) (lo : Nat) (S : Addr → Prop) (h : Heap) (s' : Shared) : Flow → Out → Prop
  | .next, .next Γ' => ∃ S', SExt h lo S S' ∧ FrameOk C sc ns allW env lo S' Γ' s'.heap
  | .ret v, .ret d => Rp s'.heap (fun a => S a ∧ a < lo) v d
  | _, _ => False

noncomputable def Ex (C : Cx) (k : Nat) (sc : Scope) (ns : List Str) (Γ : List Sl) (st : List Stmt) (Q : Out → Prop) : Prop :=
  ∀ A env lo S s, Room A k → Inv C s → FrameOk C sc ns allW env lo S Γ s.heap →
    wpAny (model C.prog C.w) A (execs st env) (fun f s' => ∃ out, Q out ∧ KB C (MuOf lo S) s s' ∧ OutOk C sc ns env lo S s.heap s' f out) (fun _ _ => False) s
noncomputable def Ex1 (C : Cx) (k : Nat) (sc : Scope) (ns : List Str) (Γ : List Sl) (st : Stmt) (Q : Out → Prop) : Prop :=
  ∀ A env lo S s, Room A k → Inv C s → FrameOk C sc ns allW env lo S Γ s.heap →
    wpAny (model C.prog C.w) A (exec st env) (fun f s' => ∃ out, Q out ∧ KB C (MuOf lo S) s s' ∧ OutOk C sc ns env lo S s.heap s' f out) (fun _ _ => False) s

theorem FrameOk.inv (W : Wf C) (F : FrameOk C sc ns fn env lo S Γ s.heap) (I : Inv C s) (x : KB C (MuOf lo S) s s') : Inv C s' := I.kb W x fun a z => F.bs a z.1

theorem KB.join (x : KB C (MuOf lo S) s s') (e : SExt s.heap lo S S') (y : KB C (MuOf lo S') s' s'') : KB C (MuOf lo S) s s'' := by
  have sub : ∀ b o, s.heap.get? b = some o → ¬ MuOf lo S b → ¬ MuOf lo S' b := fun b o q m z => by
    rcases e.new b z.1 with h | h
    · exact m ⟨h, z.2⟩
    · rw [q] at h; cases h
  exact ⟨fun b o q m t => y.keep b o (x.keep b o q m t) (sub b o q m) t, fun q => y.tab (x.tab q), fun b o q m => let ⟨o', e'⟩ := x.live b o q m; y.live b o' e' (sub b o q m), fun g st q => y.gens g st (x.gens g st q), Nat.le_trans x.gsize y.gsize, fun q => y.bare (x.bare q), y.os.trans x.os, Nat.le_trans x.tok y.tok⟩
theorem SExt.join (x : KB C Mu s s') (hm : ∀ a, Mu a → S a) (e : SExt s.heap lo S S') (y : SExt s'.heap lo S' S'') : SExt s.heap lo S S'' :=
  { new := fun a z => (y.new a z).elim (e.new a) fun h => by
      cases q : s.heap.get? a with
      | none => exact .inr rfl
      | some o =>
        by_cases m : Mu a
        · exact .inl (hm a m)
        · obtain ⟨o', h'⟩ := x.live a o q m
          rw [h] at h'
          cases h'
    low := fun a z l => y.low a (e.low a z l) l }
theorem OutOk.join {f : Flow} {out : Out} (x : KB C Mu s s') (hm : ∀ a, Mu a → S a) (e : SExt s.heap lo S S') (y : OutOk C sc ns env lo S' s'.heap s'' f out) : OutOk C sc ns env lo S s.heap s'' f out := by
  cases f with
  | next => cases out with
    | next Γ => obtain ⟨S'', y1, y2⟩ := y; exact ⟨S'', e.join x hm y1, y2⟩
    | ret d => exact y.elim
  | ret v => cases out with
    | ret d =>
      have y : Rp s''.heap (fun a => S' a ∧ a < lo) v d := y
      exact y.avoid fun b o q m z => m ⟨e.low b z.1 z.2, z.2⟩
    | next Γ => exact y.elim
  | _ => exact y.elim

noncomputable def Then (C : Cx) (k : Nat) (sc : Scope) (ns : List Str) (st : List Stmt) (Q : Out → Prop) : Out → Prop
  | .next Γ => Ex C k sc ns Γ st Q
  | .ret d => Q (.ret d)

theorem Ex.nil {Q : Out → Prop} (h : Q (.next Γ)) : Ex C k sc ns Γ [] Q := fun A env lo S s R I F => wpAny_execs_nil ⟨_, h, KB.refl, S, SExt.refl, F⟩
theorem Ex.cons (W : Wf C) {st : Stmt} {rest : List Stmt} {Q : Out → Prop} (h : Ex1 C k sc ns Γ st (Then C k sc ns rest Q)) : Ex C k sc ns Γ (st :: rest) Q :=
  fun A env lo S s R I F => wpAny_execs_cons (wq (h A env lo S s R I F) fun f s₁ ⟨out, hq, k₁, ho⟩ => by
    cases f with
    | next =>
      cases out with
      | next Γ₁ =>
        obtain ⟨S₁, e₁, F₁⟩ := ho
        exact wq (hq A env lo S₁ s₁ R (F.inv W I k₁) F₁) fun f s₂ ⟨out, hq, k₂, ho⟩ => ⟨out, hq, k₁.join e₁ k₂, ho.join k₁ (fun a z => z.1) e₁⟩
      | ret d => exact ho.elim
    | ret v => exact ⟨out, by cases out with | next => exact ho.elim | ret d => exact hq, k₁, ho⟩
    | brk => exact (by cases out <;> exact ho.elim)
    | cont => exact (by cases out <;> exact ho.elim))

theorem Ex1.mono {st : Stmt} {P Q : Out → Prop} (h : Ex1 C k sc ns Γ st P) (q : ∀ o, P o → Q o) : Ex1 C k sc ns Γ st Q :=
  fun A env lo S s R I F => wq (h A env lo S s R I F) fun f s₁ ⟨out, hq, r⟩ => ⟨out, q _ hq, r⟩
theorem SlotAt.keepBut {sl : Sl} {vo : Option Value} {a : Addr} {h h' : Heap} (x : SlotAt h lo S sl vo) (k : Heap.ExtBut a h h') (hs : S a) (hd : ∀ o, h.get? a = some o → ∀ xs n, o.data ≠ .seq xs n) : SlotAt h' lo S sl vo := by
  have K : ∀ b o, h.get? b = some o → ¬ S b → SeqCls o → h'.get? b = some o := fun b o e m _ => k b o (fun z => m (z ▸ hs)) e
  cases sl with
  | un => trivial
  | v d => obtain ⟨v, e, r⟩ := x; exact ⟨v, e, r.kb' K⟩
  | own xs =>
    obtain ⟨b, vs, e, h1, h2, ⟨n, ho⟩, r⟩ := x
    exact ⟨b, vs, e, h1, h2, ⟨n, k _ _ (fun z => hd _ (z ▸ ho) _ _ rfl) ho⟩, r.kb' K⟩

theorem getD_set {i j : Nat} {v : Sl} (hi : i < Γ.length) : (Γ.set i v).getD j .un = if i = j then v else Γ.getD j .un := by
  rw [List.getD_eq_getElem?_getD, List.getD_eq_getElem?_getD, List.getElem?_set]
  by_cases h : i = j
  · subst h; simp [hi]
  · simp [h]
theorem one_set {i : Nat} (h : ∀ (i j : Nat) xs ys, Γ[i]? = some (.own xs) → Γ[j]? = some (.own ys) → i = j) : ∀ (m j : Nat) xs ys, (Γ.set i (.v d))[m]? = some (.own xs) → (Γ.set i (.v d))[j]? = some (.own ys) → m = j := by
  intro m j xs ys a b
  rw [List.getElem?_set] at a b
  by_cases h1 : i = m
  · rw [if_pos h1] at a; split at a <;> cases a
  · by_cases h2 : i = j
    · rw [if_pos h2] at b; split at b <;> cases b
    · rw [if_neg h1] at a; rw [if_neg h2] at b; exact h m j xs ys a b

theorem nd_ne {ns : List Str} (nd : ns.Nodup) {i j : Nat} {x y : Str} (hi : ns[i]? = some x) (hj : ns[j]? = some y) : i = j ↔ x = y := by
  constructor
  · rintro rfl; rw [hi] at hj; exact Option.some.inj hj
  · rintro rfl
    obtain ⟨h1, e1⟩ := List.getElem?_eq_some_iff.mp hi
    obtain ⟨h2, e2⟩ := List.getElem?_eq_some_iff.mp hj
    have P := List.pairwise_iff_getElem.mp nd
    rcases Nat.lt_trichotomy i j with h | h | h
    · exact absurd (e1.trans e2.symm) (P i j h1 h2 h)
    · exact h
    · exact absurd (e2.trans e1.symm) (P j i h2 h1 h)

theorem loose_dict {o : Obj} {es : Array DictEntry} {n : Nat} (h : o.data = .dict es n) : Loose o := .inl fun vs z => by rw [h] at z; cases z
theorem loose_cell {o : Obj} {v : Option Value} (h : o.data = .cell v) : Loose o := .inl fun vs z => by rw [h] at z; cases z
theorem loose_seq {o : Obj} {v : Array Value} {n : Nat} (h : o.data = .seq v n) : Loose o := .inl fun vs z => by rw [h] at z; cases z

theorem frame_store (W : Wf C) (F : FrameOk C sc ns fn env lo S Γ s.heap) {x : Str} {i : Nat} {v : Value} {sl : Sl} (hx : ns[i]? = some x) (hw : fn x = true ∨ sc.names.lookup x = some .local) (hi : i < Γ.length) (hv : ∀ h', (∀ b o, s.heap.get? b = some o → ¬ (b = env.locals ∨ ∃ y, env.cells.lookup y = some b) → h'.get? b = some o) → SlotAt h' lo S sl (some v))
    (h1 : ∀ (m j : Nat) xs ys, (Γ.set i sl)[m]? = some (.own xs) → (Γ.set i sl)[j]? = some (.own ys) → m = j)
    {Q : Unit → Shared → Prop} {E : Value → Shared → Prop} (q : ∀ s', KB C (MuOf lo S) s s' → FrameOk C sc ns fn env lo S (Γ.set i sl) s'.heap → Q () s') :
    wpAny (model C.prog C.w) A (storeName env x v) Q E s := by
  have hk : env.kindOf x = sc.names.lookup x := by unfold Env.kindOf; rw [F.scope]
  have hf : env.scope.kind = .function := by rw [F.scope]; exact F.kind
  obtain ⟨m, hn, hloc⟩ := F.loc
  by_cases hl : sc.names.lookup x = some .local
  · refine wpAny_storeName_local (hk.trans hl) hn (fun h' hn' hs => ?_) (by rw [hf]; rfl)
    obtain ⟨oL, es, nn, eL, dL, _⟩ := id hn
    have hd : ∀ o, s.heap.get? env.locals = some o → ∀ xs n, o.data ≠ .seq xs n := fun o e xs n z => by rw [eL] at e; cases e; rw [dL] at z; cases z
    have kb : KB C (MuOf lo S) s { s with heap := h', toks := s.toks + 1 } := KB.upd hs.extBut eL (loose_dict dL) F.locS
    refine q _ kb { scope := F.scope, kind := F.kind, glob := F.glob, blt := F.blt, nd := F.nd, loc := ⟨_, hn', fun j y hy hly => ?_⟩, cel := fun j y hy hly => ?_, apart := F.apart, locS := F.locS, celS := F.celS, celC := fun y c' hc' => ?_, celM := F.celM, bd := F.bd.upd hs.extBut (let ⟨o', _, _, e', _⟩ := hn'; ⟨o', e'⟩), bs := F.bs, nofree := F.nofree, lob := F.lob, one := h1 }
    · rw [getD_set hi]
      by_cases hij : i = j
      · rw [if_pos hij, if_pos ((nd_ne F.nd hx hy).mp hij).symm]
        exact hv _ fun b o e nb => hs.extBut b o (fun z => nb (.inl z)) e
      · rw [if_neg hij, if_neg (fun z => hij ((nd_ne F.nd hx hy).mpr z.symm))]
        exact (hloc j y hy hly).keepBut hs.extBut F.locS.1 hd
    · rw [getD_set hi]
      have hij : ¬ i = j := fun z => hly ((nd_ne F.nd hx hy).mp z ▸ hl)
      rw [if_neg hij]
      obtain ⟨a1, c, vo, a2, a3, a4⟩ := F.cel j y hy hly
      refine ⟨a1, c, vo, a2, ?_, a4.keepBut hs.extBut F.locS.1 hd⟩
      obtain ⟨oc, ec, dc⟩ := a3
      exact ⟨oc, hs.extBut _ _ (fun z => by subst z; rw [eL] at ec; cases ec; rw [dL] at dc; cases dc) ec, dc⟩
    · obtain ⟨vo, oc, ec, dc⟩ := F.celC y c' hc'
      exact ⟨vo, oc, hs.extBut _ _ (fun z => by subst z; rw [eL] at ec; cases ec; rw [dL] at dc; cases dc) ec, dc⟩
  · obtain ⟨a1, c, vo, a2, a3, a4⟩ := F.cel i x hx hl
    have a1' : sc.names.lookup x = some .cell := by
      rcases a1 with h | ⟨h, _⟩
      · exact h
      · exact absurd h (F.nofree x (List.mem_of_getElem? hx) (hw.resolve_right hl))
    refine wpAny_storeName_cell hf (hk.trans a1') a2 a3 (fun h' hc' hs => ?_)
    obtain ⟨oc, ec, dc⟩ := id a3
    have hd : ∀ o, s.heap.get? c = some o → ∀ xs n, o.data ≠ .seq xs n := fun o e xs n z => by rw [ec] at e; cases e; rw [dc] at z; cases z
    have hS : S c := F.celS _ _ a2
    have kb : KB C (MuOf lo S) s { s with heap := h' } := KB.upd hs.extBut ec (loose_cell dc) ⟨hS, F.celM _ _ (hw.resolve_right hl) a2⟩
    refine q _ kb { scope := F.scope, kind := F.kind, glob := F.glob, blt := F.blt, nd := F.nd, loc := ⟨m, ?_, fun j y hy hly => ?_⟩, cel := fun j y hy hly => ?_, apart := F.apart, locS := F.locS, celS := F.celS, celC := fun y c' hcc => ?_, celM := F.celM, bd := F.bd.upd hs.extBut (let ⟨o', e', _⟩ := hc'; ⟨o', e'⟩), bs := F.bs, nofree := F.nofree, lob := F.lob, one := h1 }
    · exact hn.sameBut hs fun z => by
        obtain ⟨oL, es, nn, eL, dL, _⟩ := hn
        rw [z] at eL; rw [ec] at eL; cases eL; rw [dc] at dL; cases dL
    · rw [getD_set hi]
      have hij : ¬ i = j := fun z => hl ((nd_ne F.nd hx hy).mp z ▸ hly)
      rw [if_neg hij]
      exact (hloc j y hy hly).keepBut hs.extBut hS hd
    · rw [getD_set hi]
      by_cases hij : i = j
      · rw [if_pos hij]
        have e := (nd_ne F.nd hx hy).mp hij
        subst e
        exact ⟨a1, c, _, a2, hc', hv _ fun b o e nb => hs.extBut b o (fun z => nb (.inr ⟨x, z ▸ a2⟩)) e⟩
      · rw [if_neg hij]
        obtain ⟨b1, c', vo', b2, b3, b4⟩ := F.cel j y hy hly
        have hcc : c' ≠ c := fun z => hij ((nd_ne F.nd hx hy).mpr (F.apart x y c a2 (z ▸ b2)))
        exact ⟨b1, c', vo', b2, b3.sameBut hs hcc, b4.keepBut hs.extBut hS hd⟩
    · by_cases z : c' = c
      · subst z; exact ⟨_, hc'⟩
      · obtain ⟨vo', q⟩ := F.celC y c' hcc
        exact ⟨vo', q.sameBut hs z⟩

theorem frame_storeV (W : Wf C) (F : FrameOk C sc ns fn env lo S Γ s.heap) {x : Str} {i : Nat} {v : Value} (hx : ns[i]? = some x) (hw : fn x = true ∨ sc.names.lookup x = some .local) (hi : i < Γ.length) (hv : Rp s.heap S v d)
    {Q : Unit → Shared → Prop} {E : Value → Shared → Prop} (q : ∀ s', KB C (MuOf lo S) s s' → FrameOk C sc ns fn env lo S (Γ.set i (.v d)) s'.heap → Q () s') :
    wpAny (model C.prog C.w) A (storeName env x v) Q E s :=
  frame_store (sl := .v d) W F hx hw hi (fun h' hk => ⟨v, rfl, hv.kb' fun b o e m _ => hk b o e fun z => m (by
    rcases z with z | ⟨y, z⟩
    · exact z ▸ F.locS.1
    · exact F.celS _ _ z)⟩) (one_set F.one) q
end Mine
end

noncomputable section
open PySem PySem.W PyProof.Rows
namespace Mine
variable {C : Cx} {k : Nat} {sc : Scope} {ns : List Str} {fn : Str → Bool} {env : Env} {lo : Nat} {S S' S'' : Addr → Prop} {Γ Γ' : List Sl} {s s' s'' : Shared} {A : Around} {Mu : Addr → Prop} {e : Expr} {d : PyData}

noncomputable def Sl.thaw : Sl → Sl
  | .own xs => .v (.list xs)
  | x => x
noncomputable def thaw (Γ : List Sl) : List Sl := Γ.map Sl.thaw

noncomputable def ownAt (env : Env) (ns : List Str) (sc : Scope) (Γ : List Sl) (h : Heap) (a : Addr) : Prop :=
  ∃ (i : Nat) (x : Str) (xs : List PyData), ns[i]? = some x ∧ Γ[i]? = some (.own xs) ∧
    ((sc.names.lookup x = some .local ∧ ∃ m, h.Ns env.locals m ∧ m x = some (.ref a)) ∨ (sc.names.lookup x ≠ some .local ∧ ∃ c, env.cells.lookup x = some c ∧ h.IsCell c (some (.ref a))))

theorem Ns.uniq {h : Heap} {a : Addr} {m m' : Str → Option Value} (x : h.Ns a m) (y : h.Ns a m') : m = m' := by
  obtain ⟨o, es, n, e, dd, _, hm⟩ := x
  obtain ⟨o', es', n', e', dd', _, hm'⟩ := y
  rw [e] at e'; cases e'
  rw [dd] at dd'; cases dd'
  funext z; exact (hm z).symm.trans (hm' z)

theorem ownAt.list (F : FrameOk C sc ns fn env lo S Γ s.heap) {a : Addr} (z : ownAt env ns sc Γ s.heap a) : (∃ vs, s.heap.PlainList a vs) ∧ lo ≤ a := by
  obtain ⟨i, x, xs, hx, hg, h⟩ := z
  have hgd : Γ.getD i .un = .own xs := by rw [List.getD_eq_getElem?_getD, hg]; rfl
  rcases h with ⟨hl, m, hn, hm⟩ | ⟨hl, c, hc, hv⟩
  · obtain ⟨m', hn', h'⟩ := F.loc
    have z := h' i x hx hl
    rw [hgd, ← Ns.uniq hn hn', hm] at z
    obtain ⟨b, vs, e, _, h2, h3, _⟩ := z
    cases e; exact ⟨⟨_, h3⟩, h2⟩
  · obtain ⟨_, c', vo, b2, b3, b4⟩ := F.cel i x hx hl
    rw [hc] at b2; cases b2
    obtain ⟨o, eo, dd⟩ := hv
    obtain ⟨o', eo', dd'⟩ := b3
    rw [eo] at eo'; cases eo'
    rw [dd] at dd'; cases dd'
    rw [hgd] at b4
    obtain ⟨b, vs, e, _, h2, h3, _⟩ := b4
    cases e; exact ⟨⟨_, h3⟩, h2⟩
theorem FrameOk.thaw (F : FrameOk C sc ns fn env lo S Γ s.heap) : ∃ S', (∀ a, S' a → S a) ∧ (∀ a, S a → a < lo → S' a) ∧ FrameOk C sc ns fn env lo S' (Mine.thaw Γ) s.heap := by
  refine ⟨fun a => S a ∧ ¬ ownAt env ns sc Γ s.heap a, fun a z => z.1, fun a z l => ⟨z, fun q => absurd l (Nat.not_lt.mpr (ownAt.list F q).2)⟩, ?_⟩
  · have av : ∀ {v : Value} {d : PyData}, Rp s.heap S v d → Rp s.heap (fun a => S a ∧ ¬ ownAt env ns sc Γ s.heap a) v d := fun r => r.avoid fun b o _ m z => m z.1
    have avl : ∀ {v : List Value} {d : List PyData}, RpAll s.heap S v d → RpAll s.heap (fun a => S a ∧ ¬ ownAt env ns sc Γ s.heap a) v d := fun r => r.avoid fun b o _ m z => m z.1
    have hmap : ∀ j : Nat, (Mine.thaw Γ).getD j .un = (Γ.getD j .un).thaw := fun j => by
      unfold Mine.thaw
      rw [List.getD_eq_getElem?_getD, List.getD_eq_getElem?_getD, List.getElem?_map]
      cases Γ[j]? <;> rfl
    have key : ∀ (i : Nat) (x : Str) (vo : Option Value), SlotAt s.heap lo S (Γ.getD i .un) vo → (∀ a xs, Γ.getD i .un = .own xs → vo = some (.ref a) → ownAt env ns sc Γ s.heap a) → SlotAt s.heap lo (fun a => S a ∧ ¬ ownAt env ns sc Γ s.heap a) ((Mine.thaw Γ).getD i .un) vo := fun i x vo z w => by
      rw [hmap]
      cases hs : Γ.getD i .un with
      | un => trivial
      | v d => rw [hs] at z; obtain ⟨v, e, r⟩ := z; exact ⟨v, e, av r⟩
      | own xs =>
        rw [hs] at z
        obtain ⟨a, vs, e, h1, h2, h3, r⟩ := z
        exact ⟨.ref a, e, .list h3 (fun q => q.2 (w a xs hs e)) (avl r)⟩
    have own_of : ∀ (i : Nat) xs, Γ.getD i .un = .own xs → Γ[i]? = some (.own xs) := fun i xs h => by
      rw [List.getD_eq_getElem?_getD] at h
      cases hq : Γ[i]? with
      | none => rw [hq] at h; cases h
      | some y => rw [hq] at h; exact congrArg some h
    obtain ⟨m, hn, hloc⟩ := F.loc
    refine ⟨F.scope, F.kind, F.glob, F.blt, F.nd,
      ⟨m, hn, fun i x hx hl => key i x _ (hloc i x hx hl) fun a xs hg hv => ⟨i, x, xs, hx, own_of i xs hg, .inl ⟨hl, m, hn, hv⟩⟩⟩,
      fun i x hx hl => ?_, F.apart, ⟨⟨F.locS.1, ?_⟩, F.locS.2⟩, fun x c hc => ⟨F.celS x c hc, ?_⟩, F.celC, F.celM, fun a z => F.bd a z.1, fun a z => F.bs a z.1, F.nofree, F.lob, fun i j xs ys a b => ?_⟩
    · obtain ⟨b1, c, vo, b2, b3, b4⟩ := F.cel i x hx hl
      exact ⟨b1, c, vo, b2, b3, key i x _ b4 fun a xs hg hv => ⟨i, x, xs, hx, own_of i xs hg, .inr ⟨hl, c, b2, hv ▸ b3⟩⟩⟩
    · intro z
      obtain ⟨⟨vs, n, e⟩, _⟩ := ownAt.list F z
      obtain ⟨o, es, nn, e', dd, _⟩ := hn
      rw [e] at e'; cases e'; cases dd
    · intro z
      obtain ⟨⟨vs, n, e⟩, _⟩ := ownAt.list F z
      obtain ⟨vo, oc, ec, dc⟩ := F.celC x c hc
      rw [e] at ec; cases ec; cases dc
    · unfold Mine.thaw at a
      rw [List.getElem?_map] at a
      cases hq : Γ[i]? with
      | none => rw [hq] at a; cases a
      | some y => rw [hq] at a; cases y <;> cases a

theorem Ex1.assign (W : Wf C) {x : Str} {p' p : Pos} {val : Expr} (i : Nat) (hev : Ev C k sc ns Γ val d) (hx : ns[i]? = some x := by rfl) (hi : i < Γ.length := by exact of_decide_eq_true rfl)
    (hs : ∀ env : Env, swapsWith val (some (.Name x p')) p.line env = pure false := by intro _; rfl) : Ex1 C k sc ns Γ (.Assign [.Name x p'] val p) (· = .next (Γ.set i (.v d))) :=
  fun A env lo S s R I F => wpAny_Assign_Name (hev.go W R I F fun v s₁ k₁ r₁ I₁ F₁ => frame_storeV W F₁ hx (.inl rfl) hi r₁ fun s₂ k₂ F₂ => ⟨_, rfl, k₁.no.trans k₂, S, SExt.refl, F₂⟩) (hs env)
theorem Ex.assign (W : Wf C) {x : Str} {p' p : Pos} {val : Expr} {rest : List Stmt} {Q : Out → Prop} (i : Nat) (hev : Ev C k sc ns Γ val d) (hr : Ex C k sc ns (Γ.set i (.v d)) rest Q) (hx : ns[i]? = some x := by rfl) (hi : i < Γ.length := by exact of_decide_eq_true rfl)
    (hs : ∀ env : Env, swapsWith val (some (.Name x p')) p.line env = pure false := by intro _; rfl) : Ex C k sc ns Γ (.Assign [.Name x p'] val p :: rest) Q :=
  .cons W ((Ex1.assign W i hev hx hi hs).mono fun o h => h ▸ hr)

theorem Ev.goT (W : Wf C) (x : Ev C k sc ns (thaw Γ) e d) (r : Room A k) (I : Inv C s) (F : FrameOk C sc ns fn env lo S Γ s.heap) {Q : Value → Shared → Prop} {E : Value → Shared → Prop}
    (q : ∀ v s', KB C No s s' → Rp s'.heap (fun a => S a ∧ a < lo) v d → Q v s') : wpAny (model C.prog C.w) A (eval e env) Q E s := by
  obtain ⟨S', h1, h2, F'⟩ := F.thaw
  exact wq (x A env fn lo S' s r I F') fun v s' ⟨k', r'⟩ => q v s' k' (r'.avoid fun b o _ m z => m (h2 b z.1 z.2))
theorem Ts.goT (W : Wf C) {b : Bool} (x : Ts C k sc ns (thaw Γ) e b) (r : Room A k) (I : Inv C s) (F : FrameOk C sc ns fn env lo S Γ s.heap) {Q : Bool → Shared → Prop} {E : Value → Shared → Prop}
    (q : ∀ s', KB C No s s' → Inv C s' → FrameOk C sc ns fn env lo S Γ s'.heap → Q b s') : wpAny (model C.prog C.w) A (isTrue e env (eval e env)) Q E s := by
  obtain ⟨S', h1, h2, F'⟩ := F.thaw
  exact wq (x A env fn lo S' s r I F') fun v s' ⟨k', p⟩ => p ▸ q s' k' (I.no W k') (F.no W k')

theorem Ex.ret (W : Wf C) {p : Pos} {rest : List Stmt} {Q : Out → Prop} (hev : Ev C k sc ns (thaw Γ) e d) (h : Q (.ret d)) : Ex C k sc ns Γ (.Return (.some e) p :: rest) Q :=
  .cons W fun A env lo S s R I F => wpAny_Return_some (hev.goT W R I F fun v s₁ k₁ r₁ => ⟨.ret d, h, k₁.no, r₁⟩)

theorem Ex.ite (W : Wf C) {t : Expr} {body orelse rest : List Stmt} {p : Pos} {b : Bool} {Q : Out → Prop} (ht : Ts C k sc ns (thaw Γ) t b) (hx : b = true → Ex C k sc ns Γ body (Then C k sc ns rest Q)) (hy : b = false → Ex C k sc ns Γ orelse (Then C k sc ns rest Q)) :
    Ex C k sc ns Γ (.If t body orelse p :: rest) Q :=
  .cons W fun A env lo S s R I F => wpAny_If (ht.goT W R I F fun s₁ k₁ I₁ F₁ => by
    have fin : ∀ {st : List Stmt}, Ex C k sc ns Γ st (Then C k sc ns rest Q) → wpAny (model C.prog C.w) A (execs st env) (fun f s' => ∃ out, Then C k sc ns rest Q out ∧ KB C (MuOf lo S) s s' ∧ OutOk C sc ns env lo S s.heap s' f out) (fun _ _ => False) s₁ :=
      fun h => wq (h A env lo S s₁ R I₁ F₁) fun f s₂ ⟨out, hq, k₂, ho⟩ => ⟨out, hq, k₁.no.trans k₂, ho.join k₁ (fun _ z => False.elim z) SExt.refl⟩
    cases b with
    | true => exact fin (hx rfl)
    | false => exact fin (hy rfl))

inductive Tgt (fn : Str → Bool) (sc : Scope) (ns : List Str) : List Expr → List Nat → Prop
  | nil : Tgt fn sc ns [] []
  | cons {x : Str} {p : Pos} {es is} (i : Nat) (t : Tgt fn sc ns es is) (hx : ns[i]? = some x := by rfl) (hw : fn x = true ∨ sc.names.lookup x = some .local := by exact .inl rfl) : Tgt fn sc ns (.Name x p :: es) (i :: is)
noncomputable def sets : List Sl → List Nat → List PyData → List Sl
  | Γ, i :: is, d :: ds => sets (Γ.set i (.v d)) is ds
  | Γ, _, _ => Γ
theorem Tgt.length {es : List Expr} {is : List Nat} (h : Tgt fn sc ns es is) : (assignEach es env).length = is.length := by
  induction h with
  | nil => rfl
  | cons i t hx hw ih => show (_ :: assignEach _ env).length = _; rw [List.length_cons, List.length_cons, ih]
theorem Tgt.nostar {es : List Expr} {is : List Nat} (h : Tgt fn sc ns es is) : (assignEach es env).findIdx? (·.1) = .none := by
  induction h with
  | nil => rfl
  | cons i t hx hw ih => show ((false, _) :: assignEach _ env).findIdx? (·.1) = _; rw [List.findIdx?_cons, ih]; rfl
theorem Tgt.go (W : Wf C) {es : List Expr} {is : List Nat} (h : Tgt fn sc ns es is) : ∀ {Γ : List Sl} {s : Shared} {vs : List Value} {ds : List PyData}, (∀ i ∈ is, i < Γ.length) → RpAll s.heap S vs ds → FrameOk C sc ns fn env lo S Γ s.heap → ds.length = is.length →
    ∀ {Q : Unit → Shared → Prop} {E : Value → Shared → Prop}, (∀ s', KB C (MuOf lo S) s s' → FrameOk C sc ns fn env lo S (sets Γ is ds) s'.heap → Q () s') → wpAny (model C.prog C.w) A (assignInOrder ((assignEach es env).map (·.2)) vs) Q E s := by
  induction h with
  | nil =>
    intro Γ s vs ds hi r F hl Q E q
    cases ds with
    | nil => cases r; exact wpAny_pure (q s KB.refl F)
    | cons _ _ => cases hl
  | cons i t hx hw ih =>
    intro Γ s vs ds hi r F hl Q E q
    cases r with
    | nil => cases hl
    | cons rv rr =>
      show wpAny _ A (holding _ (assign (.Name _ _) env _) >>= fun _ => assignInOrder ((assignEach _ env).map (·.2)) _) _ _ s
      refine wpAny_bind (wpAny_holding (wpAny_assign_Name (frame_storeV W F hx hw (hi i (.head _)) rv fun s₁ k₁ F₁ => ?_)))
      exact ih (fun j hj => by rw [List.length_set]; exact hi j (.tail _ hj)) (rr.kb k₁ fun a z => z.1) F₁ (by simpa using hl) fun s₂ k₂ F₂ => q s₂ (k₁.trans k₂) F₂
theorem kb_ext {h' : Heap} (I : Inv C s) (he : Heap.ExtBut s.heap.objs.size s.heap h') : KB C Mu s { s with heap := h' } :=
  KB.grow (t := s.toks) fun b o e => he b o (fun z => by subst z; exact absurd (Heap.lt_size e) (Nat.lt_irrefl _)) e

theorem Ex.tup (W : Wf C) {es : List Expr} {is : List Nat} {kk : Nat} {tp p : Pos} {val : Expr} {ds : List PyData} {rest : List Stmt} {Q : Out → Prop} (ht : Tgt allW sc ns es is) (hev : Ev C k sc ns Γ val (.tuple ds)) (hr : Ex C k sc ns (sets Γ is ds) rest Q)
    (hl : ds.length = is.length := by rfl) (hi : ∀ i ∈ is, i < Γ.length := by exact of_decide_eq_true rfl)
    (hs : ∀ env : Env, swapsWithSole [.Tuple es kk tp] val p.line env = pure false := by intro _; rfl) (hw : ∀ env : Env, swappedStores [.Tuple es kk tp] val env = pure .none := by intro _; rfl) :
    Ex C k sc ns Γ (.Assign [.Tuple es kk tp] val p :: rest) Q :=
  .cons W fun A env lo S s R I F => Assign_Tuple (hev.go W R I F fun v s₁ k₁ r₁ I₁ F₁ => by
    obtain ⟨a, vs, rfl, h1, h2, h3⟩ := r₁.tuple_inv
    refine assign_Tuple_tuple R.handled h1 (by rw [ht.length, ← hl, ← h3.length]; simp) ht.nostar fun h' he => ?_
    have kb : KB C No s₁ { s₁ with heap := h' } := kb_ext I₁ he
    exact ht.go W hi (h3.no kb) (F₁.no W kb) hl fun s₂ k₂ F₂ => ⟨.next _, hr, (k₁.trans kb).no.trans k₂, S, SExt.refl, F₂⟩) (hs env) (hw env)
theorem Ex.tupSwap (W : Wf C) {es : List Expr} {names : List Str} {is : List Nat} {kk : Nat} {tp p : Pos} {val : Expr} {ds : List PyData} {rest : List Stmt} {Q : Out → Prop}
    (hev : Ev C k sc ns Γ val (.tuple ds)) (hr : Ex C k sc ns (sets Γ is.reverse ds.reverse) rest Q)
    (hn : ∀ j : Nat, names[j]? = (is[j]?).bind (ns[·]?)) (hln : names.length = is.length := by rfl) (hl : ds.length = is.length := by rfl) (hi : ∀ i ∈ is, i < Γ.length := by exact of_decide_eq_true rfl)
    (hs : ∀ env : Env, swapsWithSole [.Tuple es kk tp] val p.line env = pure false := by intro _; rfl) (hw : ∀ env : Env, env.scope = sc → swappedStores [.Tuple es kk tp] val env = pure (.some names)) :
    Ex C k sc ns Γ (.Assign [.Tuple es kk tp] val p :: rest) Q :=
  .cons W fun A env lo S s R I F => Assign_Tuple_swapped (hev.go W R I F fun v s₁ k₁ r₁ I₁ F₁ => by
    obtain ⟨a, vs, rfl, h1, h2, h3⟩ := r₁.tuple_inv
    have hsz : names.length = vs.size := by rw [hln, ← hl, ← h3.length]; simp
    rw [hsz]
    refine unpackItems_tuple R.handled h1 fun h' he => ?_
    have kb : KB C No s₁ { s₁ with heap := h' } := kb_ext I₁ he
    have key : ∀ (nms : List Str) (js : List Nat), (∀ j : Nat, nms[j]? = (js[j]?).bind (ns[·]?)) → nms.length = js.length → (∀ i ∈ js, i < Γ.length) → ∀ {Γ' : List Sl} {s : Shared} {vs : List Value} {ds : List PyData}, Γ'.length = Γ.length → RpAll s.heap S vs ds → FrameOk C sc ns allW env lo S Γ' s.heap → ds.length = js.length →
        ∀ {Q : Unit → Shared → Prop} {E : Value → Shared → Prop}, (∀ s', KB C (MuOf lo S) s s' → FrameOk C sc ns allW env lo S (sets Γ' js ds) s'.heap → Q () s') → wpAny (model C.prog C.w) A (assignInOrder (nms.map fun n => bindName env n) vs) Q E s := by
      intro nms
      induction nms with
      | nil =>
        intro js _ hl _ Γ' s vs ds _ r F hd Q E q
        cases js with
        | cons _ _ => cases hl
        | nil => cases ds with
          | nil => cases r; exact wpAny_pure (q s KB.refl F)
          | cons _ _ => cases hd
      | cons n nms ih =>
        intro js hj hl hi Γ' s vs ds hΓ r F hd Q E q
        cases js with
        | nil => cases hl
        | cons i js =>
          cases r with
          | nil => cases hd
          | cons rv rr =>
            show wpAny _ A (holding _ (bindName env n _) >>= fun _ => assignInOrder (nms.map fun n => bindName env n) _) _ _ s
            have hx : ns[i]? = some n := by have := hj 0; simpa using this.symm
            refine wpAny_bind (wpAny_holding (wpAny_bindName (frame_storeV W F hx (.inl rfl) (by rw [hΓ]; exact hi i (.head _)) rv fun s₁ k₁ F₁ => ?_)))
            exact ih js (fun j => by have := hj (j + 1); simpa using this) (by simpa using hl) (fun j hj => hi j (.tail _ hj)) (by rw [List.length_set, hΓ]) (rr.kb k₁ fun a z => z.1) F₁ (by simpa using hd) fun s₂ k₂ F₂ => q s₂ (k₁.trans k₂) F₂
    have hrev : ∀ j : Nat, names.reverse[j]? = (is.reverse[j]?).bind (ns[·]?) := fun j => by
      by_cases hj : j < names.length
      · rw [List.getElem?_reverse hj, List.getElem?_reverse (hln ▸ hj), hn, hln]
      · rw [List.getElem?_eq_none (by simpa using hj), List.getElem?_eq_none (by simpa [← hln] using hj)]; rfl
    exact key names.reverse is.reverse hrev (by simpa using hln) (fun i hi' => hi i (by simpa using hi')) rfl ((h3.no kb).reverse) (F₁.no W kb) (by simpa using hl) fun s₂ k₂ F₂ => ⟨.next _, hr, (k₁.trans kb).no.trans k₂, S, SExt.refl, F₂⟩) (hs env) (hw env F.scope)
end Mine
end

noncomputable section
open PySem PySem.W PyProof.Rows
namespace Mine
variable {C : Cx} {k : Nat} {sc : Scope} {ns : List Str} {fn : Str → Bool} {env : Env} {lo : Nat} {S S' S'' : Addr → Prop} {Γ Γ' : List Sl} {s s' s'' : Shared} {A : Around} {Mu : Addr → Prop} {e : Expr} {d : PyData}

noncomputable def InpOk (C : Cx) (k : Nat) (op : Operator) (da db dc : PyData) : Prop :=
  ∀ A S s va vb, Room A k → Inv C s → Rp s.heap S va da → Rp s.heap S vb db → wpAny (model C.prog C.w) A (inplaceOp op va vb) (fun v s' => KB C No s s' ∧ Rp s'.heap S v dc) (fun _ _ => False) s
section
variable {a b : Int}
theorem InpOk.add : InpOk C k .Add (.int a) (.int b) (.int (a + b)) := fun _ _ _ _ _ _ _ ha hb => by obtain ⟨_, rfl⟩ := ha.int_inv; obtain ⟨_, rfl⟩ := hb.int_inv; exact P.iadd_int ⟨KB.toks0, .int _ _⟩
theorem InpOk.sub : InpOk C k .Sub (.int a) (.int b) (.int (a - b)) := fun _ _ _ _ _ _ _ ha hb => by obtain ⟨_, rfl⟩ := ha.int_inv; obtain ⟨_, rfl⟩ := hb.int_inv; exact isub_int ⟨KB.toks0, .int _ _⟩
theorem InpOk.shl (h : 0 ≤ b) (h2 : (Builtin.Int.intBits a : Int) + b ≤ 2 ^ 27) : InpOk C k .LShift (.int a) (.int b) (.int (a * 2 ^ b.toNat)) := fun _ _ _ _ _ _ _ ha hb => by obtain ⟨_, rfl⟩ := ha.int_inv; obtain ⟨_, rfl⟩ := hb.int_inv; exact ilshift_int h h2 ⟨KB.toks0, .int _ _⟩
theorem InpOk.shr (h : 0 ≤ b) : InpOk C k .RShift (.int a) (.int b) (.int (a.fdiv (2 ^ b.toNat))) := fun _ _ _ _ _ _ _ ha hb => by obtain ⟨_, rfl⟩ := ha.int_inv; obtain ⟨_, rfl⟩ := hb.int_inv; exact irshift_int h ⟨KB.toks0, .int _ _⟩
end
theorem Ex.aug (W : Wf C) {x : Str} {p' p : Pos} {op : Operator} {val : Expr} {da db dc : PyData} {rest : List Stmt} {Q : Out → Prop} (i : Nat) (hev : Ev C k sc ns Γ val db) (ho : InpOk C k op da db dc) (hr : Ex C k sc ns (Γ.set i (.v dc)) rest Q)
    (hx : ns[i]? = some x := by rfl) (ha : Γ[i]? = some (.v da) := by rfl) : Ex C k sc ns Γ (.AugAssign (.Name x p') op val p :: rest) Q :=
  .cons W fun A env lo S s R I F => wpAny_AugAssign_Name (frame_load F hx ha fun va ra => hev.go W R I F fun vb s₁ k₁ rb I₁ F₁ => wq (ho A S s₁ va vb R I₁ (ra.no k₁) rb) fun v s₂ ⟨k₂, r₂⟩ =>
    frame_storeV W (F₁.no W k₂) hx (.inl rfl) (List.getElem?_eq_some_iff.mp ha).1 r₂ fun s₃ k₃ F₃ => ⟨.next _, hr, (k₁.trans k₂).no.trans k₃, S, SExt.refl, F₃⟩)

noncomputable def Loads (env : Env) (sc : Scope) (h : Heap) (x : Str) (v : Value) : Prop :=
  (sc.names.lookup x = some .local ∧ ∃ m, h.Ns env.locals m ∧ m x = some v) ∨ (sc.names.lookup x ≠ some .local ∧ ∃ c, env.cells.lookup x = some c ∧ h.IsCell c (some v))
theorem FrameOk.own (F : FrameOk C sc ns fn env lo S Γ s.heap) {x : Str} {i : Nat} {xs : List PyData} (hx : ns[i]? = some x) (hv : Γ[i]? = some (.own xs)) :
    ∃ a vs, Loads env sc s.heap x (.ref a) ∧ S a ∧ lo ≤ a ∧ s.heap.PlainList a vs ∧ RpAll s.heap S vs.toList xs := by
  have hg : Γ.getD i .un = .own xs := by rw [List.getD_eq_getElem?_getD, hv]; rfl
  by_cases hl : sc.names.lookup x = some .local
  · obtain ⟨m, hn, h⟩ := F.loc
    have z := h i x hx hl
    rw [hg] at z
    obtain ⟨a, vs, e, r⟩ := z
    exact ⟨a, vs, .inl ⟨hl, m, hn, e⟩, r⟩
  · obtain ⟨_, c, vo, h2, h3, h4⟩ := F.cel i x hx hl
    rw [hg] at h4
    obtain ⟨a, vs, e, r⟩ := h4
    subst e
    exact ⟨a, vs, .inr ⟨hl, c, h2, h3⟩, r⟩
theorem Loads.load (F : FrameOk C sc ns fn env lo S Γ s.heap) {x : Str} {i : Nat} {v : Value} (hx : ns[i]? = some x) (l : Loads env sc s.heap x v) {Q : Value → Shared → Prop} {E : Value → Shared → Prop} (q : Q v s) : wpAny (model C.prog C.w) A (loadName env x) Q E s := by
  have hk : env.kindOf x = sc.names.lookup x := by unfold Env.kindOf; rw [F.scope]
  have hf : env.scope.kind = .function := by rw [F.scope]; exact F.kind
  rcases l with ⟨h1, m, n, e⟩ | ⟨h1, c, e, y⟩
  · exact wpAny_loadName_local hf (hk.trans h1) n e q
  · obtain ⟨b1, _⟩ := F.cel i x hx h1
    rcases b1 with b1 | ⟨b1, b5⟩
    · exact wpAny_loadName_cell hf (hk.trans b1) e y q
    · exact wpAny_loadName_free hf (hk.trans b1) e y q b5
theorem Loads.no (W : Wf C) (F : FrameOk C sc ns fn env lo S Γ s.heap) {x : Str} {v : Value} (l : Loads env sc s.heap x v) (k : KB C No s s') : Loads env sc s'.heap x v := by
  rcases l with ⟨h1, m, n, e⟩ | ⟨h1, c, e, y⟩
  · exact .inl ⟨h1, m, Ns.kb n k (fun z => z) (fun z => absurd (W.tlt _ z) (Nat.not_lt.mpr (F.bs _ F.locS.1))), e⟩
  · exact .inr ⟨h1, c, e, IsCell.no y k W (F.bs _ (F.celS _ _ e))⟩

theorem FrameOk.updOwn (F : FrameOk C sc ns allW env lo S Γ s.heap) {x : Str} {i : Nat} {xs xs' : List PyData} {a : Addr} {vs vs' : Array Value} {h' : Heap} (hx : ns[i]? = some x) (hv : Γ[i]? = some (.own xs))
    (l : Loads env sc s.heap x (.ref a)) (hS : S a) (hlo : lo ≤ a) (hp : s.heap.PlainList a vs) (hs : Heap.SameBut a s.heap h') (hp' : h'.PlainList a vs') (r : RpAll s.heap S vs'.toList xs') :
    KB C (MuOf lo S) s { s with heap := h' } ∧ FrameOk C sc ns allW env lo S (Γ.set i (.own xs')) h' := by
  obtain ⟨n, e⟩ := id hp
  have hi := (List.getElem?_eq_some_iff.mp hv).1
  have kb : KB C (MuOf lo S) s { s with heap := h' } := KB.upd hs.extBut e (loose_seq rfl) ⟨hS, hlo⟩
  have K : ∀ b o, s.heap.get? b = some o → ¬ S b → SeqCls o → h'.get? b = some o := fun b o e m _ => hs.extBut b o (fun z => m (z ▸ hS)) e
  have other : ∀ (j : Nat) (vo : Option Value), i ≠ j → SlotAt s.heap lo S (Γ.getD j .un) vo → SlotAt h' lo S (Γ.getD j .un) vo := fun j vo hij z => by
    cases hq : Γ.getD j .un with
    | un => trivial
    | v d => rw [hq] at z; obtain ⟨v, e, r⟩ := z; exact ⟨v, e, r.kb' K⟩
    | own ys =>
      refine absurd (F.one i j xs ys hv ?_) hij
      rw [List.getD_eq_getElem?_getD] at hq
      cases hz : Γ[j]? with
      | none => rw [hz] at hq; cases hq
      | some y => rw [hz] at hq; exact congrArg some hq
  have slot : SlotAt h' lo S (.own xs') (some (.ref a)) := ⟨a, vs', rfl, hS, hlo, hp', r.kb' K⟩
  obtain ⟨m, hn, hloc⟩ := F.loc
  have hnL : h'.Ns env.locals m := hn.sameBut hs fun z => by
    obtain ⟨o, es, nn, e', dd, _⟩ := hn
    rw [z, e] at e'; cases e'; cases dd
  refine ⟨kb, F.scope, F.kind, F.glob, F.blt, F.nd, ⟨m, hnL, fun j y hy hly => ?_⟩, fun j y hy hly => ?_, F.apart, F.locS, F.celS, fun y c hc => ?_, F.celM, F.bd.upd hs.extBut (let ⟨n', e'⟩ := hp'; ⟨_, e'⟩), F.bs, F.nofree, F.lob, fun p q ys zs h1 h2 => ?_⟩
  · rw [getD_set hi]
    by_cases hij : i = j
    · rw [if_pos hij]
      have hxy := (nd_ne F.nd hx hy).mp hij
      subst hxy
      rcases l with ⟨_, m', n', e'⟩ | ⟨h1, _⟩
      · rw [Ns.uniq hn n', e']; exact slot
      · exact absurd hly h1
    · rw [if_neg hij]; exact other j _ hij (hloc j y hy hly)
  · obtain ⟨b1, c, vo, b2, b3, b4⟩ := F.cel j y hy hly
    have hca : c ≠ a := fun z => by obtain ⟨o, eo, dd⟩ := b3; rw [z, e] at eo; cases eo; cases dd
    refine ⟨b1, c, vo, b2, b3.sameBut hs hca, ?_⟩
    rw [getD_set hi]
    by_cases hij : i = j
    · rw [if_pos hij]
      have hxy := (nd_ne F.nd hx hy).mp hij
      subst hxy
      rcases l with ⟨h1, _⟩ | ⟨_, c', e', q'⟩
      · exact absurd h1 hly
      · rw [b2] at e'; cases e'
        obtain ⟨o, eo, dd⟩ := b3
        obtain ⟨o', eo', dd'⟩ := q'
        rw [eo] at eo'; cases eo'
        rw [dd] at dd'; cases dd'
        exact slot
    · rw [if_neg hij]; exact other j _ hij b4
  · obtain ⟨vo, q⟩ := F.celC y c hc
    exact ⟨vo, q.sameBut hs fun z => by obtain ⟨o, eo, dd⟩ := q; rw [z, e] at eo; cases eo; cases dd⟩
  · have key : ∀ (p : Nat) ys, (Γ.set i (.own xs'))[p]? = some (.own ys) → p = i := fun p ys h => by
      rw [List.getElem?_set] at h
      by_cases hp : i = p
      · exact hp.symm
      · rw [if_neg hp] at h; exact F.one p i ys xs h hv
    exact (key p ys h1).trans (key q zs h2).symm

theorem interactive_no (F : FrameOk C sc ns fn env lo S Γ s.heap) : interactive env = false := by
  unfold interactive; rw [F.scope, F.kind]; rfl

theorem Ex.append (W : Wf C) {x : Str} {elt : Expr} {np apos pos p : Pos} {xs : List PyData} {rest : List Stmt} {Q : Out → Prop} (i : Nat) (hev : Ev C k sc ns Γ elt d) (hr : Ex C k sc ns (Γ.set i (.own (xs ++ [d]))) rest Q) (hsz : xs.length ≤ sizeLine)
    (hx : ns[i]? = some x := by rfl) (hv : Γ[i]? = some (.own xs) := by rfl) (hst : isStarred elt = false := by rfl) (hline : (apos.endLine == pos.line) = true := by rfl) (hd : (x == ("__debug__" : Str)) = false := by decide) :
    Ex C k sc ns Γ (.Expr (.Call (.Attribute (.Name x np) "append" apos) [elt] [] pos) p :: rest) Q :=
  .cons W fun A env lo S s R I F => wpAny_Expr (wpAny_Call_append rfl (by rw [starEach_cons hst]; rfl) hline (by rw [starEach_cons hst]; rfl) (by
    obtain ⟨a, vs, l, hS, hlo, hp, r⟩ := F.own hx hv
    refine wpAny_Name (l.load F hx ⟨a, vs, rfl, let ⟨n, e⟩ := hp; ⟨_, n, e, rfl, rfl, rfl⟩, ?_⟩) hd
    refine hev.go W R I F fun v s₁ k₁ r₁ I₁ F₁ => ?_
    have hp₁ : s₁.heap.PlainList a vs := hp.at fun o e => k₁.keep _ _ e (fun z => z) fun z => by obtain ⟨n, e'⟩ := hp; rw [e] at e'; cases e'; cases z.2
    refine wpAny_list_append_plain hp₁ (fun h' hp' hs => ?_) (by have := r.length; simp at this; lia)
    obtain ⟨kb, F₂⟩ := F₁.updOwn (xs' := xs ++ [d]) hx hv (l.no W F k₁) hS hlo hp₁ hs hp' (by rw [Array.toList_push]; exact RpAll.append (.cons r₁ .nil) (r.no k₁))
    exact ⟨.next _, hr, k₁.no.trans kb, S, SExt.refl, F₂⟩)) (interactive_no F) rfl

noncomputable def noOwn : List Sl → Bool
  | [] => true
  | .own _ :: _ => false
  | _ :: r => noOwn r
theorem noOwn_get : ∀ {Γ : List Sl}, noOwn Γ = true → ∀ (j : Nat) xs, Γ[j]? ≠ some (.own xs)
  | [], _, j, xs, h => by simp at h
  | .own _ :: _, h, _, _, _ => by cases h
  | .un :: r, h, 0, xs, e => by simp at e
  | .v _ :: r, h, 0, xs, e => by simp at e
  | .un :: r, h, j + 1, xs, e => noOwn_get (Γ := r) h j xs (by simpa using e)
  | .v _ :: r, h, j + 1, xs, e => noOwn_get (Γ := r) h j xs (by simpa using e)

theorem SlotAt.wider {sl : Sl} {vo : Option Value} {a : Addr} {h : Heap} (ha : h.get? a = .none) (x : SlotAt h lo S sl vo) : SlotAt h lo (fun b => S b ∨ b = a) sl vo := by
  have K : ∀ b o, h.get? b = some o → ¬ S b → ¬ (S b ∨ b = a) := fun b o e m z => z.elim m fun q => by rw [q, ha] at e; cases e
  cases sl with
  | un => trivial
  | v d => obtain ⟨v, e, r⟩ := x; exact ⟨v, e, r.avoid K⟩
  | own xs => obtain ⟨b, vs, e, h1, h2, h3, r⟩ := x; exact ⟨b, vs, e, .inl h1, h2, h3, r.avoid K⟩
theorem FrameOk.wider (W : Wf C) (F : FrameOk C sc ns fn env lo S Γ s.heap) (k : KB C No s s') {a : Addr} (ha : s.heap.get? a = .none) (hl : ∃ o, s'.heap.get? a = some o) (hb : C.base ≤ a) : FrameOk C sc ns fn env lo (fun b => S b ∨ b = a) Γ s'.heap where
  scope := F.scope
  kind := F.kind
  glob := F.glob
  blt := F.blt
  nd := F.nd
  loc := let ⟨m, hn, h⟩ := F.loc; ⟨m, Ns.kb hn k (fun z => z) (fun z => absurd (W.tlt _ z) (Nat.not_lt.mpr (F.bs _ F.locS.1))), fun i x e q => ((h i x e q).wider ha).no k⟩
  cel := fun i x e q => let ⟨h1, c, vo, h2, h3, h4⟩ := F.cel i x e q; ⟨h1, c, vo, h2, IsCell.no h3 k W (F.bs _ (F.celS _ _ h2)), (h4.wider ha).no k⟩
  apart := F.apart
  locS := ⟨.inl F.locS.1, F.locS.2⟩
  celS := fun x c e => .inl (F.celS x c e)
  celC := fun x c e => let ⟨vo, q⟩ := F.celC x c e; ⟨vo, IsCell.no q k W (F.bs _ (F.celS _ _ e))⟩
  celM := F.celM
  bd := fun b z => z.elim (fun z => F.bd.no k b z) fun z => z ▸ hl
  bs := fun b z => z.elim (F.bs b) fun z => z ▸ hb
  nofree := F.nofree
  lob := F.lob
  one := F.one
theorem get_size (h : Heap) : h.get? h.objs.size = .none := by
  cases q : h.get? h.objs.size with
  | none => rfl
  | some o => exact absurd (Heap.lt_size q) (Nat.lt_irrefl _)
theorem FrameOk.lo_le (F : FrameOk C sc ns fn env lo S Γ s.heap) : lo ≤ s.heap.objs.size := by
  obtain ⟨o, e⟩ := F.bd _ F.locS.1
  exact Nat.le_trans F.locS.2 (Nat.le_of_lt (Heap.lt_size e))

theorem Ex.newOwn (W : Wf C) {x : Str} {p' lp p : Pos} {rest : List Stmt} {Q : Out → Prop} (i : Nat) (hr : Ex C k sc ns (Γ.set i (.own [])) rest Q) (hx : ns[i]? = some x := by rfl) (hi : i < Γ.length := by exact of_decide_eq_true rfl) (hno : noOwn Γ = true := by rfl) :
    Ex C k sc ns Γ (.Assign [.Name x p'] (.List [] lp) p :: rest) Q :=
  .cons W fun A env lo S s R I F => wpAny_Assign_Name (List_ (Calls.spliced_nil (wpAny_newObj_type (by
    have kb : KB C No s { s with heap := s.heap.push { cls := .type "list", data := .seq ([] : List Value).toArray } } := KB.push (t := s.toks)
    have hl : (s.heap.push { cls := .type "list", data := .seq ([] : List Value).toArray }).get? s.heap.objs.size = some { cls := .type "list", data := .seq ([] : List Value).toArray } := Heap.get?_push_size _ rfl
    have F₁ := F.wider W kb (get_size s.heap) ⟨_, hl⟩ (I.big W)
    have e : SExt s.heap lo S (fun b => S b ∨ b = s.heap.objs.size) := ⟨fun b z => z.elim .inl fun z => .inr (z ▸ get_size _), fun b z _ => .inl z⟩
    refine frame_store (sl := .own []) W F₁ hx (.inl rfl) hi (fun h' hk => ⟨_, #[], rfl, .inr rfl, F.lo_le, ⟨0, hk _ _ hl ?_⟩, .nil⟩) ?_ fun s₂ k₂ F₂ => ⟨.next _, hr, kb.no.join e k₂, _, e, F₂⟩
    · rintro (z | ⟨y, z⟩)
      · exact F.bd.fresh (z ▸ F.locS.1)
      · exact F.bd.fresh (F.celS _ _ z)
    · have key : ∀ (p : Nat) ys, (Γ.set i (.own []))[p]? = some (.own ys) → p = i := fun p ys h => by
        rw [List.getElem?_set] at h
        by_cases hp : i = p
        · exact hp.symm
        · rw [if_neg hp] at h; exact absurd h (noOwn_get hno p ys)
      exact fun m j xs ys h1 h2 => (key m xs h1).trans (key j ys h2).symm))))

theorem Ex.freeze (W : Wf C) {st : List Stmt} {Q : Out → Prop} (h : Ex C k sc ns (thaw Γ) st Q) : Ex C k sc ns Γ st Q := fun A env lo S s R I F => by
  obtain ⟨S', h1, h2, F'⟩ := F.thaw
  have e : SExt s.heap lo S S' := ⟨fun a z => .inl (h1 a z), h2⟩
  exact wq (h A env lo S' s R I F') fun f s' ⟨out, hq, k', ho⟩ => ⟨out, hq, (KB.refl (Mu := MuOf lo S)).join e k', ho.join (C := C) (Mu := No) KB.refl (fun _ z => False.elim z) e⟩
end Mine
end

noncomputable section
open PySem PySem.W PyProof.Rows
namespace Mine
variable {C : Cx} {k : Nat} {sc : Scope} {ns : List Str} {fn : Str → Bool} {env : Env} {lo : Nat} {S S' S'' : Addr → Prop} {Γ Γ' : List Sl} {s s' s'' : Shared} {A : Around} {Mu : Addr → Prop} {e : Expr} {d : PyData}

noncomputable def owners : List String := ["enumerate", "zip", "dict_itemiterator", "dict_reverseitemiterator", "odict_iterator", "itertools.zip_longest", "itertools.pairwise"]
noncomputable def ItObj (h : Heap) (it : Addr) : Prop := ∃ o T, h.get? it = some o ∧ o.cls = .type T ∧ owners.contains T = false ∧ ["code", "list", "tuple"].contains T = false
theorem ItObj.loose {h : Heap} {it : Addr} (x : ItObj h it) : ∃ o, h.get? it = some o ∧ Loose o := by
  obtain ⟨o, T, e, c, _, n⟩ := x
  refine ⟨o, e, .inr ⟨fun z => ?_, fun z => ?_⟩⟩
  · rw [c] at z; cases z
  · rw [c] at z; cases z; revert n; decide
theorem ItObj.noSeq {h : Heap} {it : Addr} (x : ItObj h it) {o : Obj} (e : h.get? it = some o) : ¬ SeqCls o := fun z => by
  obtain ⟨o', T, e', c, _, n⟩ := x
  rw [e] at e'; cases e'
  rcases z with z | z <;> (rw [c] at z; cases z; revert n; decide)
theorem letOwned {target : Expr} {it : Addr} {v : Value} (x : ItObj s.heap it) {Q : Unit → Shared → Prop} {E : Value → Shared → Prop} (q : Q () s) : wpAny (model C.prog C.w) A (letOwnedTupleGo target (.ref it) v) Q E s := by
  obtain ⟨o, T, e, c, n, _⟩ := x
  unfold letOwnedTupleGo
  have key : wpAny (model C.prog C.w) A (do
      let (.ref r, .ref a) := (Value.ref it, v) | return
      let o ← load r
      match o.cls, o.data with
      | .type n, .fields vs =>
        if ["enumerate", "zip", "dict_itemiterator", "dict_reverseitemiterator", "odict_iterator", "itertools.zip_longest", "itertools.pairwise"].contains n && vs[0]? == some (rawInt a) then
          rule "for.unpacks-the-owned-tuple"
          updateField r 0 .none
      | _, _ => pure ()) Q E s := by
    cases v <;> first | exact wpAny_pure q | skip
    refine wpAny_bind (wpAny_load e ?_)
    rw [c]
    cases o.data <;> first | exact wpAny_pure q | skip
    show wpAny _ _ (if (owners.contains T && _) = true then _ else _) _ _ _
    rw [n, Bool.false_and]
    exact wpAny_pure q
  cases target <;> first | exact wpAny_pure q | exact key

noncomputable def ItOk (C : Cx) (A : Around) (S : Addr → Prop) (it : Addr) (xs : List PyData) (h : Heap) : Prop :=
  ∃ fp wr n P St i, Walks C.prog C.w A it fp wr n P St ∧ St i h ∧ n = i + xs.length ∧ (∀ b ∈ fp, ¬ S b ∧ ¬ C.T b) ∧ (∀ b ∈ wr, b = it) ∧ (∀ i h, St i h → ItObj h it ∧ ∀ b ∈ fp, ∃ o, h.get? b = some o) ∧
    (∀ (j : Nat) v d, xs[j]? = some d → P (i + j) v → Rp h S v d)
theorem ItOk.obj {it : Addr} {xs : List PyData} {h : Heap} (x : ItOk C A S it xs h) : ItObj h it := by
  obtain ⟨_, _, _, _, _, _, q⟩ := x
  exact (q.2.2.2.2.2.1 _ _ q.2.1).1
theorem ItOk.kb {it : Addr} {xs : List PyData} (x : ItOk C A S it xs s.heap) (k : KB C Mu s s') (m : ∀ a, Mu a → S a) : ItOk C A S it xs s'.heap := by
  obtain ⟨fp, wr, n, P, St, i, W, st, e, hf, hw, ho, hp⟩ := x
  exact ⟨fp, wr, n, P, St, i, W, W.frame _ _ _ st fun b hb o eo => k.keep b o eo (fun z => (hf b hb).1 (m b z)) fun z => (hf b hb).2 z.1, e, hf, hw, ho, fun j v d q p => (hp j v d q p).kb k m⟩
theorem ItOk.avoid {it : Addr} {xs : List PyData} {h : Heap} (x : ItOk C A S it xs h) (k1 : ∀ b, ¬ S b → ¬ S' b) : ItOk C A S' it xs h := by
  obtain ⟨fp, wr, n, P, St, i, W, st, e, hf, hw, ho, hp⟩ := x
  exact ⟨fp, wr, n, P, St, i, W, st, e, fun b hb => ⟨k1 b (hf b hb).1, (hf b hb).2⟩, hw, ho, fun j v d q p => (hp j v d q p).avoid fun b o _ => k1 b⟩
theorem ItOk.both {it : Addr} {xs : List PyData} {h : Heap} (x : ItOk C A S it xs h) (k1 : ∀ b, S' b → S b ∨ h.get? b = .none) : ItOk C A (fun a => S a ∨ S' a) it xs h := by
  obtain ⟨fp, wr, n, P, St, i, W, st, e, hf, hw, ho, hp⟩ := x
  have key : ∀ b o, h.get? b = some o → ¬ S b → ¬ (S b ∨ S' b) := fun b o q m z => by
    rcases z with z | z
    · exact m z
    · rcases k1 b z with z | z
      · exact m z
      · rw [q] at z; cases z
  exact ⟨fp, wr, n, P, St, i, W, st, e, fun b hb => ⟨let ⟨o, q⟩ := (ho _ _ st).2 b hb; key b o q (hf b hb).1, (hf b hb).2⟩, hw, ho, fun j v d q p => (hp j v d q p).avoid key⟩
theorem kb_it {h' : Heap} {tk : Nat} {it : Addr} {wr : List Addr} (hw : ∀ b ∈ wr, b = it) (o : ItObj s.heap it) (hk : ∀ b o, b ∉ wr → s.heap.get? b = some o → h'.get? b = some o) (ht : s.toks ≤ tk) : KB C (· = it) s { s with heap := h', toks := tk } := by
  obtain ⟨o, e, l⟩ := o.loose
  exact KB.upd (a := it) (fun b o hb e => hk b o (fun z => hb (hw b z)) e) e l rfl ht
theorem ItOk.next {it : Addr} {x : PyData} {xs : List PyData} (h : ItOk C A S it (x :: xs) s.heap) (hS : ¬ S it) {Q : Option Value → Shared → Prop} {E : Value → Shared → Prop}
    (q : ∀ v s', KB C (· = it) s s' → Rp s'.heap S v x → ItOk C A S it xs s'.heap → Q (some v) s') : wpAny (model C.prog C.w) A (pyNext (.ref it)) Q E s := by
  obtain ⟨fp, wr, n, P, St, i, W, st, e, hf, hw, ho, hp⟩ := id h
  refine wpAny_with_toks (Nat.le_refl s.toks) (W.item i s _ _ (by rw [e, List.length_cons]; lia) st fun v h' tk pv st' hk ht => ?_)
  have kb : KB C (· = it) s { s with heap := h', toks := tk } := kb_it hw (ho _ _ st).1 hk ht
  have mv : ∀ {v : Value} {d : PyData}, Rp s.heap S v d → Rp h' S v d := fun r => r.kb' fun b o e m c => hk b o (fun z => by
    have hb := hw b z
    subst hb
    exact (ho _ _ st).1.noSeq e c) e
  refine q v _ kb (mv (hp 0 v x rfl pv)) ⟨fp, wr, n, P, St, i + 1, W, st', by rw [e, List.length_cons]; lia, hf, hw, ho, fun j v d hd pv => mv (hp (j + 1) v d (by simpa using hd) (by rw [show i + (j + 1) = i + 1 + j from by lia]; exact pv))⟩
theorem ItOk.done {it : Addr} (h : ItOk C A S it [] s.heap) {Q : Option Value → Shared → Prop} {E : Value → Shared → Prop}
    (q : ∀ s', KB C (· = it) s s' → Q .none s') : wpAny (model C.prog C.w) A (pyNext (.ref it)) Q E s := by
  obtain ⟨fp, wr, n, P, St, i, W, st, e, hf, hw, ho, hp⟩ := h
  simp at e
  exact wpAny_with_toks (Nat.le_refl s.toks) (W.done s _ _ (e ▸ st) fun h' tk hk ht => q _ (kb_it hw (ho _ _ st).1 hk ht))
theorem SlotAt.keep {h h' : Heap} {sl : Sl} {vo : Option Value} (x : SlotAt h lo S sl vo) (hk : ∀ b o, h.get? b = some o → S b ∨ SeqCls o → h'.get? b = some o) : SlotAt h' lo S sl vo := by
  cases sl with
  | un => trivial
  | v d => obtain ⟨v, e, r⟩ := x; exact ⟨v, e, r.kb' fun b o e _ c => hk b o e (.inr c)⟩
  | own xs => obtain ⟨b, vs, e, h1, h2, ⟨n, h3⟩, r⟩ := x; exact ⟨b, vs, e, h1, h2, ⟨n, hk _ _ h3 (.inl h1)⟩, r.kb' fun b o e _ c => hk b o e (.inr c)⟩
theorem FrameOk.keep {h h' : Heap} (F : FrameOk C sc ns fn env lo S Γ h) (hk : ∀ b o, h.get? b = some o → S b ∨ SeqCls o → h'.get? b = some o) : FrameOk C sc ns fn env lo S Γ h' where
  scope := F.scope
  kind := F.kind
  glob := F.glob
  blt := F.blt
  nd := F.nd
  loc := let ⟨m, ⟨o, es, n, e, r⟩, h⟩ := F.loc; ⟨m, ⟨o, es, n, hk _ _ e (.inl F.locS.1), r⟩, fun i x e q => (h i x e q).keep hk⟩
  cel := fun i x e q => let ⟨h1, c, vo, h2, ⟨o, eo, dd⟩, h4⟩ := F.cel i x e q; ⟨h1, c, vo, h2, ⟨o, hk _ _ eo (.inl (F.celS _ _ h2)), dd⟩, h4.keep hk⟩
  apart := F.apart
  locS := F.locS
  celS := F.celS
  celC := fun x c e => let ⟨vo, o, eo, dd⟩ := F.celC x c e; ⟨vo, o, hk _ _ eo (.inl (F.celS _ _ e)), dd⟩
  celM := F.celM
  bd := fun b z => let ⟨o, e⟩ := F.bd b z; ⟨o, hk b o e (.inl z)⟩
  bs := F.bs
  nofree := F.nofree
  lob := F.lob
  one := F.one
theorem FrameOk.it (W : Wf C) (F : FrameOk C sc ns fn env lo S Γ s.heap) {it : Addr} (hS : ¬ S it) (o : ItObj s.heap it) (k : KB C (· = it) s s') : FrameOk C sc ns fn env lo S Γ s'.heap :=
  F.keep fun b ob e z => k.keep b ob e (fun q => by
    subst q
    rcases z with z | z
    · exact hS z
    · exact o.noSeq e z) fun q => by
    rcases z with z | z
    · exact absurd (W.tlt _ q.1) (Nat.not_lt.mpr (F.bs _ z))
    · exact z.ne q.2

noncomputable def Src (C : Cx) (k : Nat) (sc : Scope) (ns : List Str) (Γ : List Sl) (e : Expr) (xs : List PyData) : Prop :=
  ∀ A env fn lo S s, Room A k → Inv C s → FrameOk C sc ns fn env lo S Γ s.heap →
    wpAny (model C.prog C.w) A (eval e env) (fun x s₁ => wpAny (model C.prog C.w) A (pyIter x) (fun iv s₂ => ∃ it, iv = .ref it ∧ KB C No s s₂ ∧ s.heap.get? it = .none ∧ C.base ≤ it ∧ ItOk C A S it xs s₂.heap) (fun _ _ => False) s₁) (fun _ _ => False) s

theorem fresh_none {a : Addr} (k : KB C No s s') (h : s'.heap.get? a = .none) : s.heap.get? a = .none := by
  cases q : s.heap.get? a with
  | none => rfl
  | some o => obtain ⟨o', e⟩ := k.live a o q fun z => z; rw [h] at e; cases e
theorem noTab (I : Inv C s) {a : Addr} {o : Obj} (e : s.heap.get? a = some o) (h : o.cls ≠ .none) : ¬ C.T a := fun z => by
  rcases I.tab a z with q | ⟨_, q, _⟩ <;> (rw [e] at q; cases q; exact h rfl)

theorem Src.list (W : Wf C) {xs : List PyData} (h : Ev C k sc ns Γ e (.list xs)) : Src C k sc ns Γ e xs := fun A env fn lo S s R I F => h.go W R I F fun v s₁ k₁ r₁ I₁ F₁ => by
  obtain ⟨l, vs, rfl, hp, hn, hr⟩ := r₁.list_inv
  have kb : KB C No s₁ { s₁ with heap := s₁.heap.push { cls := .type "list_iterator", data := .fields #[.ref l, .int 0 0] } } := KB.push (t := s₁.toks)
  obtain ⟨n, e⟩ := id hp
  have hne : l ≠ s₁.heap.objs.size := Nat.ne_of_lt (Heap.lt_size e)
  refine wpAny_pyIter_list hp.isList ⟨_, rfl, k₁.trans kb, fresh_none k₁ (get_size _), I₁.big W, [s₁.heap.objs.size, l], [s₁.heap.objs.size], vs.size, _, _, 0, Walks.list R.handled _ l hne vs, ?_, ?_, ?_, ?_, ?_, ?_⟩
  · exact ⟨⟨_, Heap.get?_push_size _ rfl, rfl, rfl⟩, hp.isList.push _⟩
  · rw [Nat.zero_add, ← hr.length]; simp
  · intro b hb
    rcases List.mem_cons.mp hb with hb | hb
    · subst hb; exact ⟨F₁.bd.fresh, fun z => absurd (W.tlt _ z) (Nat.not_lt.mpr (I₁.big W))⟩
    · rw [List.mem_singleton.mp hb]; exact ⟨hn, noTab I₁ e (by intro z; cases z)⟩
  · intro b hb; exact List.mem_singleton.mp hb
  · rintro i h ⟨⟨o, e, c, _⟩, ⟨o', e', _⟩⟩
    refine ⟨⟨o, _, e, c, rfl, rfl⟩, fun b hb => ?_⟩
    rcases List.mem_cons.mp hb with hb | hb
    · exact ⟨o, hb ▸ e⟩
    · rw [List.mem_singleton.mp hb]; exact ⟨o', e'⟩
  · intro j v d hd pv
    rw [Nat.zero_add] at pv
    obtain ⟨v', hv', rv⟩ := hr.get hd
    rw [Array.getElem?_toList] at hv'
    rw [hv'] at pv; cases pv
    exact rv.push

noncomputable def rangeD (n : Int) : List PyData := (List.range n.toNat).map fun (i : Nat) => PyData.int (i : Int)
theorem Src.range (W : Wf C) {x : Str} {p pos : Pos} {a : Expr} {n : Int} (hk : sc.names.lookup x = some .globalImplicit) (h0 : C.mg x = .none) (hv : C.mb x = some (.type "range")) (ha : Ev C k sc ns Γ a (.int n)) (hn : -(2 ^ 62) ≤ n) (hb : n < 2 ^ 62)
    (hst : isStarred a = false := by rfl) (hd : (x == ("__debug__" : Str)) = false := by decide) : Src C k sc ns Γ (.Call (.Name x p) [a] [] pos) (rangeD n) := fun A env fn lo S s R I F => by
  rw [arm_eval_Call_Name']
  refine wpAny_bind (Calls.Name_function_global (by rw [F.scope]; exact F.kind) (by unfold Env.kindOf; rw [F.scope]; exact hk) (Calls.loadGlobal_builtin (by rw [F.glob]; exact I.g) h0 (by rw [F.blt]; exact I.b) hv ?_) hd)
  refine PySem.callWith_type (by rw [starEach_cons hst]; rfl) (evalArgs_go W (.cons ha .nil hst) R I F fun vs s₁ k₁ r₁ I₁ F₁ => ?_)
  obtain ⟨_, rfl, ra⟩ := r₁.one
  obtain ⟨t, rfl⟩ := ra.int_inv
  refine call_range_1 (wpAny_pyIter_range (IsRange.new ..) (small_one (by decide) (by decide) hn hb) ?_)
  have hsz : Builtin.Range.rangeSize 0 n 1 = (n.toNat : Int) := by rw [rangeSize_one]; split <;> lia
  have hlt : s₁.heap.objs.size < (s₁.heap.push { cls := .type "range", data := .fields #[.int 0 s₁.toks, .int n t, .int 1 (s₁.toks + 1)] }).objs.size := by rw [Heap.size_push]; exact Nat.lt_succ_self _
  have hno : s₁.heap.get? (s₁.heap.push { cls := .type "range", data := .fields #[.int 0 s₁.toks, .int n t, .int 1 (s₁.toks + 1)] }).objs.size = .none := by
    cases q : s₁.heap.get? (s₁.heap.push { cls := .type "range", data := .fields #[.int 0 s₁.toks, .int n t, .int 1 (s₁.toks + 1)] }).objs.size with
    | none => rfl
    | some o => exact absurd (Heap.lt_size q) (Nat.not_lt.mpr (Nat.le_of_lt hlt))
  have kb : KB C No s₁ { s₁ with heap := (s₁.heap.push { cls := .type "range", data := .fields #[.int 0 s₁.toks, .int n t, .int 1 (s₁.toks + 1)] }).push { cls := .type "range_iterator", data := .fields #[rawInt 0, rawInt (Builtin.Range.rangeSize 0 n 1), rawInt 1] }, toks := s₁.toks + 1 + 1 } :=
    KB.grow fun _ _ e => Heap.get?_push_of_some _ (Heap.get?_push_of_some _ e)
  have hbase := Nat.le_trans (I₁.big W) (Nat.le_of_lt hlt)
  refine ⟨_, rfl, k₁.trans kb, fresh_none k₁ hno, hbase, _, _, n.toNat, _, _, 0, Walks.range R.handled _ 0 1 n.toNat, ?_, ?_, ?_, ?_, ?_, ?_⟩
  · show (Heap.push _ _).get? _ = _
    rw [Heap.get?_push_size _ rfl, hsz]; rfl
  · simp [rangeD]
  · intro b hb
    rw [List.mem_singleton.mp hb]
    exact ⟨fun z => (by obtain ⟨o, e⟩ := F₁.bd _ z; rw [hno] at e; cases e), fun z => absurd (W.tlt _ z) (Nat.not_lt.mpr hbase)⟩
  · intro b hb; exact List.mem_singleton.mp hb
  · intro i h e; exact ⟨⟨_, _, e, rfl, rfl, rfl⟩, fun b hb => (List.mem_singleton.mp hb) ▸ ⟨_, e⟩⟩
  · rintro j v d hd ⟨t, rfl⟩
    unfold rangeD at hd
    rw [List.getElem?_map] at hd
    cases hq : (List.range n.toNat)[j]? with
    | none => rw [hq] at hd; cases hd
    | some i =>
      rw [hq] at hd
      cases hd
      have := List.getElem?_eq_some_iff.mp hq
      obtain ⟨h1, h2⟩ := this
      rw [List.getElem_range] at h2
      subst h2
      have e : (0 : Int) + ((0 + j : Nat) : Int) * 1 = (j : Int) := by lia
      rw [e]
      exact .int _ _

end Mine
end

noncomputable section
open PySem PySem.W PyProof.Rows
namespace Mine
variable {C : Cx} {k : Nat} {sc : Scope} {ns : List Str} {fn : Str → Bool} {env : Env} {lo : Nat} {S S' S'' : Addr → Prop} {Γ Γ' : List Sl} {s s' s'' : Shared} {A : Around} {Mu : Addr → Prop} {e : Expr} {d : PyData}

theorem codeAny_forLoop' {prog : Program} {w : World} {A : Around} {s : Shared} {R : Result → Shared → Prop} {target it body orelse env} (I : Nat → Shared → Prop)
    (turn : ∀ n s, I n s → wpAny (model prog w) A (pyNext it) (fun r s₁ => match r with
      | none => wpAny (model prog w) A (execs orelse env) (fun f s₃ => R (.ok f) s₃) (notedBy (model prog w) A env fun e s' => R (.error e) s') s₁
      | some v => wpAny (model prog w) A (letOwnedTupleGo target it v) (fun _ s₁ => wpAny (model prog w) A (assign target env v) (fun _ s₂ => wpAny (model prog w) A (execs body env) (fun f s₃ => match f with
          | .next | .cont => ∃ m, m < n ∧ I m s₃
          | .brk => R (.ok .next) s₃
          | .ret v => R (.ok (.ret v)) s₃) (notedBy (model prog w) A env fun e s' => R (.error e) s') s₂) (notedBy (model prog w) A env fun e s' => R (.error e) s') s₁) (notedBy (model prog w) A env fun e s' => R (.error e) s') s₁) (notedBy (model prog w) A env fun e s' => R (.error e) s') s)
    (n : Nat) (h : I n s) : codeAny (model prog w) A (.forLoop target it body orelse env) R s := by
  refine codeAny_loop' rfl I (fun n s hI => ?_) n h
  show wpAny _ _ ((forTurn target it body orelse env).onRaise (fun x => do noteFrame x env; theTreesLotGoes x)) _ _ s
  refine wpAny_noted ?_
  unfold forTurn
  refine wpAny_bind (wpAny_standAt (wpAny_bind (wpAny_onRaise (wpAny_mono (turn n s hI) (fun r s₁ h₁ => ?_) fun _ _ h' => wpAny_standAt h'))))
  cases r with
  | none => exact wpAny_pure (.inr ⟨rfl, codeAny_block h₁⟩)
  | some v =>
    refine wpAny_bind (wpAny_mono h₁ (fun _ s₁ h₁ => ?_) fun _ _ h' => h')
    refine wpAny_bind (wpAny_mono h₁ (fun _ s₂ h₂ => wpAny_bind (wpAny_mono h₂ (fun f s₃ h₃ => ?_) fun _ _ h' => h')) fun _ _ h' => h')
    cases f with
    | next => exact wpAny_pure (.inl ⟨rfl, h₃⟩)
    | cont => exact wpAny_pure (.inl ⟨rfl, h₃⟩)
    | brk => exact wpAny_pure h₃
    | ret v => exact wpAny_pure h₃

noncomputable def AsgOk (C : Cx) (k : Nat) (fn : Str → Bool) (sc : Scope) (ns : List Str) (t : Expr) (d : PyData) (Γ Γ' : List Sl) : Prop :=
  ∀ A env lo S s v, Room A k → Inv C s → FrameOk C sc ns fn env lo S Γ s.heap → Rp s.heap S v d →
    wpAny (model C.prog C.w) A (assign t env v) (fun _ s' => KB C (MuOf lo S) s s' ∧ FrameOk C sc ns fn env lo S Γ' s'.heap) (fun _ _ => False) s
theorem AsgOk.name (W : Wf C) {x : Str} {p : Pos} (i : Nat) (hx : ns[i]? = some x := by rfl) (hi : i < Γ.length := by exact of_decide_eq_true rfl) (hw : fn x = true ∨ sc.names.lookup x = some .local := by exact .inl rfl) : AsgOk C k fn sc ns (.Name x p) d Γ (Γ.set i (.v d)) :=
  fun A env lo S s v R I F r => wpAny_assign_Name (frame_storeV W F hx hw hi r fun s' k' F' => ⟨k', F'⟩)
theorem AsgOk.tup (W : Wf C) {es : List Expr} {is : List Nat} {kk : Nat} {p : Pos} {ds : List PyData} (ht : Tgt fn sc ns es is) (hl : ds.length = is.length := by rfl) (hi : ∀ i ∈ is, i < Γ.length := by exact of_decide_eq_true rfl) : AsgOk C k fn sc ns (.Tuple es kk p) (.tuple ds) Γ (sets Γ is ds) :=
  fun A env lo S s v R I F r => by
    cases r with
    | @tuple a vs _ h1 h2 h3 =>
      refine assign_Tuple_tuple R.handled h1 (by rw [ht.length, ← hl, ← h3.length]; simp) ht.nostar fun h' he => ?_
      have kb : KB C No s { s with heap := h' } := kb_ext I he
      exact ht.go W hi (h3.no kb) (F.no W kb) hl fun s₂ k₂ F₂ => ⟨kb.no.trans k₂, F₂⟩

structure LoopAt (C : Cx) (sc : Scope) (ns : List Str) (env : Env) (lo : Nat) (S : Addr → Prop) (it : Addr) (s : Shared) (Γ₁ : List Sl) (S₁ : Addr → Prop) (s₁ : Shared) : Prop where
  kb : KB C (fun a => MuOf lo S a ∨ a = it) s s₁
  ext : SExt s.heap lo S S₁
  fr : FrameOk C sc ns allW env lo S₁ Γ₁ s₁.heap
  no : ¬ S₁ it
  inv : Inv C s₁

theorem LoopAt.step (W : Wf C) {it : Addr} {Γ₁ Γ₂ : List Sl} {S₁ S₂ : Addr → Prop} {s₁ s₂ : Shared} (hit : s.heap.get? it = .none) (L : LoopAt C sc ns env lo S it s Γ₁ S₁ s₁) (hl : ∃ o, s₁.heap.get? it = some o) (k₂ : KB C (MuOf lo S₁) s₁ s₂) (e₂ : SExt s₁.heap lo S₁ S₂) (F₂ : FrameOk C sc ns allW env lo S₂ Γ₂ s₂.heap) :
    LoopAt C sc ns env lo S it s Γ₂ S₂ s₂ := by
  have sub : ∀ b o, s.heap.get? b = some o → ¬ (MuOf lo S b ∨ b = it) → ¬ MuOf lo S₁ b := fun b o q m z => by
    rcases L.ext.new b z.1 with h | h
    · exact m (.inl ⟨h, z.2⟩)
    · rw [q] at h; cases h
  refine ⟨⟨fun b o q m t => k₂.keep b o (L.kb.keep b o q m t) (sub b o q m) t, fun q => k₂.tab (L.kb.tab q), fun b o q m => let ⟨o', e'⟩ := L.kb.live b o q m; k₂.live b o' e' (sub b o q m), fun g st q => k₂.gens g st (L.kb.gens g st q), Nat.le_trans L.kb.gsize k₂.gsize, fun q => k₂.bare (L.kb.bare q), k₂.os.trans L.kb.os, Nat.le_trans L.kb.tok k₂.tok⟩, ⟨fun a z => ?_, fun a z l => e₂.low a (L.ext.low a z l) l⟩, F₂, fun z => ?_, L.fr.inv W L.inv k₂⟩
  · rcases e₂.new a z with h | h
    · exact L.ext.new a h
    · cases q : s.heap.get? a with
      | none => exact .inr rfl
      | some o =>
        by_cases m : MuOf lo S a ∨ a = it
        · rcases m with m | m
          · exact .inl m.1
          · subst m; rw [hit] at q; cases q
        · obtain ⟨o', h'⟩ := L.kb.live a o q m
          rw [h] at h'; cases h'
  · rcases e₂.new it z with h | h
    · exact L.no h
    · obtain ⟨o, e⟩ := hl; rw [h] at e; cases e
theorem LoopAt.itStep (W : Wf C) {it : Addr} {Γ₁ : List Sl} {S₁ : Addr → Prop} {s₁ s₂ : Shared} (L : LoopAt C sc ns env lo S it s Γ₁ S₁ s₁) (o : ItObj s₁.heap it) (hb : C.base ≤ it) (k₂ : KB C (· = it) s₁ s₂) : LoopAt C sc ns env lo S it s Γ₁ S₁ s₂ :=
  ⟨L.kb.trans (k₂.mono fun a z => .inr z), L.ext, L.fr.it W L.no o k₂, L.no, L.inv.kb W k₂ fun a z => z ▸ hb⟩
theorem LoopAt.out {it : Addr} {Γ₁ : List Sl} {S₁ : Addr → Prop} {s₁ : Shared} (hit : s.heap.get? it = .none) (L : LoopAt C sc ns env lo S it s Γ₁ S₁ s₁) : KB C (MuOf lo S) s s₁ :=
  have h : ∀ b o, s.heap.get? b = some o → ¬ MuOf lo S b → ¬ (MuOf lo S b ∨ b = it) := fun b o q m z => z.elim m fun z => by subst z; rw [hit] at q; cases q
  ⟨fun b o q m t => L.kb.keep b o q (h b o q m) t, L.kb.tab, fun b o q m => L.kb.live b o q (h b o q m), L.kb.gens, L.kb.gsize, L.kb.bare, L.kb.os, L.kb.tok⟩

noncomputable def Loop (J : List Sl → Prop) (Q : Out → Prop) : Out → Prop
  | .next Γ => J Γ
  | .ret d => Q (.ret d)

theorem Ex.for (W : Wf C) {target iter : Expr} {body rest : List Stmt} {p : Pos} {xs : List PyData} {Q : Out → Prop} (hsrc : Src C k sc ns Γ iter xs) (J : List PyData → List Sl → Prop) (h0 : J xs Γ)
    (turn : ∀ x rem Γ₁, J (x :: rem) Γ₁ → ∃ Γ₂, AsgOk C k allW sc ns target x Γ₁ Γ₂ ∧ Ex C k sc ns Γ₂ body (Loop (J rem) Q))
    (fin : ∀ Γ₁, J [] Γ₁ → Ex C k sc ns Γ₁ rest Q) (hs : ∀ (env : Env) x, foldedSetIterable iter env x = pure x := by intro _ _; rfl) : Ex C k sc ns Γ (.For target iter body [] p :: rest) Q :=
  .cons W fun A env lo S s R I F => wpAny_For (wq (hsrc A env allW lo S s R I F) fun x s₁ h₁ => wq h₁ fun iv s₂ h₂ => by
    obtain ⟨it, rfl, k₂, hit, hb, ho⟩ := h₂
    have hS : ¬ S it := fun z => by obtain ⟨o, e⟩ := F.bd _ z; rw [hit] at e; cases e
    refine codeAny_mono (R := fun r s' => match r with | .ok f => ∃ out, Then C k sc ns rest Q out ∧ KB C (MuOf lo S) s s' ∧ OutOk C sc ns env lo S s.heap s' f out | .error e => False) ?_ (fun r s' h => by cases r with | ok f => exact h | error e => exact h.elim)
    refine codeAny_forLoop' (I := fun n s₁ => ∃ rem Γ₁ S₁, n = rem.length ∧ J rem Γ₁ ∧ LoopAt C sc ns env lo S it s Γ₁ S₁ s₁ ∧ ItOk C A S₁ it rem s₁.heap) ?_ xs.length ⟨xs, Γ, S, rfl, h0, ⟨k₂.no, SExt.refl, F.no W k₂, hS, I.no W k₂⟩, ho⟩
    rintro n s₁ ⟨rem, Γ₁, S₁, rfl, hj, L, ho⟩
    cases rem with
    | nil =>
      refine ho.done fun s₂ k₂ => ?_
      have L₂ := L.itStep W ho.obj hb k₂
      exact wpAny_execs_nil ⟨.next Γ₁, fin Γ₁ hj, L₂.out hit, S₁, L₂.ext, L₂.fr⟩
    | cons x rem =>
      obtain ⟨Γ₂, ha, hbd⟩ := turn x rem Γ₁ hj
      refine ho.next L.no fun v s₂ k₂ r₂ ho₂ => ?_
      have L₂ := L.itStep W ho.obj hb k₂
      refine letOwned ho₂.obj (wq (ha A env lo S₁ s₂ v R L₂.inv L₂.fr r₂) fun _ s₃ ⟨k₃, F₃⟩ => ?_)
      have lit : ∃ o, s₂.heap.get? it = some o := let ⟨o, _, e, _⟩ := ho₂.obj; ⟨o, e⟩
      have L₃ : LoopAt C sc ns env lo S it s Γ₂ S₁ s₃ := L₂.step W hit lit k₃ SExt.refl F₃
      have ho₃ : ItOk C A S₁ it rem s₃.heap := ho₂.kb k₃ fun a z => z.1
      have lit₃ : ∃ o, s₃.heap.get? it = some o := let ⟨o, _, e, _⟩ := ho₃.obj; ⟨o, e⟩
      refine wq (hbd A env lo S₁ s₃ R L₃.inv L₃.fr) fun f s₄ ⟨out, hq, k₄, ho₄⟩ => ?_
      cases f with
      | next =>
        cases out with
        | ret d => exact ho₄.elim
        | next Γ₃ =>
          obtain ⟨S₂, e₂, F₄⟩ := ho₄
          refine ⟨rem.length, by simp, rem, Γ₃, S₂, rfl, hq, L₃.step W hit lit₃ k₄ e₂ F₄, ?_⟩
          exact ((ho₃.both e₂.new).kb k₄ fun a z => .inl z.1).avoid fun b m z => m (.inr z)
      | ret v =>
        cases out with
        | next => exact ho₄.elim
        | ret d =>
          have e₃ := L₃.ext
          refine ⟨.ret d, hq, ?_, ?_⟩
          · exact (L₃.out hit).join e₃ k₄
          · exact Rp.avoid (fun b o q m z => m ⟨e₃.low b z.1 z.2, z.2⟩) ho₄
      | brk => cases out <;> exact ho₄.elim
      | cont => cases out <;> exact ho₄.elim) (hs env)
end Mine
end

noncomputable section
open PySem PySem.W PyProof.Rows
namespace Mine
variable {C : Cx} {k : Nat} {sc : Scope} {ns : List Str} {fn : Str → Bool} {env : Env} {lo : Nat} {S S' S'' : Addr → Prop} {Γ Γ' : List Sl} {s s' s'' : Shared} {A : Around} {Mu : Addr → Prop} {e : Expr} {d : PyData}

theorem Ex.while (W : Wf C) {test : Expr} {body rest : List Stmt} {p : Pos} {Q : Out → Prop} (J : Nat → List Sl → Prop) (n : Nat) (h0 : J n Γ)
    (turn : ∀ n Γ₁, J n Γ₁ → ∃ b, Ts C k sc ns (thaw Γ₁) test b ∧ (b = true → Ex C k sc ns Γ₁ body (Loop (fun Γ₂ => ∃ m, m < n ∧ J m Γ₂) Q)) ∧ (b = false → Ex C k sc ns Γ₁ rest Q)) :
    Ex C k sc ns Γ (.While test body [] p :: rest) Q :=
  .cons W fun A env lo S s R I F => wpAny_While (by
    refine codeAny_mono (R := fun r s' => match r with | .ok f => ∃ out, Then C k sc ns rest Q out ∧ KB C (MuOf lo S) s s' ∧ OutOk C sc ns env lo S s.heap s' f out | .error e => False) ?_ (fun r s' h => by cases r with | ok f => exact h | error e => exact h.elim)
    refine codeAny_whileLoop (I := fun n s₁ => ∃ Γ₁ S₁, J n Γ₁ ∧ KB C (MuOf lo S) s s₁ ∧ SExt s.heap lo S S₁ ∧ FrameOk C sc ns allW env lo S₁ Γ₁ s₁.heap ∧ Inv C s₁) ?_ n ⟨Γ, S, h0, KB.refl, SExt.refl, F, I⟩
    rintro n s₁ ⟨Γ₁, S₁, hj, k₁, e₁, F₁, I₁⟩
    obtain ⟨b, ht, hb, hr⟩ := turn n Γ₁ hj
    refine ht.goT W R I₁ F₁ fun s₂ k₂ I₂ F₂ => ?_
    have k₁₂ : KB C (MuOf lo S) s s₂ := k₁.trans k₂.no
    cases b with
    | false => exact wpAny_execs_nil ⟨.next Γ₁, hr rfl, k₁₂, S₁, e₁, F₂⟩
    | true =>
      refine wq (hb rfl A env lo S₁ s₂ R I₂ F₂) fun f s₃ ⟨out, hq, k₃, ho⟩ => ?_
      have k₁₃ := k₁₂.join e₁ k₃
      cases f with
      | next =>
        cases out with
        | ret d => exact ho.elim
        | next Γ₃ =>
          obtain ⟨m, hm, hj⟩ := hq
          obtain ⟨S₃, e₃, F₃⟩ := ho
          exact ⟨m, hm, Γ₃, S₃, hj, k₁₃, e₁.join k₁₂ (fun a z => z.1) e₃, F₃, F.inv W I k₁₃⟩
      | ret v =>
        cases out with
        | next => exact ho.elim
        | ret d => exact ⟨.ret d, hq, k₁₃, Rp.avoid (fun b o q m z => m ⟨e₁.low b z.1 z.2, z.2⟩) ho⟩
      | brk => cases out <;> exact ho.elim
      | cont => cases out <;> exact ho.elim)

theorem cells_some : ∀ (names : List (Str × NameKind)) (n : Nat) (acc : List (Str × Addr)) (x : Str), ((x, .cell) ∈ names ∨ (acc.lookup x).isSome = true) → ((cellsFrom n names acc).lookup x).isSome = true
  | [], n, acc, x, h => h.elim (fun z => by cases z) id
  | (y, kd) :: r, n, acc, x, h => by
    unfold cellsFrom
    have step : ∀ (c : Addr), (List.lookup x acc).isSome = true → (List.lookup x ((y, c) :: acc)).isSome = true := fun c q => by
      rw [List.lookup_cons]; split <;> first | rfl | exact q
    split
    · rename_i hk
      refine cells_some r _ _ x ?_
      rcases h with h | h
      · rcases List.mem_cons.mp h with h | h
        · cases h; exact .inr (by rw [List.lookup_cons]; simp)
        · exact .inl h
      · exact .inr (step _ h)
    · rename_i hk
      refine cells_some r _ _ x ?_
      rcases h with h | h
      · rcases List.mem_cons.mp h with h | h
        · cases h; exact absurd rfl hk
        · exact .inl h
      · exact .inr h
theorem bindL_out {kd : Str → Option NameKind} : ∀ (b : List (Str × Value)) (m : Str → Option Value) (x : Str), x ∉ b.map (·.1) → bindL kd b m x = m x
  | [], _, _, _ => rfl
  | (n, v) :: r, m, x, h => by
    unfold bindL
    rw [bindL_out r _ x (fun z => h (.tail _ z))]
    have hn : x ≠ n := fun z => h (z ▸ .head _)
    split
    · exact if_neg hn
    · rfl
theorem bindC_out {kd : Str → Option NameKind} : ∀ (b : List (Str × Value)) (m : Str → Option Value) (x : Str), x ∉ b.map (·.1) → bindC kd b m x = m x
  | [], _, _, _ => rfl
  | (n, v) :: r, m, x, h => by
    unfold bindC
    rw [bindC_out r _ x (fun z => h (.tail _ z))]
    have hn : x ≠ n := fun z => h (z ▸ .head _)
    split
    · rfl
    · exact if_neg hn
theorem bindL_at {kd : Str → Option NameKind} : ∀ (ps : List Str) (vs : List Value) (m : Str → Option Value) (i : Nat) (x : Str) (v : Value), ps.Nodup → ps[i]? = some x → vs[i]? = some v → kd x = some .local → bindL kd (ps.zip vs) m x = some v
  | [], _, _, i, x, v, _, h, _, _ => by simp at h
  | p :: ps, [], _, i, x, v, _, _, h, _ => by simp at h
  | p :: ps, w :: vs, m, 0, x, v, nd, h1, h2, hk => by
    simp at h1 h2; subst h1; subst h2
    show bindL kd ((p, w) :: ps.zip vs) m p = _
    unfold bindL
    rw [bindL_out _ _ p (fun z => (List.nodup_cons.mp nd).1 ?_), if_pos hk, if_pos rfl]
    obtain ⟨y, hy, e⟩ := List.mem_map.mp z
    exact e ▸ (List.of_mem_zip hy).1
  | p :: ps, w :: vs, m, i + 1, x, v, nd, h1, h2, hk => by
    show bindL kd ((p, w) :: ps.zip vs) m x = _
    unfold bindL
    exact bindL_at ps vs _ i x v (List.nodup_cons.mp nd).2 (by simpa using h1) (by simpa using h2) hk
theorem bindC_at {kd : Str → Option NameKind} : ∀ (ps : List Str) (vs : List Value) (m : Str → Option Value) (i : Nat) (x : Str) (v : Value), ps.Nodup → ps[i]? = some x → vs[i]? = some v → kd x ≠ some .local → bindC kd (ps.zip vs) m x = some v
  | [], _, _, i, x, v, _, h, _, _ => by simp at h
  | p :: ps, [], _, i, x, v, _, _, h, _ => by simp at h
  | p :: ps, w :: vs, m, 0, x, v, nd, h1, h2, hk => by
    simp at h1 h2; subst h1; subst h2
    show bindC kd ((p, w) :: ps.zip vs) m p = _
    unfold bindC
    rw [bindC_out _ _ p (fun z => (List.nodup_cons.mp nd).1 ?_), if_neg hk, if_pos rfl]
    obtain ⟨y, hy, e⟩ := List.mem_map.mp z
    exact e ▸ (List.of_mem_zip hy).1
  | p :: ps, w :: vs, m, i + 1, x, v, nd, h1, h2, hk => by
    show bindC kd ((p, w) :: ps.zip vs) m x = _
    unfold bindC
    exact bindC_at ps vs _ i x v (List.nodup_cons.mp nd).2 (by simpa using h1) (by simpa using h2) hk

structure DefOk (C : Cx) (fa : Addr) (fd : FuncData) (body : List Stmt) (ps ns : List Str) : Prop where
  at_ : ∃ o, C.fr fa = some o ∧ o.data = .func fd
  body : fd.body = .stmts body
  closure : fd.closure = []
  glob : fd.globals = mainGlobals
  blt : fd.builtins = builtinsNs
  code : ∃ c o vs t, fd.code = .ref c ∧ C.fr c = some o ∧ o.data = .fields vs ∧ vs[1]? = some (.str fd.qualname t)
  bind : ∀ vals : List Value, vals.length = ps.length → bindArgs fd ⟨vals, []⟩ = pure (ps.zip vals)
  kind : fd.scope.kind = .function
  co : fd.scope.isCoroutine = false
  gen : fd.scope.isGenerator = false
  nd : ns.Nodup
  pre : ps = ns.take ps.length
  kinds : ∀ x ∈ ns, fd.scope.names.lookup x = some .local ∨ fd.scope.names.lookup x = some .cell

theorem DefOk.psnd {fa : Addr} {fd : FuncData} {body : List Stmt} {ps : List Str} (D : DefOk C fa fd body ps ns) : ps.Nodup := by
  rw [D.pre]; exact List.Nodup.sublist (List.take_sublist _ _) D.nd
theorem DefOk.ps_get {fa : Addr} {fd : FuncData} {body : List Stmt} {ps : List Str} (D : DefOk C fa fd body ps ns) {i : Nat} (h : i < ps.length) : ps[i]? = ns[i]? := by
  have e : ps[i]? = (ns.take ps.length)[i]? := congrArg (fun l : List Str => l[i]?) D.pre
  rw [e, List.getElem?_take, if_pos h]

theorem call_cells {prog : Program} {w : World} {R : Result → Shared → Prop} {a : Addr} {o : Obj} {fd : FuncData} {body : List Stmt} {vals : List Value} {binds : List (Str × Value)}
    (hroom : A.depth < recursionLimit) (ho : s.heap.get? a = some o) (hdata : o.data = .func fd) (hlim : s.heap.NoLimit) (hcd : s.heap.CodeRec fd.code fd.qualname)
    (hbody : fd.body = .stmts body) (hbind : bindArgs fd ⟨vals, []⟩ = pure binds) (hclo : fd.closure = [])
    (hkind : ∀ x ∈ binds, fd.scope.names.lookup x.1 = some .local ∨ (fd.scope.names.lookup x.1 = some .cell ∧ ((cellsFrom (s.heap.objs.size + 1) fd.scope.names []).lookup x.1).isSome = true))
    (h : ∀ s₁, s.toks ≤ s₁.toks → InCallC s (callEnvC fd s.heap.objs.size a).locals (bindL (callEnvC fd s.heap.objs.size a).kindOf binds fun _ => .none) (callEnvC fd s.heap.objs.size a).cells
        (bindC (callEnvC fd s.heap.objs.size a).kindOf binds fun _ => .none) s₁ →
      wpAny (model prog w) (A.deeper (callEnvC fd s.heap.objs.size a)) (execs body (callEnvC fd s.heap.objs.size a)) (fun f s' => R (.ok (.ret (match f with | .ret v => v | _ => .none))) s')
        (fun e s' => wpAny (model prog w) (A.deeper (callEnvC fd s.heap.objs.size a)) (leaving (callEnvC fd s.heap.objs.size a) e) (fun _ s'' => R (.error e) s'') (fun e' s'' => R (.error e') s'') s') s₁)
    (hco : fd.scope.isCoroutine = false := by rfl) (hgen : fd.scope.isGenerator = false := by rfl) (hk : fd.scope.kind = .function := by rfl) :
    codeAny (model prog w) A (.call (.ref a) ⟨vals, []⟩) R s := by
  refine codeAny_call_function hroom ho hdata hco hgen hbody hcd ?_
  rw [hbind, hclo]
  refine wpAny_pure (wpAny_mono (wpAny_toks_of (Nat.le_refl s.toks) (wpAny_newFunctionEnv_cells (E := fun _ _ => False) (Q := fun env s₂ => env = callEnvC fd s.heap.objs.size a ∧ InCallC s env.locals (bindL env.kindOf binds fun _ => .none) env.cells (bindC env.kindOf binds fun _ => .none) s₂) hk hkind fun env he s' x => ⟨he, x⟩)) (fun env s₂ z => ?_) fun _ _ z => z.2.elim)
  obtain ⟨ht, rfl, x⟩ := z
  exact ⟨hlim.keeps x.toInCall.keep, codeAny_func (h s₂ ht x)⟩

theorem KB.above (k : KB C (MuOf s.heap.objs.size S) s s') : KB C No s s' :=
  have z : ∀ b o, s.heap.get? b = some o → ¬ MuOf s.heap.objs.size S b := fun b o e w => absurd (Heap.lt_size e) (Nat.not_lt.mpr w.2)
  ⟨fun b o e _ t => k.keep b o e (z b o e) t, k.tab, fun b o e _ => k.live b o e (z b o e), k.gens, k.gsize, k.bare, k.os, k.tok⟩

theorem frame_of_call (W : Wf C) {fa : Addr} {fd : FuncData} {body : List Stmt} {ps : List Str} {ds : List PyData} {vals : List Value} {tI : Nat} (m : Nat) (D : DefOk C fa fd body ps ns) (hl : ds.length = ps.length) (I : Inv C { s with toks := tI }) (hS : Live s.heap S) (hB : ∀ a, S a → C.base ≤ a) (r : RpAll s.heap S vals ds) {s₁ : Shared} (htk : s.toks ≤ s₁.toks)
    (X : InCallC s (callEnvC fd s.heap.objs.size fa).locals (bindL (callEnvC fd s.heap.objs.size fa).kindOf (ps.zip vals) fun _ => .none) (callEnvC fd s.heap.objs.size fa).cells (bindC (callEnvC fd s.heap.objs.size fa).kindOf (ps.zip vals) fun _ => .none) s₁) :
    ∃ S₁, KB C No s s₁ ∧ (∀ a, S a → S₁ a) ∧ (∀ a, S₁ a → S a ∨ s.heap.get? a = .none) ∧ FrameOk C fd.scope ns allW (callEnvC fd s.heap.objs.size fa) s.heap.objs.size S₁ (ds.map .v ++ List.replicate m .un) s₁.heap := by
  have hcell : ∀ x ∈ ns, fd.scope.names.lookup x = some .cell → ∀ n, ((cellsFrom n fd.scope.names []).lookup x).isSome = true := fun x _ hx n => cells_some _ _ _ _ (.inl (mem_of_lookup hx))
  have X1 := X.toInCall
  obtain ⟨h', tk, es, hk⟩ := X.done
  have kb : KB C No s s₁ := by rw [es] at htk ⊢; exact KB.grow hk htk
  have hbig : C.base ≤ s.heap.objs.size := Inv.big (s := { s with toks := tI }) W I
  let S₁ : Addr → Prop := fun a => S a ∨ a = s.heap.objs.size ∨ ∃ x, (callEnvC fd s.heap.objs.size fa).cells.lookup x = some a
  have hnew : ∀ a, S₁ a → S a ∨ s.heap.get? a = .none := fun a z => by
    rcases z with z | z | ⟨x, z⟩
    · exact .inl z
    · exact .inr (z ▸ get_size _)
    · refine .inr ?_
      cases q : s.heap.get? a with
      | none => rfl
      | some o => exact absurd (Nat.lt_trans (X.above x a (mem_of_lookup z)) (Heap.lt_size q)) (Nat.lt_irrefl _)
  have hlow : ∀ a o, s.heap.get? a = some o → ¬ S a → ¬ S₁ a := fun a o e m z => (hnew a z).elim m fun q => by rw [e] at q; cases q
  have rr : RpAll s₁.heap S₁ vals ds := (r.avoid hlow).no kb
  have slotv : ∀ (i : Nat) (x : Str) (vo : Option Value), ns[i]? = some x → (∀ v, i < ps.length → vals[i]? = some v → vo = some v) → SlotAt s₁.heap s.heap.objs.size S₁ ((ds.map Sl.v ++ List.replicate m Sl.un).getD i Sl.un) vo := fun i x vo hx hv => by
    rw [List.getD_eq_getElem?_getD]
    by_cases hi : i < ds.length
    · have hd' : ds[i]? = some ds[i] := List.getElem?_eq_getElem hi
      obtain ⟨v, e1, e2⟩ := rr.get hd'
      rw [List.getElem?_append_left (by simpa using hi), List.getElem?_map, hd']
      exact ⟨v, hv v (hl ▸ hi) e1, e2⟩
    · rw [List.getElem?_append_right (by simpa using hi)]
      have : ((List.replicate m Sl.un)[i - (ds.map Sl.v).length]?).getD .un = .un := by
        cases q : (List.replicate m Sl.un)[i - (ds.map Sl.v).length]? with
        | none => rfl
        | some y => exact (List.mem_replicate.mp (List.mem_of_getElem? q)).2
      rw [this]; trivial
  refine ⟨S₁, kb, fun a z => .inl z, hnew, ?_⟩
  refine ⟨rfl, D.kind, D.glob, D.blt, D.nd, ⟨_, X1.ns, fun i x hx hlx => slotv i x _ hx fun v hi hv => bindL_at (kd := (callEnvC fd s.heap.objs.size fa).kindOf) _ _ _ i x v D.psnd (by rw [D.ps_get hi]; exact hx) hv hlx⟩, fun i x hx hlx => ?_, fun x y c h1 h2 => name_of_addr X.apart (mem_of_lookup h1) (mem_of_lookup h2), ⟨.inr (.inl rfl), Nat.le_refl _⟩, fun x c hc => .inr (.inr ⟨x, hc⟩), fun x c hc => ⟨_, X.cell x c hc⟩,
    fun x c _ hc => Nat.le_of_lt (X.above x c (mem_of_lookup hc)), fun a z => ?_, fun a z => ?_, fun x hx _ z => ?_, hbig, fun i j xs ys h1 h2 => ?_⟩
  · have hkx : fd.scope.names.lookup x = some .cell := (D.kinds x (List.mem_of_getElem? hx)).resolve_left hlx
    obtain ⟨c, hc⟩ := Option.isSome_iff_exists.mp (hcell x (List.mem_of_getElem? hx) hkx (s.heap.objs.size + 1))
    exact ⟨.inl hkx, c, _, hc, X.cell x c hc, slotv i x _ hx fun v hi hv => bindC_at (kd := (callEnvC fd s.heap.objs.size fa).kindOf) _ _ _ i x v D.psnd (by rw [D.ps_get hi]; exact hx) hv hlx⟩
  · rcases z with z | z | ⟨x, z⟩
    · exact hS.no kb a z
    · obtain ⟨o, _, _, e, _⟩ := X1.ns; exact ⟨o, z ▸ e⟩
    · obtain ⟨o, e, _⟩ := X.cell x a z; exact ⟨o, e⟩
  · rcases z with z | z | ⟨x, z⟩
    · exact hB a z
    · exact z ▸ hbig
    · exact Nat.le_trans hbig (Nat.le_of_lt (X.above x a (mem_of_lookup z)))
  · rcases D.kinds x hx with q | q <;> (rw [z] at q; cases q)
  · have : ∀ (i : Nat) xs, (ds.map Sl.v ++ List.replicate m Sl.un)[i]? ≠ some (.own xs) := fun i xs q => by
      rcases List.mem_append.mp (List.mem_of_getElem? q) with w | w
      · obtain ⟨_, _, w⟩ := List.mem_map.mp w; cases w
      · cases (List.mem_replicate.mp w).2
    exact absurd h1 (this i xs)

theorem ex_ret {A' : Around} {env' : Env} {S₁ : Addr → Prop} {s₁ : Shared} {body : List Stmt} (hS : Live s.heap S) (h1 : ∀ a, S a → S₁ a) (kb : KB C No s s₁)
    (h : wpAny (model C.prog C.w) A' (execs body env') (fun f s' => ∃ out, out = Out.ret d ∧ KB C (MuOf s.heap.objs.size S₁) s₁ s' ∧ OutOk C sc ns env' s.heap.objs.size S₁ s₁.heap s' f out) (fun _ _ => False) s₁) :
    wpAny (model C.prog C.w) A' (execs body env') (fun f s' => ∃ v, f = .ret v ∧ KB C No s s' ∧ Rp s'.heap S v d) (fun _ _ => False) s₁ := by
  refine wq h fun f s₂ q => ?_
  obtain ⟨out, hq, k₂, ho₂⟩ := q
  subst hq
  cases f with
  | ret v =>
    refine ⟨v, rfl, KB.above (kb.no.trans k₂), Rp.avoid (fun b o q mm z => mm ⟨h1 b z, ?_⟩) ho₂⟩
    obtain ⟨o', e'⟩ := hS b z
    exact Heap.lt_size e'
  | next => exact ho₂.elim
  | brk => exact ho₂.elim
  | cont => exact ho₂.elim
theorem call_frame (W : Wf C) {fa : Addr} {fd : FuncData} {body : List Stmt} {ps : List Str} {ds : List PyData} {vals : List Value} {tI : Nat} (m : Nat) (D : DefOk C fa fd body ps ns) (hl : ds.length = ps.length) (hd : A.depth < recursionLimit) (I : Inv C { s with toks := tI }) (hS : Live s.heap S) (hB : ∀ a, S a → C.base ≤ a) (r : RpAll s.heap S vals ds) {R' : Value → Shared → Prop}
    (h : ∀ (S₁ : Addr → Prop) (s₁ : Shared), KB C No s s₁ → (∀ a, S a → S₁ a) → (∀ a, S₁ a → S a ∨ s.heap.get? a = .none) → FrameOk C fd.scope ns allW (callEnvC fd s.heap.objs.size fa) s.heap.objs.size S₁ (ds.map .v ++ List.replicate m .un) s₁.heap →
      wpAny (model C.prog C.w) (A.deeper (callEnvC fd s.heap.objs.size fa)) (execs body (callEnvC fd s.heap.objs.size fa)) (fun f s' => ∃ v, f = .ret v ∧ R' v s') (fun _ _ => False) s₁) :
    codeAny (model C.prog C.w) A (.call (.ref fa) ⟨vals, []⟩) (fun r s' => ∃ v, r = .ok (.ret v) ∧ R' v s') s := by
  obtain ⟨o, ho, hdat⟩ := D.at_
  obtain ⟨c, oc, cvs, t, hc1, hc2, hc3, hc4⟩ := D.code
  refine call_cells (binds := ps.zip vals) hd (I.fr _ _ ho) hdat I.lim ⟨c, oc, cvs, t, hc1, I.fr _ _ hc2, hc3, hc4⟩ D.body (D.bind vals (by rw [r.length, hl])) D.closure (fun x hx => ?_) (fun s₁ htk X => ?_) D.co D.gen D.kind
  · have hx' : x.1 ∈ ns := by
      have := (List.of_mem_zip hx).1
      rw [D.pre] at this; exact List.mem_of_mem_take this
    rcases D.kinds x.1 hx' with q | q
    · exact .inl q
    · exact .inr ⟨q, cells_some _ _ _ _ (.inl (mem_of_lookup q))⟩
  · obtain ⟨S₁, kb, h1, h2, F⟩ := frame_of_call W m D hl I hS hB r htk X
    exact wpAny_mono (h S₁ s₁ kb h1 h2 F) (fun f s' q => by obtain ⟨v, rfl, q⟩ := q; exact ⟨v, rfl, q⟩) fun _ _ z => z.elim
theorem Fn.of (W : Wf C) {fa : Addr} {fd : FuncData} {body : List Stmt} {ps : List Str} {ds : List PyData} {m : Nat} (D : DefOk C fa fd body ps ns) (hl : ds.length = ps.length)
    (h : Ex C k fd.scope ns (ds.map .v ++ List.replicate m .un) body (fun o => o = .ret d)) : Fn C (k + 1) fa ds d := fun A S s vals R I hS hB r =>
  call_frame (tI := s.toks) W m D hl (by have := R.depth; lia) I hS hB r fun S₁ s₁ kb h1 h2 F => ex_ret hS h1 kb (h _ _ _ S₁ s₁ (R.deeper _) (I.no W kb) F)
end Mine
end

noncomputable section
open PySem PySem.W PyProof.Rows
namespace Mine
variable {C : Cx} {k : Nat} {sc : Scope} {ns : List Str} {fn : Str → Bool} {env : Env} {lo : Nat} {S S' S'' : Addr → Prop} {Γ Γ' : List Sl} {s s' s'' : Shared} {A : Around} {Mu : Addr → Prop} {e : Expr} {d : PyData}

noncomputable def IfsOk (C : Cx) (k : Nat) (sc : Scope) (ns : List Str) (Γ : List Sl) : List Expr → Bool → Prop
  | [], b => b = true
  | [c], b => Ts C k sc ns Γ c b
  | _, _ => False
inductive All2 {α β : Type} (R : α → β → Prop) : List α → List β → Prop
  | nil : All2 R [] []
  | cons {x y xs ys} : R x y → All2 R xs ys → All2 R (x :: xs) (y :: ys)

noncomputable def TurnJ (C : Cx) (k : Nat) (fn : Str → Bool) (sc : Scope) (ns : List Str) (J : List Sl → Prop) (fs : List Sl) (elt : Expr) (g : Comprehension) (x : PyData) (ys : List PyData) : Prop :=
  ∀ ts : List Sl, J ts → ∃ ts₂ : List Sl, J ts₂ ∧ AsgOk C k fn sc ns g.target x (ts ++ fs) (ts₂ ++ fs) ∧ ∃ b, IfsOk C k sc ns (ts₂ ++ fs) g.ifs b ∧ (b = false → ys = []) ∧ (b = true → ∃ y, Ev C k sc ns (ts₂ ++ fs) elt y ∧ ys = [y])
noncomputable def TurnOk (C : Cx) (k : Nat) (fn : Str → Bool) (sc : Scope) (ns : List Str) (nt : Nat) (fs : List Sl) (elt : Expr) (g : Comprehension) (x : PyData) (ys : List PyData) : Prop :=
  ∀ ts : List Sl, ts.length = nt → ∃ ts₂ : List Sl, ts₂.length = nt ∧ AsgOk C k fn sc ns g.target x (ts ++ fs) (ts₂ ++ fs) ∧ ∃ b, IfsOk C k sc ns (ts₂ ++ fs) g.ifs b ∧ (b = false → ys = []) ∧ (b = true → ∃ y, Ev C k sc ns (ts₂ ++ fs) elt y ∧ ys = [y])

structure CompAt (C : Cx) (sc : Scope) (ns : List Str) (fn : Str → Bool) (env : Env) (lo : Nat) (S : Addr → Prop) (acc : Addr) (Γ : List Sl) (out : List PyData) (s : Shared) : Prop where
  fr : FrameOk C sc ns fn env lo S Γ s.heap
  inv : Inv C s
  acc : ∃ vs, s.heap.PlainList acc vs ∧ RpAll s.heap S vs.toList out
theorem CompAt.no (W : Wf C) {acc : Addr} {out : List PyData} (x : CompAt C sc ns fn env lo S acc Γ out s) (k : KB C No s s') : CompAt C sc ns fn env lo S acc Γ out s' :=
  ⟨x.fr.no W k, x.inv.no W k, let ⟨vs, h1, h2⟩ := x.acc; ⟨vs, h1.at fun o e => k.keep _ _ e (fun z => z) (fun z => by obtain ⟨n, e'⟩ := h1; rw [e] at e'; cases e'; cases z.2), h2.no k⟩⟩

theorem ifs_go (W : Wf C) {ifs : List Expr} {b : Bool} (h : IfsOk C k sc ns Γ ifs b) (R : Room A k) (I : Inv C s) (F : FrameOk C sc ns fn env lo S Γ s.heap) {Q : Bool → Shared → Prop} {E : Value → Shared → Prop} (q : ∀ s', KB C No s s' → Q b s') :
    wpAny (model C.prog C.w) A (forIn ifs true fun c r => if r = true then do let ok ← isTrue c env (eval c env); pure (ForInStep.yield ok) else pure (ForInStep.yield r)) Q E s := by
  match ifs, h with
  | [], h => rw [List.forIn_nil]; cases h; exact wpAny_pure (q s KB.refl)
  | [c], h =>
    rw [List.forIn_cons]
    refine wpAny_bind ?_
    rw [if_pos rfl]
    refine wpAny_bind (Ts.go W h R I F fun s₁ k₁ I₁ F₁ => wpAny_pure ?_)
    dsimp only
    rw [List.forIn_nil]
    exact wpAny_pure (q s₁ k₁)

section
variable {prog : Program} {w : World} {A : Around} {E : Value → Shared → Prop} {s : Shared} {elt : Expr} {gens : List Comprehension} {scope : Scope} {pos : Pos} {depth : Nat} {it acc : Value} {env : Env} {g : Comprehension} {Q : Fin → Shared → Prop}
theorem wp_compTurn (hg : gens[depth]? = some g) (ha : g.is_async = 0) (T : Sem Fin → Sem Fin)
    (hT : ∀ z, (match gens[depth + 1]? with
      | .some g' => do
        let x ← eval g'.iter env
        standAt g'.iter.pos
        if (g'.is_async != 0) = true then do
            let x ← foldedIterable g'.iter x
            let i ← holding [x] (if (g'.is_async != 0) = true then asyncIter x else pyIter x)
            let _ ← runOwn (Code.compStart (elt.ListComp gens scope pos) (depth + 1) i acc env) env
            z
          else do
            let x ← foldedSetIterable g'.iter env x
            let i ← holding [x] (if (g'.is_async != 0) = true then asyncIter x else pyIter x)
            let _ ← runOwn (Code.compStart (elt.ListComp gens scope pos) (depth + 1) i acc env) env
            z
      | .none => (do
          let y ← eval elt env
          let _ ← call (Value.builtin "list.append") [acc, y]
          pure () : Sem Unit) >>= fun _ => z) = T z)
    (h : wpAny (model prog w) A (pyNext it) (fun r s₁ => match r with
      | .none => Q (.done .next) s₁
      | .some v => wpAny (model prog w) A (letOwnedTupleGo g.target it v) (fun _ s₂ => wpAny (model prog w) A (assign g.target env v) (fun _ s₃ =>
        wpAny (model prog w) A (forIn g.ifs true fun c r => if r = true then do let ok ← isTrue c env (eval c env); pure (ForInStep.yield ok) else pure (ForInStep.yield r)) (fun ok s₄ =>
          if ok = true then wpAny (model prog w) A (T (again (.compLoop (.ListComp elt gens scope pos) depth it acc env))) Q E s₄ else Q (.again (.compLoop (.ListComp elt gens scope pos) depth it acc env)) s₄) E s₃) E s₂) E s₁) E s) :
    wpAny (model prog w) A (compTurn (.ListComp elt gens scope pos) depth it acc env) Q E s := by
  unfold compTurn
  dsimp only
  rw [hg]
  have e : (g.is_async != 0) = false := by rw [ha]; rfl
  show wpAny _ _ (do standAt _; if (g.is_async != 0) = true then _ else _) _ _ s
  refine wpAny_bind (wpAny_standAt ?_)
  rw [e, if_neg Bool.false_ne_true]
  refine wpAny_bind (wpAny_mono h (fun r s₁ h₁ => ?_) fun _ _ z => z)
  cases r with
  | none => exact wpAny_pure h₁
  | some v =>
    refine wpAny_bind (wpAny_mono h₁ (fun _ s₂ h₂ => wpAny_bind (wpAny_mono h₂ (fun _ s₃ h₃ => wpAny_bind (wpAny_mono h₃ (fun ok s₄ h₄ => ?_) fun _ _ z => z)) fun _ _ z => z)) fun _ _ z => z)
    cases ok with
    | false => exact wpAny_pure h₄
    | true =>
      rw [if_pos rfl] at h₄ ⊢
      refine Eq.mp (congrArg (fun t => wpAny _ _ t Q E s₄) (hT _).symm) h₄
theorem wp_compTurnLast (hg : gens[depth]? = some g) (ha : g.is_async = 0) (hl : gens[depth + 1]? = .none)
    (h : wpAny (model prog w) A (pyNext it) (fun r s₁ => match r with
      | .none => Q (.done .next) s₁
      | .some v => wpAny (model prog w) A (letOwnedTupleGo g.target it v) (fun _ s₂ => wpAny (model prog w) A (assign g.target env v) (fun _ s₃ =>
        wpAny (model prog w) A (forIn g.ifs true fun c r => if r = true then do let ok ← isTrue c env (eval c env); pure (ForInStep.yield ok) else pure (ForInStep.yield r)) (fun ok s₄ =>
          if ok = true then wpAny (model prog w) A (eval elt env) (fun y s₅ => wpAny (model prog w) A (call (.builtin "list.append") [acc, y]) (fun _ s₆ => Q (.again (.compLoop (.ListComp elt gens scope pos) depth it acc env)) s₆) E s₅) E s₄
          else Q (.again (.compLoop (.ListComp elt gens scope pos) depth it acc env)) s₄) E s₃) E s₂) E s₁) E s) :
    wpAny (model prog w) A (compTurn (.ListComp elt gens scope pos) depth it acc env) Q E s := by
  refine wp_compTurn hg ha _ (fun z => by rw [hl]) (wpAny_mono h (fun r s₁ h₁ => ?_) fun _ _ z => z)
  cases r with
  | none => exact h₁
  | some v =>
    refine wpAny_mono h₁ (fun _ s₂ h₂ => wpAny_mono h₂ (fun _ s₃ h₃ => wpAny_mono h₃ (fun ok s₄ h₄ => ?_) fun _ _ z => z) fun _ _ z => z) fun _ _ z => z
    cases ok with
    | false => exact h₄
    | true =>
      rw [if_pos rfl] at h₄ ⊢
      exact wpAny_bind (wpAny_bind (wpAny_mono h₄ (fun y s₅ h₅ => wpAny_bind (wpAny_mono h₅ (fun _ s₆ h₆ => wpAny_pure (wpAny_pure h₆)) fun _ _ z => z)) fun _ _ z => z))
theorem comp_start {R : Result → Shared → Prop} (hg : gens[depth]? = some g) (ha : g.is_async = 0)
    (h0 : codeAny (model prog w) A (.compLoop (.ListComp elt gens scope pos) depth it acc env) R s)
    (h : wpAny (model prog w) A (pyIter it) (fun it' s' => codeAny (model prog w) A (.compLoop (.ListComp elt gens scope pos) depth it' acc env) R s') (fun _ _ => False) s) :
    codeAny (model prog w) A (.compStart (.ListComp elt gens scope pos) depth it acc env) R s := by
  refine codeAny_of_tree ?_
  show wpAny _ _ ((compStart (.ListComp elt gens scope pos) depth it acc env).onRaise (fun x => do noteFrame x env; standAt theWindowsPlace)) _ _ s
  refine wpAny_notedAt ?_
  unfold compStart
  have e : ((clausesOf (.ListComp elt gens scope pos))[depth]?).elim false (·.is_async != 0) = false := by
    show (gens[depth]?).elim false (·.is_async != 0) = false
    rw [hg]; show (g.is_async != 0) = false; rw [ha]; rfl
  have e2 : (clausesOf (.ListComp elt gens scope pos))[depth]? = some g := hg
  rw [if_neg (by rw [e]; exact Bool.false_ne_true)]
  rw [e2]
  refine wpAny_bind (wpAny_askSetting (wpAny_ite ?_))
  split
  · first
      | exact wpAny_bind (wpAny_pure (wpAny_pure (And.intro rfl h0)))
      | exact wpAny_pure (And.intro rfl h0)
  · exact wpAny_bind (wpAny_rule (wpAny_bind (wpAny_standAt (wpAny_bind (wpAny_mono h (fun it' s' h' => wpAny_pure (And.intro rfl h')) fun _ _ x => x.elim)))))
end

noncomputable abbrev MuC (it acc : Addr) (lo : Nat) (S : Addr → Prop) : Addr → Prop := fun a => a = it ∨ a = acc ∨ MuOf lo S a

theorem FrameOk.acc (F : FrameOk C sc ns fn env lo S Γ s.heap) {acc : Addr} {vs : Array Value} {h' : Heap} (hS : S acc) (hla : acc < lo) (hp : s.heap.PlainList acc vs) (hs : Heap.SameBut acc s.heap h') (hp' : ∃ o, h'.get? acc = some o) : FrameOk C sc ns fn env lo S Γ h' := by
  obtain ⟨n, e⟩ := hp
  have hsl : ∀ (i : Nat) (vo : Option Value), SlotAt s.heap lo S (Γ.getD i .un) vo → SlotAt h' lo S (Γ.getD i .un) vo := fun i vo z => by
    cases hq : Γ.getD i .un with
    | un => trivial
    | v d => rw [hq] at z; obtain ⟨v, e, r⟩ := z; exact ⟨v, e, r.kb' fun b o e m _ => hs.extBut b o (fun y => m (y ▸ hS)) e⟩
    | own ys =>
      rw [hq] at z
      obtain ⟨b, vs, e, h1, h2, ⟨n, h3⟩, r⟩ := z
      exact ⟨b, vs, e, h1, h2, ⟨n, hs.extBut _ _ (fun y => absurd (y ▸ h2) (Nat.not_le.mpr hla)) h3⟩, r.kb' fun b o e m _ => hs.extBut b o (fun y => m (y ▸ hS)) e⟩
  have hc : ∀ c vo, s.heap.IsCell c vo → h'.IsCell c vo := fun c vo q => q.sameBut hs fun z => by obtain ⟨o, eo, dd⟩ := q; rw [z, e] at eo; cases eo; cases dd
  obtain ⟨m, hn, h⟩ := F.loc
  exact ⟨F.scope, F.kind, F.glob, F.blt, F.nd, ⟨m, hn.sameBut hs fun z => absurd (z ▸ F.locS.2) (Nat.not_le.mpr hla), fun i x e q => hsl i _ (h i x e q)⟩, fun i x e q => let ⟨b1, c, vo, b2, b3, b4⟩ := F.cel i x e q; ⟨b1, c, vo, b2, hc _ _ b3, hsl i _ b4⟩, F.apart, F.locS, F.celS, fun x c q => let ⟨vo, y⟩ := F.celC x c q; ⟨vo, hc _ _ y⟩, F.celM,
    F.bd.upd hs.extBut hp', F.bs, F.nofree, F.lob, F.one⟩

theorem KB.drop {x : Addr} {Mu Mu' : Addr → Prop} (h : s.heap.get? x = .none) (k : KB C Mu s s') (hm : ∀ a, Mu a → Mu' a ∨ a = x) : KB C Mu' s s' :=
  have z : ∀ b o, s.heap.get? b = some o → ¬ Mu' b → ¬ Mu b := fun b o q m y => (hm b y).elim m fun y => by subst y; rw [h] at q; cases q
  ⟨fun b o q m t => k.keep b o q (z b o q m) t, k.tab, fun b o q m => k.live b o q (z b o q m), k.gens, k.gsize, k.bare, k.os, k.tok⟩
theorem ItOk.self {it : Addr} {xs : List PyData} (x : ItOk C A S it xs s.heap) {Q : Value → Shared → Prop} {E : Value → Shared → Prop} (q : Q (.ref it) s) : wpAny (model C.prog C.w) A (pyIter (.ref it)) Q E s := by
  obtain ⟨fp, wr, n, P, St, i, W, st, _⟩ := x
  exact W.self i s Q E st q
theorem CompAt.it (W : Wf C) {acc it : Addr} {out : List PyData} (x : CompAt C sc ns fn env lo S acc Γ out s) (hSa : S acc) (hS : ¬ S it) (hb : C.base ≤ it) (o : ItObj s.heap it) (k : KB C (· = it) s s') : CompAt C sc ns fn env lo S acc Γ out s' := by
  refine ⟨x.fr.it W hS o k, x.inv.kb W k fun a z => z ▸ hb, ?_⟩
  obtain ⟨vs, h1, h2⟩ := x.acc
  have K : ∀ b ob, s.heap.get? b = some ob → SeqCls ob → s'.heap.get? b = some ob := fun b ob e c => k.keep b ob e (fun z => by subst z; exact o.noSeq e c) fun z => c.ne z.2
  obtain ⟨n, e⟩ := h1
  exact ⟨vs, ⟨n, K _ _ e (.inl rfl)⟩, h2.kb' fun b ob e _ c => K b ob e c⟩
theorem CompAt.asg (W : Wf C) {acc : Addr} {out : List PyData} {Γ' : List Sl} (x : CompAt C sc ns fn env lo S acc Γ out s) (hla : acc < lo) (k : KB C (MuOf lo S) s s') (F : FrameOk C sc ns fn env lo S Γ' s'.heap) : CompAt C sc ns fn env lo S acc Γ' out s' := by
  refine ⟨F, x.fr.inv W x.inv k, ?_⟩
  obtain ⟨vs, ⟨n, e⟩, h2⟩ := x.acc
  exact ⟨vs, ⟨n, k.keep _ _ e (fun z => absurd z.2 (Nat.not_le.mpr hla)) fun z => by cases z.2⟩, h2.kb k fun a z => z.1⟩

structure CompFix (C : Cx) (A : Around) (k lo : Nat) (S : Addr → Prop) (acc it : Addr) : Prop where
  R : Room A k
  sa : S acc
  la : acc < lo
  ba : C.base ≤ acc
  no : ¬ S it
  bi : C.base ≤ it
structure CompIt (C : Cx) (A : Around) (sc : Scope) (ns : List Str) (fn : Str → Bool) (env : Env) (lo : Nat) (S : Addr → Prop) (acc it : Addr) (xs : List PyData) (Γ : List Sl) (out : List PyData) (s : Shared) : Prop where
  at_ : CompAt C sc ns fn env lo S acc Γ out s
  it : ItOk C A S it xs s.heap
structure CompOut (C : Cx) (sc : Scope) (ns : List Str) (fn : Str → Bool) (env : Env) (lo : Nat) (S : Addr → Prop) (acc it : Addr) (fs : List Sl) (J : List Sl → Prop) (out : List PyData) (s : Shared) (r : Result) (s' : Shared) : Prop where
  res : r = .ok .next
  kb : KB C (MuC it acc lo S) s s'
  at_ : ∃ ts : List Sl, J ts ∧ CompAt C sc ns fn env lo S acc (ts ++ fs) out s'
noncomputable def GenOk (C : Cx) (k : Nat) (fn : Str → Bool) (sc : Scope) (ns : List Str) (fs : List Sl) (e : Expr) (depth : Nat) (J : List Sl → Prop) (xs ys : List PyData) : Prop :=
  ∀ (A : Around) (env : Env) (lo : Nat) (S : Addr → Prop) (acc it : Addr) (s : Shared) (ts : List Sl) (out : List PyData), CompFix C A k lo S acc it → J ts → CompIt C A sc ns fn env lo S acc it xs (ts ++ fs) out s → out.length + ys.length ≤ sizeLine →
    codeAny (model C.prog C.w) A (.compLoop e depth (.ref it) (.ref acc) env) (CompOut C sc ns fn env lo S acc it fs J (out ++ ys) s) s
theorem CompOut.after {acc it : Addr} {fs : List Sl} {J : List Sl → Prop} {out ys zs : List PyData} {r : Result} (k : KB C (MuC it acc lo S) s s') (h : CompOut C sc ns fn env lo S acc it fs J ((out ++ ys) ++ zs) s' r s'') : CompOut C sc ns fn env lo S acc it fs J (out ++ (ys ++ zs)) s r s'' :=
  ⟨h.res, k.trans h.kb, List.append_assoc .. ▸ h.at_⟩
theorem comp_turn (W : Wf C) {g : Comprehension} {fs ts ts₂ : List Sl} {acc it : Addr} {x : PyData} {xs out : List PyData} {b : Bool} {Q : PySem.Fin → Shared → Prop} {E : Value → Shared → Prop} {R' : Bool → Shared → Prop}
    (P : CompFix C A k lo S acc it) (X : CompIt C A sc ns fn env lo S acc it (x :: xs) (ts ++ fs) out s) (hasg : AsgOk C k fn sc ns g.target x (ts ++ fs) (ts₂ ++ fs)) (hifs : IfsOk C k sc ns (ts₂ ++ fs) g.ifs b)
    (hq : ∀ s₃, KB C (MuC it acc lo S) s s₃ → CompIt C A sc ns fn env lo S acc it xs (ts₂ ++ fs) out s₃ → R' b s₃) :
    wpAny (model C.prog C.w) A (pyNext (.ref it)) (fun r s₁ => match r with
      | .none => Q (.done .next) s₁
      | .some v => wpAny (model C.prog C.w) A (letOwnedTupleGo g.target (.ref it) v) (fun _ s₂ => wpAny (model C.prog C.w) A (assign g.target env v) (fun _ s₃ =>
        wpAny (model C.prog C.w) A (forIn g.ifs true fun c r => if r = true then do let ok ← isTrue c env (eval c env); pure (ForInStep.yield ok) else pure (ForInStep.yield r)) R' E s₃) E s₂) E s₁) E s := by
  refine X.it.next P.no fun v s₁ k₁ r₁ ho₁ => letOwned ho₁.obj ?_
  have X₁ := X.at_.it W P.sa P.no P.bi X.it.obj k₁
  refine wq (hasg A env lo S s₁ v P.R X₁.inv X₁.fr r₁) fun _ s₂ h₂ => ?_
  have X₂ := X₁.asg W P.la h₂.1 h₂.2
  have ho₂ := ho₁.kb h₂.1 fun a z => z.1
  exact ifs_go W hifs P.R X₂.inv X₂.fr fun s₃ k₃ => hq s₃ ((k₁.mono fun a z => .inl z).trans ((h₂.1.mono fun a z => .inr (.inr z)).trans k₃.no)) ⟨X₂.no W k₃, ho₂.kb k₃ fun a z => False.elim z⟩
noncomputable def TurnEnd (C : Cx) (A : Around) (R' : Result → Shared → Prop) : PySem.Fin → Shared → Prop
  | .done f, s' => R' (.ok f) s'
  | .again c, s' => c.quiet = true ∧ codeAny (model C.prog C.w) A c R' s'
theorem comp_code {elt : Expr} {gens : List Comprehension} {scope : Scope} {pos : Pos} {depth : Nat} {it acc : Addr} {R' : Result → Shared → Prop} (h : wpAny (model C.prog C.w) A (compTurn (.ListComp elt gens scope pos) depth (.ref it) (.ref acc) env) (TurnEnd C A R') (fun _ _ => False) s) :
    codeAny (model C.prog C.w) A (.compLoop (.ListComp elt gens scope pos) depth (.ref it) (.ref acc) env) R' s := by
  refine codeAny_of_tree ?_
  show wpAny _ A ((compTurn (.ListComp elt gens scope pos) depth (.ref it) (.ref acc) env).onRaise (fun x => do noteFrame x env; theTreesLotGoes x)) _ _ s
  refine wpAny_noted (wpAny_mono h (fun f s' q => ?_) fun _ _ z => z.elim)
  cases f with
  | done f => exact q
  | again c => exact q
theorem comp_none (W : Wf C) {elt : Expr} {gens : List Comprehension} {scope : Scope} {pos : Pos} {fs : List Sl} {depth : Nat} {g : Comprehension} {J : List Sl → Prop} (hg : gens[depth]? = some g) (hasy : g.is_async = 0) : GenOk C k fn sc ns fs (.ListComp elt gens scope pos) depth J [] [] :=
  fun A env lo S acc it s ts out P hJ X hsz => comp_code (wp_compTurn hg hasy _ (fun z => rfl) (X.it.done fun s₁ k₁ => ⟨rfl, k₁.mono fun a z => .inl z, ts, hJ, (List.append_nil out).symm ▸ X.at_.it W P.sa P.no P.bi X.it.obj k₁⟩))
theorem loop1 (W : Wf C) {elt : Expr} {gens : List Comprehension} {scope : Scope} {pos : Pos} {fs : List Sl} {depth : Nat} {g : Comprehension} {J : List Sl → Prop} (hg : gens[depth]? = some g) (hasy : g.is_async = 0) (hl : gens[depth + 1]? = .none) {xs : List PyData} {yss : List (List PyData)} (hall : All2 (TurnJ C k fn sc ns J fs elt g) xs yss) :
    GenOk C k fn sc ns fs (.ListComp elt gens scope pos) depth J xs yss.flatten := by
  induction hall with
  | nil => exact comp_none W hg hasy
  | @cons x ys xs yss hx hrest ih =>
    intro A env lo S acc it s ts out P hJ X hsz
    obtain ⟨ts₂, hJ₂, hasg, b, hifs, hb0, hb1⟩ := hx ts hJ
    rw [List.flatten_cons, List.length_append] at hsz
    refine comp_code (wp_compTurnLast hg hasy hl (comp_turn W P X hasg hifs fun s₃ k₃ X₃ => ?_))
    have fin : ∀ s₄, KB C (MuC it acc lo S) s s₄ → CompIt C A sc ns fn env lo S acc it xs (ts₂ ++ fs) (out ++ ys) s₄ → TurnEnd C A (CompOut C sc ns fn env lo S acc it fs J (out ++ (ys ++ yss.flatten)) s) (.again (.compLoop (.ListComp elt gens scope pos) depth (.ref it) (.ref acc) env)) s₄ :=
      fun s₄ k₄ X₄ => ⟨rfl, codeAny_mono (ih A env lo S acc it s₄ ts₂ (out ++ ys) P hJ₂ X₄ (by rw [List.length_append]; lia)) fun r s' h => h.after k₄⟩
    cases b with
    | false =>
      rw [if_neg Bool.false_ne_true]
      have hys := hb0 rfl
      subst hys
      exact fin s₃ k₃ (by rw [List.append_nil]; exact X₃)
    | true =>
      rw [if_pos rfl]
      obtain ⟨y, hev, rfl⟩ := hb1 rfl
      refine hev.go W P.R X₃.at_.inv X₃.at_.fr fun yv s₄ k₄ r₄ I₄ F₄ => ?_
      have X₄ := X₃.at_.no W k₄
      obtain ⟨vs, hp, hr⟩ := X₄.acc
      have hvl := hr.length
      rw [Array.length_toList] at hvl
      rw [List.length_singleton] at hsz
      refine wpAny_list_append_plain hp (fun h' hp' hs => ?_) (by lia)
      obtain ⟨n, e⟩ := id hp
      have k₅ : KB C (· = acc) s₄ { s₄ with heap := h' } := KB.upd (t := s₄.toks) hs.extBut e (loose_seq rfl) rfl
      have F₅ := F₄.acc P.sa P.la hp hs (let ⟨_, e⟩ := hp'; ⟨_, e⟩)
      exact fin _ (k₃.trans (k₄.no.trans (k₅.mono fun a z => .inr (.inl z)))) ⟨⟨F₅, I₄.kb W k₅ fun a z => z ▸ P.ba, vs.push yv, hp', by
        rw [Array.toList_push]
        exact (RpAll.append (.cons r₄ .nil) hr).kb k₅ fun a z => z ▸ P.sa⟩, (X₃.it.kb k₄ fun a z => False.elim z).kb k₅ fun a z => z ▸ P.sa⟩
end Mine
end

noncomputable section
open PySem PySem.W PyProof.Rows
namespace Mine
variable {C : Cx} {k : Nat} {sc : Scope} {ns : List Str} {fn : Str → Bool} {env : Env} {lo : Nat} {S S' S'' : Addr → Prop} {Γ Γ' : List Sl} {s s' s'' : Shared} {A : Around} {Mu : Addr → Prop} {e : Expr} {d : PyData}

noncomputable def relab (cs sc : Scope) : Scope := { cs with names := cs.names.map fun (n, k) => if (k == .free && sc.kind == .function && sc.names.lookup n == some .cell) then (n, .cell) else (n, k) }
theorem relabel_eq {cs : Scope} (h : env.scope = sc) : relabel cs env = relab cs sc := by subst h; rfl

noncomputable def clFor (cells : List (Str × Addr)) : List (Str × NameKind) → List (Str × Addr) → List (Str × Addr)
  | [], acc => acc
  | (n, k) :: r, acc => clFor cells r (if k == .free then (n, (cells.lookup n).getD 0) :: acc else acc)
theorem clFor_c {cells acc : List (Str × Addr)} {n : Str} {k : NameKind} {r : List (Str × NameKind)} : clFor cells ((n, k) :: r) acc = clFor cells r (if k == .free then (n, (cells.lookup n).getD 0) :: acc else acc) := rfl
theorem closure_go (env : Env) (f : Str × NameKind → List (Str × Addr) → Sem (ForInStep (List (Str × Addr))))
    (hf : ∀ name kind cs, f (name, kind) cs = if kind == .free then (do let a ← cellOf env name; pure (.yield ((name, a) :: cs))) else pure (.yield cs)) :
    ∀ (names : List (Str × NameKind)) (acc : List (Str × Addr)), (∀ x ∈ names, x.2 = .free → (env.cells.lookup x.1).isSome = true) → forIn names acc f = pure (clFor env.cells names acc)
  | [], acc, h => by rw [List.forIn_nil]; rfl
  | (n, kd) :: r, acc, h => by
    rw [List.forIn_cons, hf]
    rw [clFor_c]
    by_cases hk : kd = .free
    · subst hk
      obtain ⟨c, hc⟩ := Option.isSome_iff_exists.mp (h _ (.head _) rfl)
      have hc' : env.cells.lookup n = some c := hc
      have e : cellOf env n = pure c := by unfold cellOf; rw [hc']
      rw [if_pos (by rfl), if_pos (by rfl), e, hc']
      show forIn r _ f = _
      exact closure_go env f hf r _ fun x hx => h x (.tail _ hx)
    · have : (kd == NameKind.free) = false := by simpa using hk
      rw [this, if_neg Bool.false_ne_true, if_neg Bool.false_ne_true]
      show forIn r _ f = _
      exact closure_go env f hf r _ fun x hx => h x (.tail _ hx)
theorem closure_eq {cs : Scope} {env : Env} (h : ∀ x ∈ cs.names, x.2 = .free → (env.cells.lookup x.1).isSome = true) : closureFor cs env = pure (clFor env.cells cs.names []) := by
  unfold closureFor
  dsimp only
  rw [closure_go env _ (fun name kind cs => by cases hkc : kind == NameKind.free <;> simp [hkc]) cs.names [] h]
  rfl
theorem clFor_mem {cells : List (Str × Addr)} : ∀ (names : List (Str × NameKind)) (acc : List (Str × Addr)) (x : Str) (c : Addr), (x, c) ∈ clFor cells names acc → (x, c) ∈ acc ∨ ((x, .free) ∈ names ∧ c = (cells.lookup x).getD 0)
  | [], acc, x, c, h => .inl h
  | (n, kd) :: r, acc, x, c, h => by
    rcases clFor_mem r _ x c h with q | ⟨q, e⟩
    · split at q
      · rename_i hk
        rcases List.mem_cons.mp q with q | q
        · cases q; exact .inr ⟨by rw [eq_of_beq hk]; exact .head _, rfl⟩
        · exact .inl q
      · exact .inl q
    · exact .inr ⟨.tail _ q, e⟩
theorem clFor_some {cells : List (Str × Addr)} : ∀ (names : List (Str × NameKind)) (acc : List (Str × Addr)) (x : Str), ((x, .free) ∈ names ∨ (acc.lookup x).isSome = true) → ((clFor cells names acc).lookup x).isSome = true
  | [], acc, x, h => h.elim (fun z => by cases z) id
  | (y, kd) :: r, acc, x, h => by
    rw [clFor_c]
    refine clFor_some r _ x ?_
    rcases h with h | h
    · rcases List.mem_cons.mp h with h | h
      · cases h; exact .inr (by rw [if_pos (by rfl), List.lookup_cons]; simp)
      · exact .inl h
    · refine .inr ?_
      split
      · rw [List.lookup_cons]; split <;> first | rfl | exact h
      · exact h
theorem cellsFrom_append : ∀ (names : List (Str × NameKind)) (n : Nat) (acc : List (Str × Addr)), cellsFrom n names acc = cellsFrom n names [] ++ acc
  | [], _, _ => rfl
  | (x, kd) :: r, n, acc => by
    unfold cellsFrom
    split
    · rw [cellsFrom_append r (n + 1) ((x, n) :: acc), cellsFrom_append r (n + 1) [(x, n)], List.append_assoc]; rfl
    · exact cellsFrom_append r n acc
theorem cellsFrom_mem : ∀ (names : List (Str × NameKind)) (n : Nat) (acc : List (Str × Addr)) (x : Str) (c : Addr), (x, c) ∈ cellsFrom n names acc → (x, c) ∈ acc ∨ (x, .cell) ∈ names
  | [], _, _, _, _, h => .inl h
  | (y, kd) :: r, n, acc, x, c, h => by
    unfold cellsFrom at h
    split at h
    · rename_i hk
      rcases cellsFrom_mem r _ _ x c h with q | q
      · rcases List.mem_cons.mp q with q | q
        · cases q; exact .inr (by rw [eq_of_beq hk]; exact .head _)
        · exact .inl q
      · exact .inr (.tail _ q)
    · rcases cellsFrom_mem r _ _ x c h with q | q
      · exact .inl q
      · exact .inr (.tail _ q)

theorem wp_compEnv {prog : Program} {w : World} {E : Value → Shared → Prop} {cs : Scope} {cl : List (Str × Addr)} {Q : Env → Shared → Prop}
    (hQ : Q (newEnv cs s.heap.objs.size env.globals (cellsFrom (s.heap.objs.size + 1) cs.names cl) env.qual .none .none (some env) builtinsNs) { s with heap := pushCells (s.heap.push { cls := .type "dict", data := .dict #[] }) cs.names }) :
    wpAny (model prog w) A (newFunctionEnv cs env.globals cl [] env.qual .none .none (some env)) Q E s := by
  simp only [newFunctionEnv, Option.isSome_some, if_true]
  refine wpAny_bind (wpAny_alloc ?_)
  refine wpAny_bind (wpAny_layCells _ (fun name kind cells => by cases hkc : kind == NameKind.cell <;> simp [hkc]) _ _ _ _ ?_)
  rw [show ({ s with heap := s.heap.push { cls := .type "dict", data := .dict #[] } } : Shared).heap.objs.size = s.heap.objs.size + 1 from Heap.size_push ..]
  rw [List.forIn_nil]
  exact wpAny_bind (wpAny_pure (wpAny_pure hQ))

noncomputable def Sl.pick : Sl → Sl
  | .own _ => .un
  | x => x
noncomputable def pickS (ns : List Str) (Γ : List Sl) (x : Str) : Sl := (Γ.getD (ns.idxOf x) .un).pick

noncomputable abbrev CompOk (sc : Scope) (ns : List Str) (cs : Scope) (tns fns : List Str) : Prop :=
  cs.kind = .function ∧ (∀ x ∈ cs.names, x.2 = .local → cs.names.lookup x.1 = some .local) ∧ (tns ++ fns).Nodup ∧
  (∀ x ∈ tns, ((relab cs sc).names.lookup x = some .local ∨ ((relab cs sc).names.lookup x = some .cell ∧ (x, NameKind.cell) ∈ cs.names)) ∧ (x, NameKind.free) ∉ cs.names) ∧
  (∀ x ∈ fns, ((relab cs sc).names.lookup x = some .cell ∨ ((relab cs sc).names.lookup x = some .free ∧ (x == ("__classdict__" : Str)) = false)) ∧ (x, NameKind.free) ∈ cs.names ∧ (x, NameKind.cell) ∉ cs.names) ∧
  (∀ x ∈ cs.names, x.2 = .free → x.1 ∈ ns ∧ sc.names.lookup x.1 ≠ some .local)

theorem idx_get {x : Str} (h : x ∈ ns) : ns[ns.idxOf x]? = some x := by
  have h1 := List.idxOf_lt_length_of_mem h
  rw [List.getElem?_eq_getElem h1, List.getElem_idxOf h1]

theorem SlotAt.pick {h : Heap} {sl : Sl} {vo : Option Value} {lo' : Nat} (x : SlotAt h lo S sl vo) (hk : ∀ b o, h.get? b = some o → ¬ S b → ¬ S' b) : SlotAt h lo' S' sl.pick vo := by
  cases sl with
  | un => trivial
  | v d => obtain ⟨v, e, r⟩ := x; exact ⟨v, e, r.avoid hk⟩
  | own xs => trivial

theorem comp_frame (W : Wf C) {cs : Scope} {tns fns : List Str} (hc : CompOk sc ns cs tns fns) (I : Inv C s) (F : FrameOk C sc ns fn env lo S Γ s.heap) :
    ∃ S', (∀ a, S a → S' a) ∧ (∀ a, S' a → S a ∨ s.heap.get? a = .none) ∧
    FrameOk C (relab cs sc) (tns ++ fns) (fun x => tns.contains x) { newEnv cs s.heap.objs.size env.globals (cellsFrom (s.heap.objs.size + 1) cs.names (clFor env.cells cs.names [])) env.qual .none .none (some env) builtinsNs with scope := relab cs sc } s.heap.objs.size S'
      (List.replicate tns.length .un ++ fns.map (pickS ns Γ)) (pushCells (s.heap.push { cls := .type "dict", data := .dict #[] }) cs.names) := by
  obtain ⟨c1, c2, c3, c4, c5, c6⟩ := hc
  have hbig := I.big W
  have ok := cellsFrom_ok cs.names (s.heap.push { cls := .type "dict", data := .dict #[] }) (s.heap.objs.size + 1) [] ⟨fun _ _ hm => (nomatch hm), List.Pairwise.nil⟩ (by rw [Heap.size_push]; exact Nat.le_refl _)
  rw [Heap.size_push] at ok
  have up : ∀ b o, s.heap.get? b = some o → (pushCells (s.heap.push { cls := .type "dict", data := .dict #[] }) cs.names).get? b = some o := fun b o e => pushCells_keeps _ _ b o (Heap.get?_push_of_some _ e)
  generalize hcells : cellsFrom (s.heap.objs.size + 1) cs.names (clFor env.cells cs.names []) = cells
  have happ : cells = cellsFrom (s.heap.objs.size + 1) cs.names [] ++ clFor env.cells cs.names [] := by rw [← hcells]; exact cellsFrom_append _ _ _
  -- a free name's cell is the outer one
  have hfree : ∀ x, (x, NameKind.free) ∈ cs.names → ∃ c vo, env.cells.lookup x = some c ∧ s.heap.IsCell c vo ∧ SlotAt s.heap lo S (pickS ns Γ x) vo := fun x hx => by
    obtain ⟨h1, h2⟩ := c6 _ hx rfl
    obtain ⟨_, c, vo, h3, h4, h5⟩ := F.cel _ x (idx_get h1) h2
    refine ⟨c, vo, h3, h4, ?_⟩
    exact h5.pick fun b o _ m => m
  have hcase : ∀ x c, cells.lookup x = some c → ((x, c) ∈ cellsFrom (s.heap.objs.size + 1) cs.names []) ∨ ((x, NameKind.free) ∈ cs.names ∧ env.cells.lookup x = some c) := fun x c h => by
    have hm := mem_of_lookup h
    rw [happ] at hm
    rcases List.mem_append.mp hm with q | q
    · exact .inl q
    · rcases clFor_mem _ _ _ _ q with z | ⟨z, e⟩
      · cases z
      · obtain ⟨c', vo, h1, _⟩ := hfree x z
        rw [h1] at e
        exact .inr ⟨z, by rw [h1, e]; rfl⟩
  have hlt : ∀ x c, env.cells.lookup x = some c → c < s.heap.objs.size := fun x c h => let ⟨vo, o, e, _⟩ := F.celC x c h; Heap.lt_size e
  have hown : ∀ x c, (x, c) ∈ cellsFrom (s.heap.objs.size + 1) cs.names [] → s.heap.objs.size + 1 ≤ c := fun x c h => (ok.empty x c h).2
  refine ⟨fun a => S a ∨ a = s.heap.objs.size ∨ ∃ x, (x, a) ∈ cellsFrom (s.heap.objs.size + 1) cs.names [], fun a z => .inl z, fun a z => ?_, ?_⟩
  · rcases z with z | z | ⟨x, z⟩
    · exact .inl z
    · exact .inr (z ▸ get_size _)
    · refine .inr ?_
      cases q : s.heap.get? a with
      | none => rfl
      | some o => exact absurd (Heap.lt_size q) (Nat.not_lt.mpr (Nat.le_of_succ_le (hown x a z)))
  · have av : ∀ b o, s.heap.get? b = some o → ¬ S b → ¬ (S b ∨ b = s.heap.objs.size ∨ ∃ x, (x, b) ∈ cellsFrom (s.heap.objs.size + 1) cs.names []) := fun b o e m z => by
      have hl := Heap.lt_size e
      rcases z with z | z | ⟨x, z⟩
      · exact m z
      · exact absurd (z ▸ hl) (Nat.lt_irrefl _)
      · exact absurd (Nat.lt_of_lt_of_le hl (Nat.le_of_succ_le (hown x b z))) (Nat.lt_irrefl _)
    have hunslot : ∀ (i : Nat), i < tns.length → (List.replicate tns.length Sl.un ++ fns.map (pickS ns Γ)).getD i .un = .un := fun i hi => by
      rw [List.getD_eq_getElem?_getD, List.getElem?_append_left (by simpa using hi), List.getElem?_replicate, if_pos hi]; rfl
    have hfslot : ∀ (i : Nat) x, (tns ++ fns)[i]? = some x → ¬ i < tns.length → x ∈ fns ∧ (List.replicate tns.length Sl.un ++ fns.map (pickS ns Γ)).getD i .un = pickS ns Γ x := fun i x hx hi => by
      rw [List.getElem?_append_right (Nat.not_lt.mp hi)] at hx
      refine ⟨List.mem_of_getElem? hx, ?_⟩
      rw [List.getD_eq_getElem?_getD, List.getElem?_append_right (by simpa using hi), List.length_replicate, List.getElem?_map, hx]; rfl
    have hmemt : ∀ (i : Nat) x, (tns ++ fns)[i]? = some x → i < tns.length → x ∈ tns := fun i x hx hi => by
      rw [List.getElem?_append_left hi] at hx; exact List.mem_of_getElem? hx
    refine ⟨rfl, c1, F.glob, F.blt, c3, ⟨fun _ => .none, ?_, fun i x hx hl => ?_⟩, fun i x hx hl => ?_, fun x y c h1 h2 => ?_, ⟨.inr (.inl rfl), Nat.le_refl _⟩, fun x c h => ?_, fun x c h => ?_, fun x c hx h => ?_, fun a z => ?_, fun a z => ?_, fun x hx hxt => ?_, hbig, fun i j xs ys h1 h2 => ?_⟩
    · exact (Heap.Ns.new s.heap (.type "dict")).keeps (pushCells_keeps _ _)
    · by_cases hi : i < tns.length
      · rw [hunslot i hi]; trivial
      · obtain ⟨hf, _⟩ := hfslot i x hx hi
        rcases (c5 x hf).1 with q | q
        · rw [hl] at q; cases q
        · rw [hl] at q; cases q.1
    · by_cases hi : i < tns.length
      · rw [hunslot i hi]
        rcases (c4 x (hmemt i x hx hi)).1 with q | ⟨q, qm⟩
        · exact absurd q hl
        · have hs : ((cellsFrom (s.heap.objs.size + 1) cs.names []).lookup x).isSome = true := cells_some _ _ _ _ (.inl qm)
          obtain ⟨c, hcc⟩ := Option.isSome_iff_exists.mp hs
          refine ⟨.inl q, c, _, ?_, (ok.empty x c (mem_of_lookup hcc)).1, trivial⟩
          show cells.lookup x = some c
          rw [happ, List.lookup_append, hcc]; rfl
      · obtain ⟨hf, hsl⟩ := hfslot i x hx hi
        rw [hsl]
        obtain ⟨k1, k2, k3⟩ := c5 x hf
        obtain ⟨c, vo, h1, h2, h3⟩ := hfree x k2
        have hs : (cells.lookup x).isSome = true := by
          rw [happ, List.lookup_append, Option.isSome_or, clFor_some _ _ _ (.inl k2), Bool.or_true]
        obtain ⟨c', hc'⟩ := Option.isSome_iff_exists.mp hs
        refine ⟨k1, c, vo, ?_, h2.keeps up, ?_⟩
        · show cells.lookup x = some c
          rcases hcase x c' hc' with q | ⟨_, q⟩
          · rcases cellsFrom_mem _ _ _ _ _ q with z | z
            · cases z
            · exact absurd z k3
          · rw [hc', ← q, h1]
        · have h4 := h3
          unfold pickS at h4 ⊢
          have h5 : SlotAt s.heap s.heap.objs.size (fun a => S a ∨ a = s.heap.objs.size ∨ ∃ x, (x, a) ∈ cellsFrom (s.heap.objs.size + 1) cs.names []) ((Γ.getD (ns.idxOf x) .un).pick).pick vo := h4.pick av
          have e2 : ∀ z : Sl, z.pick.pick = z.pick := fun z => by cases z <;> rfl
          rw [e2] at h5
          exact h5.keep fun b o e _ => up b o e
    · rcases hcase x c h1 with q1 | ⟨q1, q1'⟩ <;> rcases hcase y c h2 with q2 | ⟨q2, q2'⟩
      · exact name_of_addr ok.apart q1 q2
      · exact absurd (Nat.lt_of_lt_of_le (hlt _ _ q2') (Nat.le_of_succ_le (hown _ _ q1))) (Nat.lt_irrefl _)
      · exact absurd (Nat.lt_of_lt_of_le (hlt _ _ q1') (Nat.le_of_succ_le (hown _ _ q2))) (Nat.lt_irrefl _)
      · exact F.apart x y c q1' q2'
    · rcases hcase x c h with q | ⟨_, q⟩
      · exact .inr (.inr ⟨x, q⟩)
      · exact .inl (F.celS x c q)
    · rcases hcase x c h with q | ⟨_, q⟩
      · exact ⟨_, (ok.empty x c q).1⟩
      · obtain ⟨vo, z⟩ := F.celC x c q; exact ⟨vo, z.keeps up⟩
    · rcases hcase x c h with q | ⟨q, _⟩
      · exact Nat.le_of_succ_le (hown x c q)
      · exact absurd q (c4 x (by simpa using hx)).2
    · rcases z with z | z | ⟨x, z⟩
      · obtain ⟨o, e⟩ := F.bd a z; exact ⟨o, up _ _ e⟩
      · exact ⟨_, z ▸ pushCells_keeps _ _ _ _ (Heap.get?_push_size _ rfl)⟩
      · obtain ⟨o, e, _⟩ := (ok.empty x a z).1; exact ⟨o, e⟩
    · rcases z with z | z | ⟨x, z⟩
      · exact F.bs a z
      · exact z ▸ hbig
      · exact Nat.le_trans hbig (Nat.le_of_succ_le (hown x a z))
    · have := (c4 x (by simpa using hxt)).1
      intro z
      rcases this with q | ⟨q, _⟩ <;> (rw [z] at q; cases q)
    · exfalso
      rcases List.mem_append.mp (List.mem_of_getElem? h1) with w | w
      · cases (List.mem_replicate.mp w).2
      · obtain ⟨y, _, w⟩ := List.mem_map.mp w
        unfold pickS at w
        cases q : Γ.getD (ns.idxOf y) .un <;> (rw [q] at w; cases w)

theorem comp_core (W : Wf C) {cs : Scope} {tns fns : List Str} (hc : CompOk sc ns cs tns fns) {elt t iter : Expr} {ifs : List Expr} {rest : List Comprehension} {pos : Pos} {xs : List PyData} {ys : List PyData}
    {J : List Sl → Prop} (hJ : J (List.replicate tns.length .un)) (hgen : GenOk C k (fun x => tns.contains x) (relab cs sc) (tns ++ fns) (fns.map (pickS ns Γ)) (.ListComp elt (⟨t, iter, ifs, 0⟩ :: rest) cs pos) 0 J xs ys) (hsz : ys.length ≤ sizeLine)
    (R : Room A k) (I : Inv C s) (F : FrameOk C sc ns fn env lo S Γ s.heap) {it : Addr} (hS : ¬ S it) (hb : C.base ≤ it) (ho : ItOk C A S it xs s.heap)
    {RR : Value → Addr → Result → Shared → Prop} {E : Value → Shared → Prop}
    (hRR : ∀ acc L s', s.heap.get? acc = .none → s.heap.get? L = .none → C.base ≤ L → acc ≠ L → KB C (· = it) s s' → (∃ m, s'.heap.Ns L m) → ∀ vs, s'.heap.PlainList acc vs → RpAll s'.heap (fun a => S a ∨ a = L) vs.toList ys → RR (.ref acc) L (.ok .next) s') :
    wpAny (model C.prog C.w) A (newList []) (fun acc s₃ => wpAny (model C.prog C.w) A (newFunctionEnv cs env.globals (clFor env.cells cs.names []) [] env.qual .none .none (some env)) (fun cenv s₄ =>
      codeAny (model C.prog C.w) A (.compStart (.ListComp elt (⟨t, iter, ifs, 0⟩ :: rest) cs pos) 0 (.ref it) acc { cenv with scope := relabel cs env }) (RR acc cenv.locals) s₄) E s₃) E s := by
  refine wpAny_newObj_type (wp_compEnv ?_)
  have hbig := I.big W
  have k₁ : KB C No s { s with heap := s.heap.push { cls := .type "list", dict := .none, data := .seq ([] : List Value).toArray } } := KB.push (t := s.toks)
  have I₁ := I.no W k₁
  have F₁ := F.wider W k₁ (get_size s.heap) ⟨_, Heap.get?_push_size _ rfl⟩ hbig
  obtain ⟨S', h1, h2, F₂⟩ := comp_frame W hc I₁ F₁
  have hpl : (s.heap.push { cls := .type "list", dict := .none, data := .seq ([] : List Value).toArray }).PlainList s.heap.objs.size #[] := ⟨_, Heap.get?_push_size _ rfl⟩
  generalize hH : s.heap.push { cls := .type "list", dict := .none, data := .seq ([] : List Value).toArray } = H at *
  have hHs : H.objs.size = s.heap.objs.size + 1 := by rw [← hH, Heap.size_push]
  have k₂ : KB C No { s with heap := H } { s with heap := pushCells (H.push { cls := .type "dict", data := .dict #[] }) cs.names } :=
    KB.grow (s := { s with heap := H }) (t := s.toks) fun b o e => pushCells_keeps _ _ b o (Heap.get?_push_of_some _ e)
  have I₂ := I₁.no W k₂
  rw [relabel_eq F.scope]
  have hSit : ¬ S' it := fun z => by
    obtain ⟨o, _, e, _⟩ := ho.obj
    have e' := k₁.keep _ _ e (fun z => z) fun q => absurd (W.tlt _ q.1) (Nat.not_lt.mpr hb)
    rcases h2 it z with (z | z) | z
    · exact hS z
    · exact absurd (z ▸ Heap.lt_size e) (Nat.lt_irrefl _)
    · have e'' : H.get? it = some o := e'
      rw [z] at e''; cases e''
  have ho₁ : ItOk C A S it xs H := ho.kb k₁ fun a z => False.elim z
  have ho₁' : ItOk C A (fun a => (S a ∨ S' a)) it xs H := by
    have := (ho.both (S' := (· = s.heap.objs.size)) fun b z => .inr (z ▸ get_size _)).kb k₁ fun a z => False.elim z
    exact (this.both (S' := S') fun b z => h2 b z).avoid fun b m z => m (z.elim (fun z => .inl (.inl z)) fun z => .inr z)
  have ho₂ : ItOk C A S' it xs (pushCells (H.push { cls := .type "dict", data := .dict #[] }) cs.names) := (ho₁'.kb k₂ fun a z => False.elim z).avoid fun b m z => m (.inr z)
  have X : CompAt C (relab cs sc) (tns ++ fns) (fun x => tns.contains x) { newEnv cs H.objs.size env.globals (cellsFrom (H.objs.size + 1) cs.names (clFor env.cells cs.names [])) env.qual .none .none (some env) builtinsNs with scope := relab cs sc } H.objs.size S' s.heap.objs.size
      (List.replicate tns.length .un ++ fns.map (pickS ns Γ)) [] { s with heap := pushCells (H.push { cls := .type "dict", data := .dict #[] }) cs.names } :=
    ⟨F₂, I₂, #[], hpl.at fun o e => pushCells_keeps _ _ _ _ (Heap.get?_push_of_some _ e), .nil⟩
  have hla : s.heap.objs.size < H.objs.size := by rw [hHs]; exact Nat.lt_succ_self _
  have loop := hgen A _ H.objs.size S' s.heap.objs.size it _ _ [] ⟨R, h1 _ (.inr rfl), hla, hbig, hSit, hb⟩ hJ ⟨X, ho₂⟩ (by rw [List.length_nil, Nat.zero_add]; exact hsz)
  have fin := codeAny_mono (R' := RR (.ref s.heap.objs.size) H.objs.size) loop fun r s' hout => by
    obtain ⟨q1, q2, ts', q3, X'⟩ := hout
    subst q1
    obtain ⟨vs, q4, q5⟩ := X'.acc
    have kall : KB C (MuC it s.heap.objs.size H.objs.size S') s s' := (k₁.no.trans k₂.no).trans q2
    have hsn : s.heap.get? H.objs.size = .none := by
      cases q : s.heap.get? H.objs.size with
      | none => rfl
      | some o => exact absurd (Nat.lt_trans hla (Heap.lt_size q)) (Nat.lt_irrefl _)
    have kfin : KB C (· = it) s s' := by
      have z : ∀ b o, s.heap.get? b = some o → ¬ b = it → ¬ MuC it s.heap.objs.size H.objs.size S' b := fun b o e m w => by
        have hl := Heap.lt_size e
        rcases w with w | w | w
        · exact m w
        · exact absurd (w ▸ hl) (Nat.lt_irrefl _)
        · exact absurd (Nat.lt_trans hla (Nat.lt_of_le_of_lt w.2 hl)) (Nat.lt_irrefl _)
      exact ⟨fun b o e m t => kall.keep b o e (z b o e m) t, kall.tab, fun b o e m => kall.live b o e (z b o e m), kall.gens, kall.gsize, kall.bare, kall.os, kall.tok⟩
    obtain ⟨m, hn, _⟩ := X'.fr.loc
    refine hRR _ _ s' (get_size _) hsn (Nat.le_trans hbig (Nat.le_of_lt hla)) (Nat.ne_of_lt hla) kfin ⟨m, hn⟩ vs q4 (RpAll.avoid (fun b o e mm w => ?_) (by simpa using q5))
    rcases w with w | w
    · exact mm (h1 _ (.inl w))
    · exact mm (w ▸ X'.fr.locS.1)
  exact comp_start rfl rfl fin (ho₂.self fin)

theorem closure_of {cs : Scope} {tns fns : List Str} (hc : CompOk sc ns cs tns fns) {h : Heap} (F : FrameOk C sc ns fn env lo S Γ h) : closureFor cs env = pure (clFor env.cells cs.names []) :=
  closure_eq fun x hx hk => by
    obtain ⟨_, _, _, _, _, c6⟩ := hc
    obtain ⟨h1, h2⟩ := c6 x hx hk
    obtain ⟨_, c, vo, h3, _⟩ := F.cel _ x.1 (idx_get h1) h2
    rw [h3]; rfl

theorem kb_drop1 {it : Addr} (h : s.heap.get? it = .none) (k : KB C (· = it) s s') : KB C No s s' := KB.drop (Mu' := No) h k fun a z => .inr z

theorem Ev.compG (W : Wf C) {cs : Scope} {elt t iter : Expr} {ifs : List Expr} {rest : List Comprehension} {pos : Pos} (tns fns : List Str) {xs ys : List PyData} (hc : CompOk sc ns cs tns fns)
    (hsrc : Src C k sc ns Γ iter xs)
    {J : List Sl → Prop} (hJ : J (List.replicate tns.length .un)) (hgen : GenOk C k (fun x => tns.contains x) (relab cs sc) (tns ++ fns) (fns.map (pickS ns Γ)) (.ListComp elt (⟨t, iter, ifs, 0⟩ :: rest) cs pos) 0 J xs ys) (hsz : ys.length ≤ sizeLine)
    (hs : ∀ (env : Env) x, foldedSetIterable iter env x = pure x := by intro _ _; rfl) : Ev C k sc ns Γ (.ListComp elt (⟨t, iter, ifs, 0⟩ :: rest) cs pos) (.list ys) := fun A env fn lo S s R I F => by
  rw [eval_ListComp]
  refine wpAny_comprehension_free (use := .none) rfl (hs env) (closure_of hc F) hc.1 hc.2.1 ?_
  refine wq (hsrc A env fn lo S s R I F) fun x s₁ h₁ => wq h₁ fun iv s₂ ⟨it, hi, k₂, hn, hb, ho⟩ => ?_
  subst hi
  have hS : ¬ S it := fun z => by obtain ⟨o, e⟩ := F.bd _ z; rw [hn] at e; cases e
  refine comp_core W hc hJ hgen hsz R (I.no W k₂) (F.no W k₂) hS hb ho fun acc L s' ha hL hLb hne kb hm vs hp hr => ?_
  obtain ⟨m, hm⟩ := hm
  refine ⟨m, hm, fun h' hs' => ?_⟩
  have hL0 := fresh_none k₂ hL
  obtain ⟨oL, es, nn, eL, dL, _⟩ := id hm
  have k3 : KB C (· = L) s' { s' with heap := h' } := KB.upd (t := s'.toks) hs'.extBut eL (loose_dict dL) rfl
  have kk : KB C No s { s' with heap := h' } := by
    have k4 : KB C (fun a => a = it ∨ a = L) s { s' with heap := h' } := ((k₂.no (Mu := fun a => a = it ∨ a = L)).trans (kb.mono fun a z => .inl z)).trans (k3.mono fun a z => .inr z)
    exact KB.drop (Mu' := No) hL0 (KB.drop (Mu' := (· = L)) hn k4 fun a z => z.symm) fun a z => .inr z
  refine ⟨kk, .list (hp.extBut hs'.extBut hne) (fun z => ?_) ?_⟩
  · obtain ⟨o, e⟩ := F.bd _ z
    have := fresh_none k₂ ha
    rw [this] at e; cases e
  · exact (hr.kb k3 fun a z => .inr z).avoid fun b o _ m z => m (.inl z)


theorem genOk_one (W : Wf C) {cs : Scope} {tns fns : List Str} {elt t iter : Expr} {ifs : List Expr} {pos : Pos} {fs : List Sl} {xs : List PyData} {yss : List (List PyData)}
    (hall : All2 (TurnOk C k (fun x => tns.contains x) (relab cs sc) (tns ++ fns) tns.length fs elt ⟨t, iter, ifs, 0⟩) xs yss) : GenOk C k (fun x => tns.contains x) (relab cs sc) (tns ++ fns) fs (.ListComp elt [⟨t, iter, ifs, 0⟩] cs pos) 0 (fun ts => ts.length = tns.length) xs yss.flatten :=
  loop1 W rfl rfl rfl hall
theorem Ev.listComp (W : Wf C) {cs : Scope} {elt t iter : Expr} {ifs : List Expr} {pos : Pos} (tns fns : List Str) {xs : List PyData} (yss : List (List PyData)) (hc : CompOk sc ns cs tns fns)
    (hsrc : Src C k sc ns Γ iter xs)
    (hall : All2 (TurnOk C k (fun x => tns.contains x) (relab cs sc) (tns ++ fns) tns.length (fns.map (pickS ns Γ)) elt ⟨t, iter, ifs, 0⟩) xs yss) (hsz : yss.flatten.length ≤ sizeLine) {ys : List PyData} (hys : yss.flatten = ys)
    (hs : ∀ (env : Env) x, foldedSetIterable iter env x = pure x := by intro _ _; rfl) : Ev C k sc ns Γ (.ListComp elt [⟨t, iter, ifs, 0⟩] cs pos) (.list ys) :=
  hys ▸ Ev.compG W tns fns hc hsrc (List.length_replicate ..) (genOk_one W hall) hsz hs

theorem Rp.kbd {h h' : Heap} {v : Value} {d : PyData} (k : ∀ b o, h.get? b = some o → SeqDat o → h'.get? b = some o) (x : Rp h S v d) : Rp h' S v d := x.map fun b o e m _ c => ⟨k b o e c, m⟩
theorem RpAll.kbd {h h' : Heap} {vs : List Value} {ds : List PyData} (k : ∀ b o, h.get? b = some o → SeqDat o → h'.get? b = some o) (x : RpAll h S vs ds) : RpAll h' S vs ds := x.map fun b o e m _ c => ⟨k b o e c, m⟩
theorem SlotAt.keepD {h h' : Heap} {sl : Sl} {vo : Option Value} (x : SlotAt h lo S sl vo) (hk : ∀ b o, h.get? b = some o → S b ∨ SeqDat o → h'.get? b = some o) : SlotAt h' lo S sl vo := by
  cases sl with
  | un => trivial
  | v d => obtain ⟨v, e, r⟩ := x; exact ⟨v, e, r.kbd fun b o e c => hk b o e (.inr c)⟩
  | own xs => obtain ⟨b, vs, e, h1, h2, ⟨n, h3⟩, r⟩ := x; exact ⟨b, vs, e, h1, h2, ⟨n, hk _ _ h3 (.inl h1)⟩, r.kbd fun b o e c => hk b o e (.inr c)⟩
theorem FrameOk.keepD {h h' : Heap} (F : FrameOk C sc ns fn env lo S Γ h) (hk : ∀ b o, h.get? b = some o → S b ∨ SeqDat o → h'.get? b = some o) : FrameOk C sc ns fn env lo S Γ h' where
  scope := F.scope
  kind := F.kind
  glob := F.glob
  blt := F.blt
  nd := F.nd
  loc := let ⟨m, ⟨o, es, n, e, r⟩, h⟩ := F.loc; ⟨m, ⟨o, es, n, hk _ _ e (.inl F.locS.1), r⟩, fun i x e q => (h i x e q).keepD hk⟩
  cel := fun i x e q => let ⟨h1, c, vo, h2, ⟨o, eo, dd⟩, h4⟩ := F.cel i x e q; ⟨h1, c, vo, h2, ⟨o, hk _ _ eo (.inl (F.celS _ _ h2)), dd⟩, h4.keepD hk⟩
  apart := F.apart
  locS := F.locS
  celS := F.celS
  celC := fun x c e => let ⟨vo, o, eo, dd⟩ := F.celC x c e; ⟨vo, o, hk _ _ eo (.inl (F.celS _ _ e)), dd⟩
  celM := F.celM
  bd := fun b z => let ⟨o, e⟩ := F.bd b z; ⟨o, hk b o e (.inl z)⟩
  bs := F.bs
  nofree := F.nofree
  lob := F.lob
  one := F.one

theorem Ex1.assignG (W : Wf C) {x : Str} {p' p : Pos} {cs : Scope} {elt t iter : Expr} {ifs : List Expr} {rest : List Comprehension} {pos : Pos} (i : Nat) (tns fns : List Str) {xs ys : List PyData} (hc : CompOk sc ns cs tns fns)
    (hsrc : Src C k sc ns Γ iter xs)
    {J : List Sl → Prop} (hJ : J (List.replicate tns.length .un)) (hgen : GenOk C k (fun x => tns.contains x) (relab cs sc) (tns ++ fns) (fns.map (pickS ns Γ)) (.ListComp elt (⟨t, iter, ifs, 0⟩ :: rest) cs pos) 0 J xs ys) (hsz : ys.length ≤ sizeLine)
    (hx : ns[i]? = some x := by rfl) (hi : i < Γ.length := by exact of_decide_eq_true rfl) (hl : sc.names.lookup x = some .local := by rfl) (hln : (p'.line == pos.line) = true := by rfl) (hnt : (cs.names.any fun (n, k) => n == x && (k == .local || k == .cell)) = false := by decide)
    (hs : ∀ (env : Env) x, foldedSetIterable iter env x = pure x := by intro _ _; rfl) : Ex1 C k sc ns Γ (.Assign [.Name x p'] (.ListComp elt (⟨t, iter, ifs, 0⟩ :: rest) cs pos) p) (· = .next (Γ.set i (.v (.list ys)))) := fun A env lo S s R I F => by
  have hsw : swapsWith (.ListComp elt (⟨t, iter, ifs, 0⟩ :: rest) cs pos) (some (.Name x p')) p.line env = pure true := by
    have e1 : (env.blockKind == .function) = true := by unfold Env.blockKind; rw [F.scope, F.kind]; rfl
    have e2 : (env.kindOf x == some .local) = true := by unfold Env.kindOf; rw [F.scope, hl]; rfl
    show (pure (env.blockKind == .function && env.kindOf x == some .local && p'.line == pos.line && !(cs.names.any fun (n, k) => n == x && (k == .local || k == .cell))) : Sem Bool) = _
    rw [e1, e2, hln, hnt]; rfl
  rw [exec_Assign_Name_used _ _ _ _ hsw]
  refine wpAny_bind (wpAny_standAt (wpAny_bind ?_))
  show wpAny _ A (do let _ ← comprehension (.ListComp elt (⟨t, iter, ifs, 0⟩ :: rest) cs pos) cs env _ (newList []) false (eval iter env) (some (PySem.assign (.Name x p') env))) _ _ s
  refine wpAny_bind (wpAny_mono (wpAny_comprehension_free (use := some (PySem.assign (.Name x p') env)) (Q := fun _ s' => ∃ out, out = Out.next (Γ.set i (.v (.list ys))) ∧ KB C (MuOf lo S) s s' ∧ OutOk C sc ns env lo S s.heap s' .next out) rfl (hs env) (closure_of hc F) hc.1 hc.2.1 ?_)
    (fun _ s' hq => wpAny_pure (wpAny_pure hq)) fun _ _ e => e)
  refine wq (hsrc A env allW lo S s R I F) fun xv s₁ h₁ => wq h₁ fun iv s₂ ⟨it, hi', k₂, hn, hb, ho⟩ => ?_
  subst hi'
  have hS : ¬ S it := fun z => by obtain ⟨o, e⟩ := F.bd _ z; rw [hn] at e; cases e
  refine comp_core W hc hJ hgen hsz R (I.no W k₂) (F.no W k₂) hS hb ho fun acc L s' ha hL hLb hne kb hm vs hp hr => ?_
  have k₁ : KB C No s s' := kb_drop1 hn (k₂.no.trans kb)
  have hL0 := fresh_none k₂ hL
  have hLS : ¬ S L := fun z => by obtain ⟨o, e⟩ := F.bd _ z; rw [hL0] at e; cases e
  obtain ⟨mL, hmL⟩ := hm
  obtain ⟨oL, es, nn, eL, dL, _⟩ := id hmL
  have F₁ := F.no W k₁
  have hr' : Rp s'.heap S (.ref acc) (.list ys) := .list hp (fun z => by
    obtain ⟨o, e⟩ := F.bd _ z
    have := fresh_none k₂ ha
    rw [this] at e; cases e) (hr.avoid fun b o _ m z => m (.inl z))
  show wpAny _ A (PySem.assign (.Name x p') env (.ref acc)) _ _ _
  refine wpAny_assign_Name (frame_storeV W F₁ hx (.inl rfl) hi hr' fun s₃ k₃ F₃ => ?_)
  have hmL₃ : s₃.heap.Ns L mL := Ns.kb hmL k₃ (fun z => hLS z.1) (fun z => absurd (W.tlt _ z) (Nat.not_lt.mpr hLb))
  refine ⟨mL, hmL₃, fun h₄ hs₄ => ?_⟩
  obtain ⟨oL', es', nn', eL', dL', _⟩ := id hmL₃
  have k₄ : KB C (· = L) s₃ { s₃ with heap := h₄ } := KB.upd (t := s₃.toks) hs₄.extBut eL' (loose_dict dL') rfl
  refine ⟨_, rfl, ?_, S, SExt.refl, F₃.keepD fun b o e z => hs₄.extBut b o (fun q => ?_) e⟩
  · exact KB.drop hL0 (((k₁.no (Mu := fun a => MuOf lo S a ∨ a = L)).trans (k₃.mono fun a z => .inl z)).trans (k₄.mono fun a z => .inr z)) fun a z => z
  · subst q
    rcases z with z | ⟨ys, n, z⟩
    · exact hLS z
    · rw [eL'] at e; cases e; rw [dL'] at z; cases z
theorem Ex.assignComp (W : Wf C) {x : Str} {p' p : Pos} {cs : Scope} {elt t iter : Expr} {ifs : List Expr} {pos : Pos} {st : List Stmt} {Q : Out → Prop} (i : Nat) (tns fns : List Str) {xs : List PyData} (yss : List (List PyData)) (hc : CompOk sc ns cs tns fns)
    (hsrc : Src C k sc ns Γ iter xs)
    (hall : All2 (TurnOk C k (fun x => tns.contains x) (relab cs sc) (tns ++ fns) tns.length (fns.map (pickS ns Γ)) elt ⟨t, iter, ifs, 0⟩) xs yss) (hsz : yss.flatten.length ≤ sizeLine) {ys : List PyData} (hys : yss.flatten = ys)
    (hr : Ex C k sc ns (Γ.set i (.v (.list ys))) st Q)
    (hx : ns[i]? = some x := by rfl) (hi : i < Γ.length := by exact of_decide_eq_true rfl) (hl : sc.names.lookup x = some .local := by rfl) (hln : (p'.line == pos.line) = true := by rfl) (hnt : (cs.names.any fun (n, k) => n == x && (k == .local || k == .cell)) = false := by decide)
    (hs : ∀ (env : Env) x, foldedSetIterable iter env x = pure x := by intro _ _; rfl) : Ex C k sc ns Γ (.Assign [.Name x p'] (.ListComp elt [⟨t, iter, ifs, 0⟩] cs pos) p :: st) Q :=
  .cons W ((Ex1.assignG W i tns fns hc hsrc (List.length_replicate ..) (genOk_one W hall) hsz hx hi hl hln hnt hs).mono fun o h => h ▸ hys ▸ hr)
end Mine
end

noncomputable section
open PySem PySem.W PyProof.Rows
namespace Mine
variable {C : Cx} {k : Nat} {sc : Scope} {ns : List Str} {fn : Str → Bool} {env : Env} {lo : Nat} {S S' S'' : Addr → Prop} {Γ Γ' : List Sl} {s s' s'' : Shared} {A : Around} {Mu : Addr → Prop} {e : Expr} {d : PyData}

theorem RpAll.ints {h : Heap} : ∀ {vs : List Value} {xs : List Int}, RpAll h S vs (xs.map .int) → IntsAre vs xs
  | [], [], _ => .nil
  | _ :: _, [], x => by cases x
  | [], _ :: _, x => by cases x
  | v :: vs, n :: xs, x => by
    cases x with
    | cons a b => cases a with | int _ t => exact .cons _ t b.ints
theorem rpall_ints {h : Heap} : ∀ {vs : List Value} {xs : List Int}, IntsAre vs xs → RpAll h S vs (xs.map .int)
  | _, _, .nil => .nil
  | _, _, .cons n t r => .cons (.int _ _) (rpall_ints r)
theorem ints_get : ∀ {vs : List Value} {xs : List Int}, IntsAre vs xs → ∀ {i : Nat} {v : Value}, vs[i]? = some v → ∃ t, v = .int (xs.getD i 0) t
  | _, _, .nil, i, v, h => by simp at h
  | _, _, .cons n t r, 0, v, h => by simp at h; exact ⟨t, h.symm⟩
  | _, _, .cons n t r, i + 1, v, h => by
    obtain ⟨u, e⟩ := ints_get r (i := i) (by simpa using h)
    exact ⟨u, by simpa using e⟩
theorem RpAll.strs {h : Heap} : ∀ {vs : List Value} {xs : List Str}, RpAll h S vs (xs.map .str) → ∃ l : List (Str × Tok), strValues l = vs ∧ l.map (·.1) = xs
  | [], [], _ => ⟨[], rfl, rfl⟩
  | _ :: _, [], x => by cases x
  | [], _ :: _, x => by cases x
  | v :: vs, n :: xs, x => by
    cases x with
    | cons a b => cases a with
      | str _ t =>
        obtain ⟨l, e1, e2⟩ := b.strs
        exact ⟨(n, t) :: l, by rw [← e1]; rfl, by rw [← e2]; rfl⟩
theorem rpall_strs {h : Heap} : ∀ (l : List (Str × Tok)), RpAll h S (strValues l) ((l.map (·.1)).map .str)
  | [] => .nil
  | (x, t) :: l => .cons (.str _ _) (rpall_strs l)

noncomputable def DT : PyData → String
  | .int _ => "int"
  | .str _ => "str"
  | .list _ => "list"
  | _ => ""
theorem Rp.recv {v : Value} (r : Rp s.heap S v d) (h : DT d ≠ "") : s.TypeIs v (DT d) ∧ ∀ a, v = .ref a → ∃ ob, s.heap.get? a = some ob ∧ ob.dict = .none := by
  cases r with
  | none => exact absurd rfl h
  | bool b => exact absurd rfl h
  | int i t => exact ⟨typeIs_int _ _ _, fun _ e => nomatch e⟩
  | str x t => exact ⟨typeIs_str _ _ _, fun _ e => nomatch e⟩
  | list hp _ _ =>
    obtain ⟨n, e⟩ := id hp
    exact ⟨hp.isList.typeIs, fun a q => by cases q; exact ⟨_, e, rfl⟩⟩
  | tuple => exact absurd rfl h
theorem kwEach_nil (p : Pos) (env : Env) : (backToKw p (keywordEach [] env)).all (fun x => x.1.isSome) = true := rfl

theorem Ev.meth (W : Wf C) {o : Expr} {name : Str} {apos pos : Pos} {es : List Expr} {ds : List PyData} {d0 : PyData} {id : String} (ho : Ev C k sc ns Γ o d0) (ha : EvAll C k sc ns Γ es ds)
    (pa : PlainAttrs (DT d0)) (slot : Slot (DT d0) name id) (ty : typeOf (.builtin id) = pure (.type "method_descriptor")) (hb : Bi C k (.builtin id) (d0 :: ds) d)
    (hn : es.length < 30 := by exact of_decide_eq_true rfl) (hT : DT d0 ≠ "" := by decide) (hline : (apos.endLine == pos.line) = true := by rfl) (hbase : ∀ env : Env, attributeBase o name env (eval o env) = eval o env := by intro _; rfl) :
    Ev C k sc ns Γ (.Call (.Attribute o name apos) es [] pos) d := fun A env fn lo S s R I F => by
  refine wpAny_Call_method_lateS (hbase env) ?_ hline (ho.go W R I F fun v s₁ k₁ r₁ I₁ F₁ => ?_)
  · rw [kwEach_nil, Bool.and_true]
    have h1 : (backTo pos (starEach es env)).all (fun x => !x.1) = true := by
      have := stars_none (env := env) (p := pos) ha
      rw [List.all_eq_not_any_not]
      simp only [Bool.not_not]
      rw [this]; rfl
    rw [h1, Bool.true_and]
    exact decide_eq_true (by simpa using hn)
  · obtain ⟨t1, t2⟩ := r₁.recv hT
    refine ⟨_, _, pa, slot, ty, t1, t2, Calls.callWith_builtin (stars_none ha) (evalArgs_go W ha R I₁ F₁ fun vs s₂ k₂ r₂ I₂ F₂ => ?_)⟩
    exact wq (hb A S s₂ (v :: vs) R I₂ F₂.bd (.cons (r₁.no k₂) r₂)) fun v s₃ ⟨k₃, r₃⟩ => ⟨(k₁.trans k₂).trans k₃, r₃⟩

theorem Bi.lenL {xs : List PyData} (h : (xs.length : Int) < 2 ^ 63) : Bi C k (.builtin "len") [.list xs] (.int xs.length) := fun A S s vals R I hS r => by
  obtain ⟨_, rfl, a⟩ := r.one
  obtain ⟨l, vs, rfl, hp, hn, hr⟩ := a.list_inv
  have e := hr.length
  rw [Array.length_toList] at e
  rw [← e] at h ⊢
  exact Calls.call_len_list hp.isList h ⟨KB.toks0, .int _ _⟩
theorem Bi.lenS {x : Str} (h : (x.length : Int) < 2 ^ 63) : Bi C k (.builtin "len") [.str x] (.int x.length) := fun A S s vals R I hS r => by
  obtain ⟨_, rfl, a⟩ := r.one
  obtain ⟨t, rfl⟩ := a.str_inv
  exact call_len_gives (typeIs_str s x t) F.slot_str_len F.entry_str_len (F.args_str_len_1 _) (gives_str_len x t) (by lia) (by lia) ⟨KB.toks0, .int _ _⟩
theorem Bi.divmod {a b : Int} (hb : b ≠ 0) (hp : Builtin.divisionGoesByPylong a b = false) : Bi C k (.builtin "divmod") [.int a, .int b] (.tuple [.int (a.fdiv b), .int (a.fmod b)]) := fun A S s vals R I hS r => by
  obtain ⟨_, _, rfl, x, y⟩ := r.two
  obtain ⟨t, rfl⟩ := x.int_inv
  obtain ⟨u, rfl⟩ := y.int_inv
  refine divmod_int hb ⟨KB.push, .tuple ⟨_, Heap.get?_push_size _ rfl, rfl, 0, rfl⟩ hS.fresh (.cons (.int _ _) (.cons (.int _ _) .nil))⟩ (.inl hp)
theorem Bi.bits {a : Int} : Bi C k (.builtin "int.bit_length") [.int a] (.int (Builtin.Int.intBits a : Nat)) := fun A S s vals R I hS r => by
  obtain ⟨_, rfl, x⟩ := r.one
  obtain ⟨t, rfl⟩ := x.int_inv
  exact call_gives F.slot_int_bit_length (typeIs_int _ _ _) F.entry_int_bit_length (F.args_int_bit_length_1 _) (AutoIntG2.int_bit_length_int_0 a t) ⟨KB.toks0, .int _ _⟩

theorem moved_kb {wr : List Addr} {it : Addr} (hw : ∀ b ∈ wr, b = it) (o : ItObj s.heap it) (m : Moved wr (fun a b => b = a) s s') : KB C (· = it) s s' := by
  obtain ⟨h', g', dr', tk, os'⟩ := s'
  obtain ⟨m1, m2, m3, m4, m5⟩ := m
  have e2 : g' = s.gens := m2
  have e3 : dr' = s.drawn := m3
  have e4 : os' = s.os := m4
  subst e2; subst e3; subst e4
  exact kb_it hw o m1 m5

theorem list_walk (W : Wf C) {l : Addr} {vs : Array Value} (hh : A.handled = .none) (I : Inv C s) (hp : s.heap.PlainList l vs) :
    Walks C.prog C.w A s.heap.objs.size [s.heap.objs.size, l] [s.heap.objs.size] vs.size (fun i v => vs[i]? = some v) (fun i h => h.IsListIter s.heap.objs.size l i ∧ h.IsList l vs) := by
  obtain ⟨n, e⟩ := id hp
  exact Walks.list hh _ l (Nat.ne_of_lt (Heap.lt_size e)) vs

theorem Bi.sum (W : Wf C) {xs : List Int} : Bi C k (.builtin "sum") [.list (xs.map .int)] (.int xs.sum) := fun A S s vals R I hS r => by
  obtain ⟨_, rfl, a⟩ := r.one
  obtain ⟨l, vs, rfl, hp, hn, hr⟩ := a.list_inv
  have hi := hr.ints
  have hl := hr.length
  rw [Array.length_toList, List.length_map] at hl
  obtain ⟨n, e⟩ := id hp
  refine call_sum_walkAnyS (wpAny_pyIter_list hp.isList ⟨_, _, _, _, _, _, _, fun i => xs.getD i 0, rfl, (list_walk W (A := A.in1) R.handled I hp).toS, ?_, ?_, ?_, ?_⟩)
  · exact ⟨⟨_, Heap.get?_push_size _ rfl, rfl, rfl⟩, hp.isList.push _⟩
  · intro b hb
    rw [Heap.size_push]
    rcases List.mem_cons.mp hb with hb | hb
    · subst hb; exact Nat.lt_succ_self _
    · rw [List.mem_singleton.mp hb]; exact Nat.lt_succ_of_lt (Heap.lt_size e)
  · intro i v hv
    exact ints_get hi (by rw [← Array.getElem?_toList] at hv; exact hv)
  · intro s' t' m
    have hsum : preSum (fun i => xs.getD i 0) vs.size = xs.sum := by
      rw [preSum_getD, hl, List.take_length]
    rw [hsum]
    have k₁ : KB C No s { s with heap := s.heap.push { cls := .type "list_iterator", data := .fields #[.ref l, .int 0 0] } } := KB.push (t := s.toks)
    have k₂ := moved_kb (C := C) (it := s.heap.objs.size) (fun b hb => List.mem_singleton.mp hb) ⟨_, _, Heap.get?_push_size _ rfl, rfl, rfl, rfl⟩ m
    exact ⟨kb_drop1 (get_size _) (k₁.no.trans k₂), .int _ _⟩

theorem Bi.sorted {xs : List Int} (h64 : xs.length < 64) (ys : List Int) (hy : ys.Perm xs) (hs : ys.Pairwise (· ≤ ·)) : Bi C k (.builtin "sorted") [.list (xs.map .int)] (.list (ys.map .int)) := fun A S s vals R I hS r => by
  obtain ⟨_, rfl, a⟩ := r.one
  obtain ⟨l, vs, rfl, hp, hn, hr⟩ := a.list_inv
  have hi := hr.ints
  have hl := hr.length
  rw [List.length_map] at hl
  refine sorted_ints (vs := vs.toList) (by rw [Array.toArray_toList]; exact hp.isList) hi (by lia) fun out ns' a1 a2 a3 => ?_
  have e : ns' = ys := List.Perm.eq_of_pairwise (le := (· ≤ ·)) (fun a b _ _ h1 h2 => Int.le_antisymm h1 h2) a3 hs (a2.trans hy.symm)
  subst e
  obtain ⟨n, he⟩ := sortedAll_at s.heap vs.toList out
  refine ⟨KB.grow (t := s.toks) fun _ _ => sortedAll_old, .list ⟨n, he⟩ (fun z => ?_) (rpall_ints a1)⟩
  obtain ⟨o, eo⟩ := hS _ z
  exact absurd (Heap.lt_size eo) (Nat.not_lt.mpr (Nat.le_succ _))

theorem best_get (xs : List Int) : ∀ n, n < xs.length → argBest (fun i j => decide (xs.getD i 0 > xs.getD j 0)) n ≤ n ∧ ∀ j, j ≤ n → xs.getD j 0 ≤ xs.getD (argBest (fun i j => decide (xs.getD i 0 > xs.getD j 0)) n) 0
  | 0, h => ⟨Nat.le_refl _, fun j hj => by rw [Nat.le_zero.mp hj]; exact Int.le_refl _⟩
  | n + 1, h => by
    obtain ⟨h1, h2⟩ := best_get xs n (by lia)
    unfold argBest
    by_cases hc : xs.getD (n + 1) 0 > xs.getD (argBest (fun i j => decide (xs.getD i 0 > xs.getD j 0)) n) 0
    · rw [if_pos (decide_eq_true hc)]
      refine ⟨Nat.le_refl _, fun j hj => ?_⟩
      rcases Nat.lt_or_ge j (n + 1) with q | q
      · have := h2 j (by lia); lia
      · rw [Nat.le_antisymm hj q]; exact Int.le_refl _
    · rw [if_neg (by rw [decide_eq_true_eq]; exact hc)]
      refine ⟨by lia, fun j hj => ?_⟩
      rcases Nat.lt_or_ge j (n + 1) with q | q
      · exact h2 j (by lia)
      · rw [Nat.le_antisymm hj q]; lia
theorem Bi.max (W : Wf C) {xs : List Int} {m : Int} (hm : m ∈ xs) (hle : ∀ x ∈ xs, x ≤ m) : Bi C k (.builtin "max") [.list (xs.map .int)] (.int m) := fun A S s vals R I hS r => by
  obtain ⟨_, rfl, a⟩ := r.one
  obtain ⟨l, vs, rfl, hp, hn, hr⟩ := a.list_inv
  have hi := hr.ints
  have hl := hr.length
  rw [Array.length_toList, List.length_map] at hl
  have hpos : 0 < xs.length := List.length_pos_of_mem hm
  have hval : ∀ (i : Nat) (v : Value), vs[i]? = some v → ∃ t, v = .int (xs.getD i 0) t := fun i v hv => ints_get hi (by rw [← Array.getElem?_toList] at hv; exact hv)
  obtain ⟨n, e⟩ := id hp
  refine call_max_walkS (wpAny_pyIter_list hp.isList ⟨_, _, _, _, _, _, _, _, rfl, (list_walk W (A := A.in1) R.handled I hp).toS, ?_, ?_, by lia, CmpOf.ints_gt (fun i => xs.getD i 0) hval, ?_⟩)
  · exact ⟨⟨_, Heap.get?_push_size _ rfl, rfl, rfl⟩, hp.isList.push _⟩
  · intro b hb
    rw [Heap.size_push]
    rcases List.mem_cons.mp hb with hb | hb
    · subst hb; exact Nat.lt_succ_self _
    · rw [List.mem_singleton.mp hb]; exact Nat.lt_succ_of_lt (Heap.lt_size e)
  · intro v s' hv m'
    obtain ⟨t, rfl⟩ := hval _ _ hv
    have k₁ : KB C No s { s with heap := s.heap.push { cls := .type "list_iterator", data := .fields #[.ref l, .int 0 0] } } := KB.push (t := s.toks)
    have k₂ := moved_kb (C := C) (it := s.heap.objs.size) (fun b hb => List.mem_singleton.mp hb) ⟨_, _, Heap.get?_push_size _ rfl, rfl, rfl, rfl⟩ m'
    obtain ⟨b1, b2⟩ := best_get xs (vs.size - 1) (by lia)
    have hb1 : argBest (fun i j => decide (xs.getD i 0 > xs.getD j 0)) (vs.size - 1) < xs.length := by lia
    have e1 : xs.getD (argBest (fun i j => decide (xs.getD i 0 > xs.getD j 0)) (vs.size - 1)) 0 = m := by
      apply Int.le_antisymm
      · apply hle
        rw [List.getD_eq_getElem?_getD, List.getElem?_eq_getElem hb1]
        exact List.getElem_mem hb1
      · obtain ⟨j, hj, hj'⟩ := List.getElem_of_mem hm
        have := b2 j (by lia)
        rw [List.getD_eq_getElem?_getD, List.getElem?_eq_getElem hj] at this
        rw [← hj']; exact this
    rw [e1]
    exact ⟨kb_drop1 (get_size _) (k₁.no.trans k₂), .int _ _⟩

theorem Bi.lstrip {x y : Str} (hsz : x.length ≤ sizeLine) : Bi C k (.builtin "str.lstrip") [.str x, .str y] (.str (Txt.lstripChars x y)) := fun A S s vals R I hS r => by
  obtain ⟨_, _, rfl, a, b⟩ := r.two
  obtain ⟨t, rfl⟩ := a.str_inv
  obtain ⟨u, rfl⟩ := b.str_inv
  exact wpAny_with_toks (Nat.le_refl _) (call_gives F.slot_str_lstrip (typeIs_str _ _ _) F.entry_str_lstrip (F.args_str_lstrip_2 _ _) (gives_str_lstrip_chars x y t u) (post_val_or_made (fun _ => fits_stripped _ _ _ hsz) fun t' k' ht => ⟨KB.toks0 ht, .str _ _⟩))
theorem Bi.join {x : Str} {xs : List Str} (h : JoinOk x xs = true) : Bi C k (.builtin "str.join") [.str x, .list (xs.map .str)] (.str (Txt.join x xs)) := fun A S s vals R I hS r => by
  obtain ⟨_, _, rfl, a, b⟩ := r.two
  obtain ⟨t, rfl⟩ := a.str_inv
  obtain ⟨l, vs, rfl, hp, hn, hr⟩ := b.list_inv
  obtain ⟨lt, e1, e2⟩ := hr.strs
  refine wpAny_with_toks (Nat.le_refl _) (SC.join (l := lt) ?_ e2 h fun t' k' ht => ⟨KB.toks0 ht, .str _ _⟩)
  rw [e1, Array.toArray_toList]; exact hp.isList
theorem Bi.split {x y : Str} (hy : (y.length == 0) = false) (hx : x.length ≤ sizeLine) (h2 : (Builtin.Str.partsBetween x (Builtin.Str.occurrences x y 0 x.length (x.length + 1)) y.length).length ≤ sizeLine) : Bi C k (.builtin "str.split") [.str x, .str y] (.list ((Txt.split x y).map .str)) := fun A S s vals R I hS r => by
  obtain ⟨_, _, rfl, a, b⟩ := r.two
  obtain ⟨t, rfl⟩ := a.str_inv
  obtain ⟨u, rfl⟩ := b.str_inv
  have fin : ∀ (l : List (Str × Tok)) (tk : Nat), l.map (·.1) = Txt.split x y → s.toks ≤ tk → KB C No s { s with toks := tk, heap := s.heap.push { cls := .type "list", data := .seq (strValues l).toArray } } ∧ Rp (s.heap.push { cls := .type "list", data := .seq (strValues l).toArray }) S (.ref s.heap.objs.size) (.list ((Txt.split x y).map .str)) := fun l tk hl ht =>
    ⟨KB.push ht, .list (vs := (strValues l).toArray) ⟨_, Heap.get?_push_size _ rfl⟩ hS.fresh (by rw [← hl]; exact rpall_strs l)⟩
  refine wpAny_with_toks (Nat.le_refl _) ?_
  cases h1 : (decide (x.length < y.length) || decide (Builtin.Str.strKind x < Builtin.Str.strKind y))
  · cases hf : (Builtin.Str.occurrences x y 0 x.length (x.length + 1)).isEmpty
    · refine call_meets F.slot_str_split (typeIs_str _ _ _) F.entry_str_split (F.args_str_split_2 _ _) (meets_str_split_sep x y t u h1 hy hf hx h2) ?_
      show wants _ _ _ { s with toks := _, heap := s.heap.push { cls := .type "list", data := .seq (strsFrom s.toks (Builtin.Str.partsBetween x (Builtin.Str.occurrences x y 0 x.length (x.length + 1)) y.length)).toArray } }
      rw [strsFrom_eq]
      exact fin (numbered s.toks _) _ ((numbered_texts _ _).trans ((if_neg (ne_true_of_eq_false h1)).trans (if_neg (ne_true_of_eq_false hf))).symm)
    · exact call_meets F.slot_str_split (typeIs_str _ _ _) F.entry_str_split (F.args_str_split_2 _ _) (meets_str_split_not_found x y t u h1 hy hf)
        (fin [(x, t)] s.toks ((if_neg (ne_true_of_eq_false h1)).trans (if_pos hf)).symm)
  · exact call_meets F.slot_str_split (typeIs_str _ _ _) F.entry_str_split (F.args_str_split_2 _ _) (meets_str_split_cannot_occur x y t u h1)
      (fin [(x, t)] s.toks (if_pos h1).symm)

theorem rp_eqAt {v y : Value} {da db : PyData} (ra : Rp s.heap S v da) (rb : Rp s.heap S y db) (ha : SeqAt.shaped da = true) (hb : SeqAt.shaped db = true) (hu : A.units + 65 < cLine) : SeqAt.EqAt A.in1 s v y (PyData.eqv da db) := by
  obtain ⟨as, ra⟩ := ra.reads
  obtain ⟨bs, rb⟩ := rb.reads
  exact keq_at ra rb ha hb (by show A.units + 1 + 64 < _; lia)
end Mine
end

noncomputable section
open PySem PySem.W PyProof.Rows
namespace Mine
variable {C : Cx} {k : Nat} {sc : Scope} {ns : List Str} {fn : Str → Bool} {env : Env} {lo : Nat} {S S' S'' : Addr → Prop} {Γ Γ' : List Sl} {s s' s'' : Shared} {A : Around} {Mu : Addr → Prop} {e : Expr} {d : PyData}

theorem arr_any {h : Heap} {x : PyData} (f : Value → Bool) : ∀ {vs : List Value} {xs : List PyData}, RpAll h S vs xs → (∀ v y, v ∈ vs → Rp h S v y → y ∈ xs → f v = PyData.eqv y x) → vs.any f = xs.any fun y => PyData.eqv y x
  | _, _, .nil, _ => rfl
  | _, _, .cons a b, H => by
    rw [List.any_cons, List.any_cons, H _ _ (.head _) a (.head _), arr_any f b fun v y hv r hy => H v y (.tail _ hv) r (.tail _ hy)]
theorem arr_countP {h : Heap} {x : PyData} (f : Value → Bool) : ∀ {vs : List Value} {xs : List PyData}, RpAll h S vs xs → (∀ v y, v ∈ vs → Rp h S v y → y ∈ xs → f v = PyData.eqv y x) → vs.countP f = xs.countP fun y => PyData.eqv y x
  | _, _, .nil, _ => rfl
  | _, _, .cons a b, H => by
    rw [List.countP_cons, List.countP_cons, H _ _ (.head _) a (.head _), arr_countP f b fun v y hv r hy => H v y (.tail _ hv) r (.tail _ hy)]

noncomputable def dataOf (h : Heap) (S : Addr → Prop) (v : Value) : PyData := open Classical in if q : ∃ y, Rp h S v y then q.choose else .none
theorem Rp.vinv {h : Heap} {v : Value} {d : PyData} (x : Rp h S v d) : match v with
    | .none => d = .none
    | .bool b => d = .bool b
    | .int i _ => d = .int i
    | .str x _ => d = .str x
    | .ref a => (∃ vs xs, d = .list xs ∧ h.PlainList a vs ∧ RpAll h S vs.toList xs) ∨ ∃ vs xs, d = .tuple xs ∧ h.IsTuple a vs ∧ RpAll h S vs.toList xs
    | _ => False := by
  cases x with
  | none => rfl
  | bool b => rfl
  | int i t => rfl
  | str x t => rfl
  | list p m r => exact .inl ⟨_, _, rfl, p, r⟩
  | tuple p m r => exact .inr ⟨_, _, rfl, p, r⟩
theorem plain_ne {h : Heap} {a : Addr} {vs ws : Array Value} (p : h.PlainList a vs) (q : h.IsTuple a ws) : False := by
  obtain ⟨n, e⟩ := p
  obtain ⟨o, e', c, _⟩ := q
  have := Option.some.inj (e.symm.trans e')
  rw [← this] at c
  exact absurd (Value.type.inj c) (by decide)
theorem plain_eq {h : Heap} {a : Addr} {vs ws : Array Value} (p : h.PlainList a vs) (q : h.PlainList a ws) : vs = ws := by
  obtain ⟨n, e⟩ := p
  obtain ⟨n', e'⟩ := q
  have := congrArg Obj.data (Option.some.inj (e.symm.trans e'))
  exact (Data.seq.inj this).1
theorem tuple_eq {h : Heap} {a : Addr} {vs ws : Array Value} (p : h.IsTuple a vs) (q : h.IsTuple a ws) : vs = ws := by
  obtain ⟨o, e, _, n, c⟩ := p
  obtain ⟨o', e', _, n', c'⟩ := q
  have := Option.some.inj (e.symm.trans e')
  rw [← this, c] at c'
  exact (Data.seq.inj c').1
theorem Rp.uniq {h : Heap} {v : Value} {d d' : PyData} (x : Rp h S v d) (y : Rp h S v d') : d = d' :=
  Rp.rec (motive_1 := fun v d _ => ∀ {d'}, Rp h S v d' → d = d') (motive_2 := fun vs ds _ => ∀ {ds'}, RpAll h S vs ds' → ds = ds') (fun y => (y.vinv : _ = _).symm) (fun _ _ y => (y.vinv : _ = _).symm) (fun _ _ _ y => (y.vinv : _ = _).symm) (fun _ _ _ y => (y.vinv : _ = _).symm)
    (fun p _ _ ih _ y => by
      rcases (y.vinv : _ ∨ _) with ⟨ws, ys, e, q, r⟩ | ⟨ws, ys, e, q, r⟩
      · rw [e, ih (plain_eq p q ▸ r)]
      · exact (plain_ne p q).elim)
    (fun p _ _ ih _ y => by
      rcases (y.vinv : _ ∨ _) with ⟨ws, ys, e, q, r⟩ | ⟨ws, ys, e, q, r⟩
      · exact (plain_ne q p).elim
      · rw [e, ih (tuple_eq p q ▸ r)])
    (fun {ds'} y => by
      cases ds' with
      | nil => rfl
      | cons d ds => obtain ⟨_, _, e, _⟩ := RpAll.inv (ds := d :: ds) y; cases e)
    (fun _ _ i1 i2 ds' y => by
      cases ds' with
      | nil => have e := RpAll.inv (ds := []) y; cases e
      | cons d ds =>
        obtain ⟨_, _, e, a, b⟩ := RpAll.inv (ds := d :: ds) y
        obtain ⟨e1, e2⟩ := List.cons.inj e
        rw [i1 (e1 ▸ a), i2 (e2 ▸ b)]) x y
theorem dataOf_eq {h : Heap} {v : Value} {y : PyData} (r : Rp h S v y) : dataOf h S v = y := by
  unfold dataOf
  have q : ∃ y, Rp h S v y := ⟨y, r⟩
  rw [dif_pos q]
  exact Rp.uniq q.choose_spec r

theorem eqs_list {l : List Value} {xs : List PyData} {xv : Value} {x : PyData} (R : Room A k) (hr : RpAll s.heap S l xs) (rx : Rp s.heap S xv x) (hx : SeqAt.shaped x = true) (hxs : ∀ y ∈ xs, SeqAt.shaped y = true) :
    ∀ v ∈ l, SeqAt.EqAt A.in1 s v xv (PyData.eqv (dataOf s.heap S v) x) := by
  have aux : ∀ {l : List Value} {xs : List PyData}, RpAll s.heap S l xs → (∀ y ∈ xs, SeqAt.shaped y = true) → ∀ v ∈ l, SeqAt.EqAt A.in1 s v xv (PyData.eqv (dataOf s.heap S v) x) := by
    intro l xs hr
    induction l generalizing xs with
    | nil => intro _ v hv; cases hv
    | cons w l ih =>
      intro hxs v hv
      cases hr with
      | cons a b =>
        rcases List.mem_cons.mp hv with q | q
        · subst q
          rw [dataOf_eq a]
          exact rp_eqAt a rx (hxs _ (.head _)) hx (by have := R.units; lia)
        · exact ih b (fun y hy => hxs y (.tail _ hy)) v q
  exact aux hr hxs

theorem CmpOk.notInL {xs : List PyData} {x : PyData} (hx : SeqAt.shaped x = true) (hxs : ∀ y ∈ xs, SeqAt.shaped y = true) : CmpOk C k .NotIn x (.list xs) (!xs.any fun y => PyData.eqv y x) := fun A S s va vb R I ra rb => by
  obtain ⟨l, vs, rfl, hp, hn, hr⟩ := rb.list_inv
  refine SeqAt.notIn_listAt (fun v => PyData.eqv (dataOf s.heap S v) x) hp.isList (fun y hy => eqs_list R hr ra hx hxs y (Array.mem_toList_iff.mpr hy)) ⟨KB.refl, ?_⟩
  rw [← Array.any_toList, arr_any _ hr fun v y _ r _ => by rw [dataOf_eq r]]
theorem CmpOk.notInS {x y : Str} : CmpOk C k .NotIn (.str y) (.str x) (!Txt.contains x y) := fun A S s va vb R I ra rb => by
  obtain ⟨_, rfl⟩ := ra.str_inv; obtain ⟨_, rfl⟩ := rb.str_inv; exact SB.notContains ⟨KB.refl, rfl⟩

theorem Bi.countL {xs : List PyData} {x : PyData} (hx : SeqAt.shaped x = true) (hxs : ∀ y ∈ xs, SeqAt.shaped y = true) : Bi C k (.builtin "list.count") [.list xs, x] (.int (xs.countP fun y => PyData.eqv y x : Nat)) := fun A S s vals R I hS r => by
  obtain ⟨_, _, rfl, a, b⟩ := r.two
  obtain ⟨l, vs, rfl, hp, hn, hr⟩ := a.list_inv
  obtain ⟨n, e⟩ := id hp
  refine call_meets F.slot_list_count hp.isList.typeIs F.entry_list_count (F.args_list_count_2 _ _) (SeqAt.list_countAt l vs n .none #[] _ fun v => PyData.eqv (dataOf s.heap S v) x) ⟨e, fun y hy => eqs_list R hr b hx hxs y (Array.mem_toList_iff.mpr hy), ?_⟩
  rw [arr_countP _ hr fun v y _ r _ => by rw [dataOf_eq r]]
  exact ⟨KB.toks0, .int _ _⟩
theorem Bi.indexL {xs : List PyData} {x : PyData} {j : Nat} (hx : SeqAt.shaped x = true) (hxs : ∀ y ∈ xs, SeqAt.shaped y = true) (hj : (j : Int) < 2 ^ 63 - 1) (hit : ∃ y, xs[j]? = some y ∧ PyData.eqv y x = true) (hno : ∀ m y, m < j → xs[m]? = some y → PyData.eqv y x = false) : Bi C k (.builtin "list.index") [.list xs, x] (.int j) := fun A S s vals R I hS r => by
  obtain ⟨_, _, rfl, a, b⟩ := r.two
  obtain ⟨l, vs, rfl, hp, hn, hr⟩ := a.list_inv
  obtain ⟨n, e⟩ := id hp
  obtain ⟨y, hy, hyx⟩ := hit
  obtain ⟨v, hv, rv⟩ := hr.get hy
  rw [Array.getElem?_toList] at hv
  obtain ⟨hlt, hv'⟩ := Array.getElem?_eq_some_iff.mp hv
  have hlen := hr.length
  rw [Array.length_toList] at hlen
  refine call_meets F.slot_list_index hp.isList.typeIs F.entry_list_index (F.args_list_index_2 _ _) (SeqAt.list_indexAt l vs n .none #[] _ (fun v => PyData.eqv (dataOf s.heap S v) x) j hlt hj ?_ ?_) ⟨e, fun y hy => eqs_list R hr b hx hxs y (Array.mem_toList_iff.mpr hy), KB.toks0, .int _ _⟩
  · rw [hv', dataOf_eq rv]; exact hyx
  · intro m hm hmj
    have hmx : m < xs.length := by lia
    obtain ⟨w, hw, rw'⟩ := hr.get (List.getElem?_eq_getElem hmx)
    rw [Array.getElem?_toList, Array.getElem?_eq_getElem hm] at hw
    have := Option.some.inj hw
    rw [this, dataOf_eq rw']
    exact hno m _ hmj (List.getElem?_eq_getElem hmx)

theorem BinOk.addL {xs ys : List PyData} (h : xs.length + ys.length ≤ sizeLine) : BinOk C k .Add (.list xs) (.list ys) (.list (xs ++ ys)) := fun A S s va vb R I ra rb hS => by
  obtain ⟨l, vs, rfl, hp, hn, hr⟩ := ra.list_inv
  obtain ⟨l', vs', rfl, hp', hn', hr'⟩ := rb.list_inv
  obtain ⟨n, e⟩ := id hp
  obtain ⟨n', e'⟩ := id hp'
  have h1 := hr.length
  have h2 := hr'.length
  rw [Array.length_toList] at h1 h2
  refine P.add_list e e' ⟨KB.push (t := s.toks), .list ⟨_, Heap.get?_push_size _ rfl⟩ hS.fresh ?_⟩ (by lia)
  rw [Array.toList_append]
  exact RpAll.append (hr'.no (KB.push (C := C) (t := s.toks))) (hr.no (KB.push (C := C) (t := s.toks)))
theorem Ev.neg (W : Wf C) {x : Expr} {p : Pos} {i : Int} (hx : Ev C k sc ns Γ x (.int i)) : Ev C k sc ns Γ (.UnaryOp .USub x p) (.int (-i)) :=
  fun A env fn lo S s R I F => wpAny_UnaryOp (hx.go W R I F fun v s₁ k₁ r₁ I₁ F₁ => by obtain ⟨_, rfl⟩ := r₁.int_inv; exact neg_int ⟨k₁.trans KB.toks0, .int _ _⟩)

theorem Ev.replace (W : Wf C) {o : Expr} {apos pos p1 p2 : Pos} {k1 k2 : Nat} {x y z : Str} (ho : Ev C k sc ns Γ o (.str x)) (hyz : (y == z) = false) (hb : x.length + (x.length + 1) * z.length ≤ 16777216)
    (hline : (apos.endLine == pos.line) = true := by rfl) (hbase : ∀ env : Env, attributeBase o "replace" env (eval o env) = eval o env := by intro _; rfl) :
    Ev C k sc ns Γ (.Call (.Attribute o "replace" apos) [.Constant (.str y) k1 p1, .Constant (.str z) k2 p2] [] pos) (.str (Txt.replace x y z)) := fun A env fn lo S s R I F => by
  refine wpAny_Call_method_lateS (hbase env) rfl hline (ho.go W R I F fun v s₁ k₁ r₁ I₁ F₁ => ?_)
  obtain ⟨t, rfl⟩ := r₁.str_inv
  refine ⟨"str", _, PySem.F.plainAttrs_str, PySem.F.slot_str_replace, PySem.F.type_str_replace, typeIs_str _ _ _, (fun _ e => nomatch e), Calls.callWith_builtin rfl (Calls.evalArgs_plain ?_)⟩
  refine Calls.spliced_cons (Calls.Constant_str (k := k1) (pos := p1) (Calls.spliced_cons (Calls.Constant_str (k := k2) (pos := p2) (Calls.spliced_nil ?_))))
  have ht := I₁.tok
  refine wpAny_with_toks (n := s₁.toks) (by show s₁.toks ≤ s₁.toks + 1 + 1; lia) (SC.replace (by show s₁.toks ≠ 0; lia) (by show s₁.toks + 1 ≠ 0; lia) (by show s₁.toks ≠ s₁.toks + 1; lia) hyz hb fun t' kk hk => ⟨(k₁.trans (KB.toks0 (t := s₁.toks))).retok (Nat.le_trans k₁.tok hk), .str _ _⟩)
end Mine
end

noncomputable section
open PySem PySem.W PyProof.Rows
namespace Mine
variable {C : Cx} {k : Nat} {sc : Scope} {ns : List Str} {fn : Str → Bool} {env : Env} {lo : Nat} {S S' S'' : Addr → Prop} {Γ Γ' : List Sl} {s s' s'' : Shared} {A : Around} {Mu : Addr → Prop} {e : Expr} {d : PyData}

theorem Src.reversed (W : Wf C) {x : Str} {p pos : Pos} {a : Expr} {xs : List PyData} (hk : sc.names.lookup x = some .globalImplicit) (h0 : C.mg x = .none) (hv : C.mb x = some (.type "reversed")) (ha : Ev C k sc ns Γ a (.list xs))
    (hst : isStarred a = false := by rfl) (hd : (x == ("__debug__" : Str)) = false := by decide) : Src C k sc ns Γ (.Call (.Name x p) [a] [] pos) xs.reverse := fun A env fn lo S s R I F => by
  rw [arm_eval_Call_Name']
  refine wpAny_bind (Calls.Name_function_global (by rw [F.scope]; exact F.kind) (by unfold Env.kindOf; rw [F.scope]; exact hk) (Calls.loadGlobal_builtin (by rw [F.glob]; exact I.g) h0 (by rw [F.blt]; exact I.b) hv ?_) hd)
  refine PySem.callWith_type (by rw [starEach_cons hst]; rfl) (evalArgs_go W (.cons ha .nil hst) R I F fun vs s₁ k₁ r₁ I₁ F₁ => ?_)
  obtain ⟨_, rfl, ra⟩ := r₁.one
  obtain ⟨l, vs, rfl, hp, hn, hr⟩ := ra.list_inv
  obtain ⟨n, e⟩ := id hp
  have hne : l ≠ s₁.heap.objs.size := Nat.ne_of_lt (Heap.lt_size e)
  have kb : KB C No s₁ { s₁ with heap := s₁.heap.push (revObj l ((vs.size : Int) - 1)) } := KB.push (t := s₁.toks)
  have hit : (s₁.heap.push (revObj l ((vs.size : Int) - 1))).IsRevIter s₁.heap.objs.size l ((vs.size : Int) - 1) := ⟨_, Heap.get?_push_size _ rfl, rfl, rfl⟩
  refine call_reversed_list hp.isList (wpAny_pyIter_revIter hit ?_)
  refine ⟨_, rfl, k₁.trans kb, fresh_none k₁ (get_size _), I₁.big W, _, _, vs.size, _, _, 0, Walks.listRev R.handled _ l hne vs, ?_, ?_, ?_, ?_, ?_, ?_⟩
  · exact ⟨Nat.zero_le _, by simpa using hit, hp.isList.push _⟩
  · rw [Nat.zero_add, List.length_reverse, ← hr.length]; simp
  · intro b hb
    rcases List.mem_cons.mp hb with hb | hb
    · subst hb; exact ⟨F₁.bd.fresh, fun z => absurd (W.tlt _ z) (Nat.not_lt.mpr (I₁.big W))⟩
    · rw [List.mem_singleton.mp hb]; exact ⟨hn, noTab I₁ e (by intro z; cases z)⟩
  · intro b hb; exact List.mem_singleton.mp hb
  · rintro i h ⟨_, ⟨o, e, c, _⟩, ⟨o', e', _⟩⟩
    refine ⟨⟨o, _, e, c, rfl, rfl⟩, fun b hb => ?_⟩
    rcases List.mem_cons.mp hb with hb | hb
    · exact ⟨o, hb ▸ e⟩
    · rw [List.mem_singleton.mp hb]; exact ⟨o', e'⟩
  · intro j v d hd pv
    rw [Nat.zero_add] at pv
    have hl := hr.length
    rw [Array.length_toList] at hl
    have hj : j < xs.length := by
      have := (List.getElem?_eq_some_iff.mp hd).1
      simpa using this
    rw [List.getElem?_reverse hj] at hd
    obtain ⟨v', hv', rv⟩ := hr.get hd
    rw [Array.getElem?_toList, ← hl] at hv'
    rw [hv'] at pv; cases pv
    exact rv.push

theorem Ex.reverse (W : Wf C) {x : Str} {np apos pos p : Pos} {xs : List PyData} {rest : List Stmt} {Q : Out → Prop} (i : Nat) (hr : Ex C k sc ns (Γ.set i (.own xs.reverse)) rest Q) (hsz : xs.length ≤ sizeLine)
    (hx : ns[i]? = some x := by rfl) (hv : Γ[i]? = some (.own xs) := by rfl) (hline : (apos.endLine == pos.line) = true := by rfl) (hd : (x == ("__debug__" : Str)) = false := by decide) :
    Ex C k sc ns Γ (.Expr (.Call (.Attribute (.Name x np) "reverse" apos) [] [] pos) p :: rest) Q :=
  .cons W fun A env lo S s R I F => wpAny_Expr (wpAny_Call_method_lateS rfl rfl hline (by
    obtain ⟨a, vs, l, hS, hlo, hp, r⟩ := F.own hx hv
    obtain ⟨n, e⟩ := id hp
    refine wpAny_Name (l.load F hx ⟨"list", "list.reverse", PySem.F.plainAttrs_list, PySem.F.slot_list_reverse, PySem.F.type_list_reverse, hp.isList.typeIs, (fun a' q => by cases q; exact ⟨_, e, rfl⟩), ?_⟩) hd
    have hl := r.length
    rw [Array.length_toList] at hl
    refine P.reverse_list e ?_ (by lia)
    have e' : IsL (s.heap.update a (Obj.mapSeq fun x => x.reverse)) a vs.reverse _ := IsL.update e fun x => x.reverse
    obtain ⟨kb, F₂⟩ := F.updOwn (xs' := xs.reverse) (vs' := vs.reverse) hx hv l hS hlo hp (Heap.SameBut.update ..) ⟨_, e'⟩ (by rw [Array.toList_reverse]; exact r.reverse)
    exact ⟨.next _, hr, kb, S, SExt.refl, F₂⟩)) (interactive_no F) rfl

noncomputable def isNone : PyData → Bool
  | .none => true
  | _ => false
theorem CmpOk.isNone {x : PyData} : CmpOk C k .Is x .none (Mine.isNone x) := fun A S s va vb R I ra rb => by
  obtain rfl := rb.none_inv
  cases ra <;> exact (fun _ _ _ => ⟨KB.refl, rfl⟩)
end Mine
end

noncomputable section
open PySem PySem.W PyProof.Rows
namespace Mine
variable {C : Cx} {k : Nat} {sc : Scope} {ns : List Str} {fn : Str → Bool} {env : Env} {lo : Nat} {S S' S'' : Addr → Prop} {Γ Γ' : List Sl} {s s' s'' : Shared} {A : Around} {Mu : Addr → Prop} {e : Expr} {d d' : PyData}

theorem BinOk.cast {op : Operator} {x y : PyData} (h : BinOk C k op x y d) (e : d = d') : BinOk C k op x y d' := e ▸ h
theorem InpOk.cast {op : Operator} {x y : PyData} (h : InpOk C k op x y d) (e : d = d') : InpOk C k op x y d' := e ▸ h
theorem Ev.cast (h : Ev C k sc ns Γ e d) (q : d = d') : Ev C k sc ns Γ e d' := q ▸ h
theorem Bi.cast {f : Value} {ds : List PyData} (h : Bi C k f ds d) (q : d = d') : Bi C k f ds d' := q ▸ h
theorem Ts.cast {b b' : Bool} (h : Ts C k sc ns Γ e b) (q : b = b') : Ts C k sc ns Γ e b' := q ▸ h

theorem bits_le {a m : Nat} (h : a < 2 ^ m) : Builtin.Int.intBits (a : Int) ≤ m := by
  unfold Builtin.Int.intBits
  by_cases h0 : a = 0
  · subst h0; simp
  · have : ((a : Int) == 0) = false := by simpa using h0
    rw [this, if_neg Bool.false_ne_true, Int.natAbs_natCast]
    exact (Nat.log2_lt h0).mpr h
theorem bits_gt {a m : Nat} (h : 2 ^ m ≤ a) : m < Builtin.Int.intBits (a : Int) := by
  unfold Builtin.Int.intBits
  have h0 : a ≠ 0 := by have := Nat.one_le_two_pow (n := m); lia
  have : ((a : Int) == 0) = false := by simpa using h0
  rw [this, if_neg Bool.false_ne_true, Int.natAbs_natCast]
  have := (Nat.le_log2 h0).mpr h
  lia
noncomputable def nbits (a : Nat) : Nat := Builtin.Int.intBits (a : Int)
theorem lt_nbits (a : Nat) : a < 2 ^ nbits a := by
  rcases Nat.lt_or_ge a (2 ^ nbits a) with h | h
  · exact h
  · exact absurd (bits_gt h) (Nat.lt_irrefl _)
theorem nbits_le {a m : Nat} (h : a < 2 ^ m) : nbits a ≤ m := bits_le h

theorem int2 {i j : Int} (h : i = j) : PyData.int i = PyData.int j := congrArg _ h
theorem natCast_pow2 (n : Nat) : ((2 ^ n : Nat) : Int) = (2 : Int) ^ n := by push_cast; rfl

theorem BinOk.addN {a b : Nat} : BinOk C k .Add (.int a) (.int b) (.int (a + b : Nat)) := BinOk.add.cast (int2 (by push_cast; rfl))
theorem BinOk.subN {a b : Nat} (h : b ≤ a) : BinOk C k .Sub (.int a) (.int b) (.int (a - b : Nat)) := BinOk.sub.cast (int2 (by lia))
theorem BinOk.shlN {a n : Nat} (h : nbits a + n ≤ 2 ^ 27) : BinOk C k .LShift (.int a) (.int n) (.int (a * 2 ^ n : Nat)) :=
  (BinOk.shl (Int.natCast_nonneg _) (by unfold nbits at h; lia)).cast (int2 (by rw [Int.toNat_natCast]; push_cast; rfl))
theorem BinOk.shrN {a n : Nat} : BinOk C k .RShift (.int a) (.int n) (.int (a / 2 ^ n : Nat)) :=
  (BinOk.shr (Int.natCast_nonneg _)).cast (int2 (by
    rw [Int.toNat_natCast, Int.fdiv_eq_ediv_of_nonneg _ (by rw [← natCast_pow2]; exact Int.natCast_nonneg _), ← natCast_pow2, ← Int.natCast_ediv]))
theorem BinOk.maskN {a n : Nat} : BinOk C k .BitAnd (.int a) (.int (2 ^ n - 1 : Nat)) (.int (a % 2 ^ n : Nat)) :=
  BinOk.and.cast (int2 (by rw [bitAnd_pp (Int.natCast_nonneg _) (Int.natCast_nonneg _), Int.toNat_natCast, Int.toNat_natCast, Nat.and_two_pow_sub_one_eq_mod]))
theorem BinOk.andOneN {a : Nat} : BinOk C k .BitAnd (.int a) (.int (1 : Int)) (.int (a % 2 : Nat)) :=
  BinOk.and.cast (int2 (by
    rw [bitAnd_pp (Int.natCast_nonneg _) (by decide), Int.toNat_natCast]
    show ((a &&& 1 : Nat) : Int) = _
    rw [Nat.and_one_is_mod]))
theorem bitOr_pp {x y : Nat} : Builtin.bitOr (x : Int) (y : Int) = ((x ||| y : Nat) : Int) := by
  rw [bitOr_and, bitAnd_pp (Int.natCast_nonneg _) (Int.natCast_nonneg _), Int.toNat_natCast, Int.toNat_natCast]
  have := nat_or_add_and x y
  lia
theorem BinOk.orN {a b n : Nat} (h : b < 2 ^ n) : BinOk C k .BitOr (.int (a * 2 ^ n : Nat)) (.int b) (.int (a * 2 ^ n + b : Nat)) :=
  BinOk.or.cast (int2 (by rw [bitOr_pp, Nat.mul_comm, Nat.two_pow_add_eq_or_of_lt h]))
theorem BinOk.mulN {a b : Nat} (h : nbits a + nbits b ≤ 2 ^ 27) : BinOk C k .Mult (.int a) (.int b) (.int (a * b : Nat)) :=
  (BinOk.mul (by
    unfold IntMulOk
    intro z
    simp only [Bool.and_eq_true] at z
    have := z.2
    unfold Builtin.Int.intTooBig at this
    rw [decide_eq_true_eq] at this
    unfold nbits at h
    have e : PySem.bitsLine = 2 ^ 27 := rfl
    lia)).cast (int2 (by push_cast; rfl))
theorem InpOk.shlN {a n : Nat} (h : nbits a + n ≤ 2 ^ 27) : InpOk C k .LShift (.int a) (.int n) (.int (a * 2 ^ n : Nat)) :=
  (InpOk.shl (Int.natCast_nonneg _) (by unfold nbits at h; lia)).cast (int2 (by rw [Int.toNat_natCast]; push_cast; rfl))
theorem InpOk.shrN {a n : Nat} : InpOk C k .RShift (.int a) (.int n) (.int (a / 2 ^ n : Nat)) :=
  (InpOk.shr (Int.natCast_nonneg _)).cast (int2 (by
    rw [Int.toNat_natCast, Int.fdiv_eq_ediv_of_nonneg _ (by rw [← natCast_pow2]; exact Int.natCast_nonneg _), ← natCast_pow2, ← Int.natCast_ediv]))
theorem InpOk.addN {a b : Nat} : InpOk C k .Add (.int a) (.int b) (.int (a + b : Nat)) := InpOk.add.cast (int2 (by push_cast; rfl))
theorem Bi.divmodN {a b : Nat} (hb : 0 < b) (h9 : b < 2 ^ 9000) : Bi C k (.builtin "divmod") [.int a, .int b] (.tuple [.int (a / b : Nat), .int (a % b : Nat)]) :=
  (Bi.divmod (by lia) (PyProof.noPylong_of_log2 (by rw [Int.natAbs_natCast]; exact (Nat.log2_lt (by lia)).mpr h9))).cast (by
    rw [Int.fdiv_eq_ediv_of_nonneg _ (Int.natCast_nonneg _), Int.fmod_eq_emod_of_nonneg _ (Int.natCast_nonneg _), ← Int.natCast_ediv, ← Int.natCast_emod])

theorem Ev.methI (W : Wf C) {o : Expr} {name : Str} {apos pos : Pos} {es : List Expr} {ds : List PyData} {i : Int} {id : String} (ho : Ev C k sc ns Γ o (.int i)) (ha : EvAll C k sc ns Γ es ds)
    (slot : Slot "int" name id) (ty : typeOf (.builtin id) = pure (.type "method_descriptor")) (hb : Bi C k (.builtin id) (.int i :: ds) d)
    (hn : es.length < 30 := by exact of_decide_eq_true rfl) (hline : (apos.endLine == pos.line) = true := by rfl) (hbase : ∀ env : Env, attributeBase o name env (eval o env) = eval o env := by intro _; rfl) :
    Ev C k sc ns Γ (.Call (.Attribute o name apos) es [] pos) d := Ev.meth (d0 := .int i) W ho ha F.plainAttrs_int slot ty hb hn (show "int" ≠ "" by decide) hline hbase
theorem Ev.methS (W : Wf C) {o : Expr} {name : Str} {apos pos : Pos} {es : List Expr} {ds : List PyData} {i : Str} {id : String} (ho : Ev C k sc ns Γ o (.str i)) (ha : EvAll C k sc ns Γ es ds)
    (slot : Slot "str" name id) (ty : typeOf (.builtin id) = pure (.type "method_descriptor")) (hb : Bi C k (.builtin id) (.str i :: ds) d)
    (hn : es.length < 30 := by exact of_decide_eq_true rfl) (hline : (apos.endLine == pos.line) = true := by rfl) (hbase : ∀ env : Env, attributeBase o name env (eval o env) = eval o env := by intro _; rfl) :
    Ev C k sc ns Γ (.Call (.Attribute o name apos) es [] pos) d := Ev.meth (d0 := .str i) W ho ha F.plainAttrs_str slot ty hb hn (show "str" ≠ "" by decide) hline hbase
theorem Ev.methL (W : Wf C) {o : Expr} {name : Str} {apos pos : Pos} {es : List Expr} {ds : List PyData} {i : List PyData} {id : String} (ho : Ev C k sc ns Γ o (.list i)) (ha : EvAll C k sc ns Γ es ds)
    (slot : Slot "list" name id) (ty : typeOf (.builtin id) = pure (.type "method_descriptor")) (hb : Bi C k (.builtin id) (.list i :: ds) d)
    (hn : es.length < 30 := by exact of_decide_eq_true rfl) (hline : (apos.endLine == pos.line) = true := by rfl) (hbase : ∀ env : Env, attributeBase o name env (eval o env) = eval o env := by intro _; rfl) :
    Ev C k sc ns Γ (.Call (.Attribute o name apos) es [] pos) d := Ev.meth (d0 := .list i) W ho ha F.plainAttrs_list slot ty hb hn (show "list" ≠ "" by decide) hline hbase
end Mine
end

noncomputable section
open PySem PySem.W PyProof.Rows
namespace Mine
variable {C : Cx} {k : Nat} {sc : Scope} {ns : List Str} {fn : Str → Bool} {env : Env} {lo : Nat} {S S' S'' : Addr → Prop} {Γ Γ' : List Sl} {s s' s'' : Shared} {A : Around} {Mu : Addr → Prop} {e : Expr} {d d' : PyData}

theorem makeTail_miss {M : Model} {E : Value → Shared → Prop} {name qual : Str} {params : Arguments} {body : List Stmt} {scope : Scope} {c P : Addr} {pos : Pos} {firstLine : Nat} {mg : Str → Option Value} {clos : List (Str × Addr)} {Q : Value → Shared → Prop}
    (hcl : closureFor scope env = pure clos) (hne : clos ≠ []) (hge0 : env.globals = mainGlobals) (hg : s.heap.Ns mainGlobals mg) (hcode : env.code = .ref c) (D : CodeHd s.heap c P) (hP : s.heap.get? P = some (tabObj #[])) (hgP : mainGlobals ≠ P) (hb : s.heap.BuiltinsAt mg P)
    (h : ∀ c' ctv doc h' tk, Heap.ExtBut P s.heap h' → s.heap.objs.size ≤ h'.objs.size → CodeObj h' c' qual → h'.get? P = some (tabObj #[rawInt pos.line, rawInt pos.col, .ref c']) →
      Q (.ref h'.objs.size) { s with heap := h'.push (fnMade name qual params body scope clos doc ((mg "__name__").getD .none) c' ctv), toks := tk }) :
    wpAny M A (makeTail name qual params (.stmts body) scope env .none .none .none pos firstLine) Q E s := by
  obtain ⟨bm, ob, hbm, hne0, _, hneP, hbo, hcls, hdict, hdata⟩ := hb
  have ht : TriplesOk (#[] : Array Value).toList := trivial
  unfold makeTail
  rw [hcl, hge0]
  refine wpAny_bind (wpAny_pure ?_)
  cases clos with
  | nil => exact absurd rfl hne
  | cons q r =>
    simp only [List.isEmpty_cons, Bool.false_eq_true, if_false]
    refine wpAny_bind (wpAny_newTextTuple ?_)
    refine wpAny_bind (wpAny_functionCodeX hcode ((D.keeps fun b o e => Heap.get?_push_of_some _ e).code (Heap.get?_push_of_some _ hP) ht) ((D.keeps fun b o e => Heap.get?_push_of_some _ e).tab (Heap.get?_push_of_some _ hP)) rfl fun c' h' tk hx hge hlt _ hrec htb hnew => ?_)
    have hg' := (hg.push _).extBut hx hgP
    have hx' : Heap.ExtBut P s.heap h' := fun b o hb' e => hx b o hb' (Heap.get?_push_of_some _ e)
    have hge' : s.heap.objs.size ≤ c' := Nat.le_trans (by rw [Heap.size_push]; lia) hge
    have hco : CodeObj h' c' qual := by
      obtain ⟨P', _, _, ⟨o, vs, e1, e2, e3, _⟩, _⟩ := hnew
      obtain ⟨c'', o', vs', t, e0, f1, f2, f3⟩ := hrec
      cases e0
      rw [e1] at f1; cases f1
      rw [e3] at f2; cases f2
      exact ⟨o, vs, t, e1, e2, e3, f3⟩
    have hsz : s.heap.objs.size ≤ h'.objs.size := Nat.le_of_lt (Nat.lt_of_le_of_lt hge' hlt)
    have htb2 : h'.get? P = some (tabObj #[rawInt pos.line, rawInt pos.col, .ref c']) := by have := htb.2; simpa using this
    refine wpAny_bind (wpAny_builtinsFor hg' hbm hne0 (hx' _ _ hneP hbo) hcls hdict hdata ?_)
    refine wpAny_bind (wpAny_nsGet hg' ?_)
    cases hdoc : docOf body with
    | none => exact wpAny_bind (wpAny_pure (wpAny_newObj_type (h c' _ .none h' tk hx' hsz hco htb2) (by size_fits)))
    | some t => exact wpAny_bind (wpAny_mkText (wpAny_newObj_type (h c' _ _ h' _ hx' hsz hco htb2) (by size_fits)))

structure Nest (C : Cx) (c P : Addr) (pos : Pos) (qual : Str) : Prop where
  hd : ∀ s, Inv C s → CodeHd s.heap c P
  bl : ∀ s, Inv C s → s.heap.BuiltinsAt C.mg P
  t : C.T P
  q : C.tq P = ((pos.line : Int), (pos.col : Int), qual)

theorem wp_nest (W : Wf C) {E : Value → Shared → Prop} {name qual : Str} {params : Arguments} {body : List Stmt} {scope : Scope} {c P : Addr} {pos : Pos} {firstLine : Nat} {clos : List (Str × Addr)} {Q : Value → Shared → Prop}
    (N : Nest C c P pos qual) (I : Inv C s) (hcl : closureFor scope env = pure clos) (hne : clos ≠ []) (hge0 : env.globals = mainGlobals) (hcode : env.code = .ref c)
    (h : ∀ f c' ctv doc s', KB C No s s' → s.heap.get? f = .none → C.base ≤ f → s'.heap.get? f = some (fnMade name qual params body scope clos doc ((C.mg "__name__").getD .none) c' ctv) → CodeObj s'.heap c' qual → Q (.ref f) s') :
    wpAny (model C.prog C.w) A (makeFunction name qual params (.stmts body) scope env [] [] [] pos firstLine) Q E s := by
  have hgP : mainGlobals ≠ P := fun z => W.t3 (by have := N.t; rw [← z] at this; exact this)
  have hfresh : ∀ (h' : Heap), s.heap.objs.size ≤ h'.objs.size → s.heap.get? h'.objs.size = .none := fun h' hs => by
    cases q : s.heap.get? h'.objs.size with
    | none => rfl
    | some o => exact absurd (Heap.lt_size q) (Nat.not_lt.mpr hs)
  refine wpAny_with_toks (Nat.le_refl s.toks) ?_
  rcases I.tab P N.t with hP | ⟨c', hP, hco⟩
  · rw [makeFunction_eq]
    simp only [List.zip_nil_right, List.filterMap_nil, List.isEmpty_nil, if_true, pure_bind]
    refine makeTail_miss hcl hne hge0 I.g hcode (N.hd s I) hP hgP (N.bl s I) fun c' ctv doc h' tk hx hsz hco hP' ht => ?_
    have hpush : ∀ b o, h'.get? b = some o → (h'.push (fnMade name qual params body scope clos doc ((C.mg "__name__").getD .none) c' ctv)).get? b = some o := fun b o e => Heap.get?_push_of_some _ e
    have hP'' : h'.get? P = some (tabObj #[.int (C.tq P).1 0, .int (C.tq P).2.1 0, .ref c']) := by rw [N.q]; exact hP'
    refine h _ c' ctv doc _ ⟨fun b o e m t => ?_, fun q => ?_, fun b o e m => ?_, fun _ _ e => e, Nat.le_refl _, id, rfl, ht⟩ (hfresh h' hsz) (Nat.le_trans (I.big W) hsz) (Heap.get?_push_size _ rfl) (hco.keeps hpush)
    · by_cases hb : b = P
      · subst hb
        rw [hP] at e; cases e
        exact absurd ⟨N.t, rfl⟩ t
      · exact hpush b o (hx b o hb e)
    · intro P' hP1
      by_cases hb : P' = P
      · subst hb
        exact .inr ⟨c', hpush _ _ hP'', by rw [N.q]; exact hco.keeps hpush⟩
      · rcases q P' hP1 with z | ⟨c2, z, oc, vs, t, z1, z2, z3, z4⟩
        · exact .inl (hpush _ _ (hx _ _ hb z))
        · have hcP : c2 ≠ P := fun y => by
            subst y
            rw [hP] at z1; cases z1; cases z2
          exact .inr ⟨c2, hpush _ _ (hx _ _ hb z), oc, vs, t, hpush _ _ (hx _ _ hcP z1), z2, z3, z4⟩
    · by_cases hb : b = P
      · subst hb; exact ⟨_, hpush _ _ hP'⟩
      · exact ⟨o, hpush b o (hx b o hb e)⟩
  · have ht : TriplesOk (#[.int (C.tq P).1 0, .int (C.tq P).2.1 0, .ref c'] : Array Value).toList := trivial
    have hf : codeAmong pos (#[.int (C.tq P).1 0, .int (C.tq P).2.1 0, .ref c'] : Array Value).toList = some (.ref c') := by
      rw [N.q]
      show (if (((pos.line : Int) == pos.line) && ((pos.col : Int) == pos.col)) = true then some (Value.ref c') else _) = _
      rw [if_pos (by simp)]
    refine makeFunction_hit hcl hge0 I.g hcode (N.hd s I) hP ht hf (N.bl s I) fun ctv doc h' tk hk hsz htk => ?_
    have hk' : ∀ b o, s.heap.get? b = some o → (h'.push (fnMade name qual params body scope clos doc ((C.mg "__name__").getD .none) c' ctv)).get? b = some o := fun b o e => Heap.get?_push_of_some _ (hk b o e)
    have hco' : CodeObj s.heap c' qual := by have := hco; rw [N.q] at this; exact this
    exact h _ c' ctv doc _ (KB.grow hk' htk) (hfresh h' hsz) (Nat.le_trans (I.big W) hsz) (Heap.get?_push_size _ rfl) (hco'.keeps hk')
end Mine
end

noncomputable section
open PySem PySem.W PyProof.Rows
namespace Mine
variable {C : Cx} {k : Nat} {sc : Scope} {ns : List Str} {fn : Str → Bool} {env : Env} {lo : Nat} {S S' S'' : Addr → Prop} {Γ Γ' : List Sl} {s s' s'' : Shared} {A : Around} {Mu : Addr → Prop} {e : Expr} {d d' : PyData}

theorem lookup_nodup {α : Type} : ∀ {l : List (Str × α)} {x : Str} {v : α}, (x, v) ∈ l → (l.map (·.1)).Nodup → l.lookup x = some v
  | (y, w) :: r, x, v, h, nd => by
    rw [List.map_cons, List.nodup_cons] at nd
    rw [List.lookup_cons]
    rcases List.mem_cons.mp h with q | q
    · cases q; simp
    · have hne : x ≠ y := fun z => nd.1 (z ▸ List.mem_map.mpr ⟨(x, v), q, rfl⟩)
      have : (x == y) = false := beq_eq_false_iff_ne.mpr hne
      rw [this]
      exact lookup_nodup q nd.2
theorem zip_keys {α : Type} : ∀ (ps : List Str) (vs : List α), ps.length = vs.length → (ps.zip vs).map (·.1) = ps
  | [], [], _ => rfl
  | p :: ps, v :: vs, h => by rw [List.zip_cons_cons, List.map_cons, zip_keys ps vs (by simpa using h)]
  | [], _ :: _, h => by simp at h
  | _ :: _, [], h => by simp at h
theorem zip_mem {α : Type} : ∀ {ps : List Str} {vs : List α} {i : Nat} {x : Str} {v : α}, ps[i]? = some x → vs[i]? = some v → (x, v) ∈ ps.zip vs
  | [], _, i, x, v, h, _ => by simp at h
  | _ :: _, [], i, x, v, _, h => by simp at h
  | p :: ps, w :: vs, 0, x, v, h1, h2 => by simp at h1 h2; subst h1; subst h2; exact .head _
  | p :: ps, w :: vs, i + 1, x, v, h1, h2 => .tail _ (zip_mem (i := i) (by simpa using h1) (by simpa using h2))

structure ClOk (S : Addr → Prop) (h : Heap) (cl : List (Str × Addr)) (fns : List Str) (fs : List Sl) : Prop where
  slot : ∀ (i : Nat) x, fns[i]? = some x → ∃ c vo, cl.lookup x = some c ∧ h.IsCell c vo ∧ ∀ d, fs.getD i .un = .v d → ∃ v, vo = some v ∧ Rp h S v d
  noOwn : ∀ (i : Nat) xs, fs[i]? ≠ some (.own xs)
  apart : ∀ x y c, cl.lookup x = some c → cl.lookup y = some c → x = y
  celS : ∀ x c, cl.lookup x = some c → S c
  celC : ∀ x c, cl.lookup x = some c → ∃ vo, h.IsCell c vo
  dom : ∀ x c, cl.lookup x = some c → x ∈ fns

noncomputable abbrev NestOk (scope : Scope) (ps ls fns : List Str) : Prop :=
  scope.kind = .function ∧ scope.isCoroutine = false ∧ scope.isGenerator = false ∧ (∀ x ∈ scope.names, x.2 ≠ .cell) ∧ ((ps ++ ls) ++ fns).Nodup ∧ (∀ x ∈ ps ++ ls, scope.names.lookup x = some .local) ∧
  (∀ x ∈ fns, scope.names.lookup x = some .free ∧ (x == ("__classdict__" : Str)) = false)

theorem call_nested (W : Wf C) {f c' : Addr} {name qual : Str} {params : Arguments} {body : List Stmt} {scope : Scope} {cl : List (Str × Addr)} {doc pm ctv : Value} {vals : List Value} {ds : List PyData} {ps ls fns : List Str} {fs : List Sl} {RR : Result → Shared → Prop}
    (I : Inv C s) (hf : s.heap.get? f = some (fnMade name qual params body scope cl doc pm c' ctv)) (hco : CodeObj s.heap c' qual) (R : Room A (k + 1)) (hS : Live s.heap S) (hB : ∀ a, S a → C.base ≤ a) (r : RpAll s.heap S vals ds) (hl : ds.length = ps.length)
    (hbind : bindArgs (fnX name qual params body scope cl .none .none doc pm .none (.ref c') ctv) ⟨vals, []⟩ = pure (ps.zip vals)) (hN : NestOk scope ps ls fns) (K : ClOk S s.heap cl fns fs)
    (h : ∀ s₁ env S₁, KB C No s s₁ → env.cells = cl → FrameOk C scope ((ps ++ ls) ++ fns) (fun x => (ps ++ ls).contains x) env s.heap.objs.size S₁ ((ds.map .v ++ List.replicate ls.length .un) ++ fs) s₁.heap → (∀ a, S a → S₁ a) → (∀ a, S₁ a → S a ∨ s.heap.get? a = .none) → Room (A.deeper env) k →
      wpAny (model C.prog C.w) (A.deeper env) (execs body env) (fun fl s' => RR (.ok (.ret (match fl with | .ret v => v | _ => .none))) s') (fun _ _ => False) s₁) :
    codeAny (model C.prog C.w) A (.call (.ref f) ⟨vals, []⟩) RR s := by
  obtain ⟨n1, n2, n3, n4, n5, n6, n7⟩ := hN
  have hvl : vals.length = ps.length := by rw [r.length, hl]
  have hbig := I.big W
  refine codeAny_call_function (by have := R.depth; lia) hf rfl n2 n3 rfl ?_ ?_
  · obtain ⟨o, vs, t, e1, e2, e3, e4⟩ := hco; exact ⟨c', o, vs, t, rfl, e1, e3, e4⟩
  rw [hbind]
  refine wpAny_pure (wpAny_newFunctionEnv n4 (fun x hx => n6 _ (List.mem_append_left _ (List.of_mem_zip hx).1)) (fun h₁ hns hsb => ?_) n1)
  rw [if_neg (by decide)] at hsb
  have hlt : ∀ a o, s.heap.get? a = some o → a ≠ s.heap.objs.size := fun a o e => Nat.ne_of_lt (Heap.lt_size e)
  have up : ∀ b o, s.heap.get? b = some o → h₁.get? b = some o := fun b o e => hsb.extBut b o (hlt b o e) (Heap.get?_push_of_some _ e)
  have kb : KB C No s { s with heap := h₁, toks := s.toks + (ps.zip vals).length } := KB.grow up (Nat.le_add_right _ _)
  refine ⟨I.lim.keeps up, codeAny_func ?_⟩
  have hlow : ∀ a o, s.heap.get? a = some o → ¬ S a → ¬ (S a ∨ a = s.heap.objs.size) := fun a o e m z => z.elim m fun z => hlt a o e z
  have rr : RpAll h₁ (fun a => S a ∨ a = s.heap.objs.size) vals ds := (r.avoid hlow).no kb
  have hlen : ds.length + ls.length = (ps ++ ls).length := by rw [List.length_append, hl]
  have pre : ∀ (i : Nat), i < (ps ++ ls).length → ((ps ++ ls) ++ fns)[i]? = (ps ++ ls)[i]? := fun i hi => List.getElem?_append_left hi
  have F : FrameOk C scope ((ps ++ ls) ++ fns) (fun x => (ps ++ ls).contains x) (newEnv scope s.heap.objs.size mainGlobals cl (qual ++ ".<locals>.") (some f) (.ref c') .none builtinsNs) s.heap.objs.size (fun a => S a ∨ a = s.heap.objs.size) ((ds.map .v ++ List.replicate ls.length .un) ++ fs) h₁ := by
    refine ⟨rfl, n1, rfl, rfl, n5, ⟨_, hns, fun i x hx hlx => ?_⟩, fun i x hx hlx => ?_, K.apart, ⟨.inr rfl, Nat.le_refl _⟩, fun x c hc => .inl (K.celS x c hc), fun x c hc => let ⟨vo, q⟩ := K.celC x c hc; ⟨vo, q.keeps up⟩, fun x c hx hc => ?_, fun a z => ?_, fun a z => ?_, fun x hx hxt => ?_, hbig, fun i j xs ys h1 h2 => ?_⟩
    · have hi : i < (ps ++ ls).length := by
        rcases Nat.lt_or_ge i (ps ++ ls).length with q | q
        · exact q
        · rw [List.getElem?_append_right q] at hx
          have := (n7 x (List.mem_of_getElem? hx)).1
          rw [hlx] at this; cases this
      rw [List.getD_eq_getElem?_getD, List.getElem?_append_left (by simp; lia)]
      by_cases hd : i < ds.length
      · have hd' : ds[i]? = some ds[i] := List.getElem?_eq_getElem hd
        obtain ⟨v, e1, e2⟩ := rr.get hd'
        rw [List.getElem?_append_left (by simpa using hd), List.getElem?_map, hd']
        refine ⟨v, ?_, e2⟩
        rw [pre i hi, List.getElem?_append_left (by lia)] at hx
        refine lookup_nodup (List.mem_reverse.mpr (zip_mem hx e1)) ?_
        rw [List.map_reverse, zip_keys _ _ hvl.symm]
        refine List.pairwise_reverse.mpr (List.Pairwise.imp (fun h => Ne.symm h) ?_)
        exact List.Nodup.sublist (List.sublist_append_left _ _) (List.Nodup.sublist (List.sublist_append_left _ _) n5)
      · rw [List.getElem?_append_right (by simpa using hd)]
        have : ((List.replicate ls.length Sl.un)[i - (ds.map Sl.v).length]?).getD .un = .un := by
          cases q : (List.replicate ls.length Sl.un)[i - (ds.map Sl.v).length]? with
          | none => rfl
          | some y => exact (List.mem_replicate.mp (List.mem_of_getElem? q)).2
        rw [this]; trivial
    · have hi : ¬ i < (ps ++ ls).length := fun hi => by
        rw [pre i hi] at hx
        exact hlx (n6 x (List.mem_of_getElem? hx))
      rw [List.getElem?_append_right (Nat.not_lt.mp hi)] at hx
      obtain ⟨q1, q2⟩ := n7 x (List.mem_of_getElem? hx)
      obtain ⟨c, vo, h1, h2, h3⟩ := K.slot _ x hx
      refine ⟨.inr ⟨q1, q2⟩, c, vo, h1, h2.keeps up, ?_⟩
      rw [List.getD_eq_getElem?_getD, List.getElem?_append_right (by simp at hi ⊢; lia)]
      have hidx : i - (ds.map Sl.v ++ List.replicate ls.length Sl.un).length = i - (ps ++ ls).length := by simp; lia
      rw [hidx, ← List.getD_eq_getElem?_getD]
      cases hq : fs.getD (i - (ps ++ ls).length) .un with
      | un => trivial
      | v d =>
        obtain ⟨v, e1, e2⟩ := h3 d hq
        exact ⟨v, e1, (e2.avoid hlow).no kb⟩
      | own xs =>
        rw [List.getD_eq_getElem?_getD] at hq
        cases hz : fs[i - (ps ++ ls).length]? with
        | none => rw [hz] at hq; cases hq
        | some y => rw [hz] at hq; exact absurd (hz.trans (congrArg some hq)) (K.noOwn _ xs)
    · exfalso
      have h1 := n6 x (by simpa using hx)
      have h2 := (n7 x (K.dom x c hc)).1
      rw [h1] at h2; cases h2
    · rcases z with z | z
      · obtain ⟨o, e⟩ := hS a z; exact ⟨o, up _ _ e⟩
      · obtain ⟨o, _, _, e, _⟩ := hns; exact ⟨o, z ▸ e⟩
    · exact z.elim (hB a) fun z => z ▸ hbig
    · intro z
      have := n6 x (by simpa using hxt)
      rw [z] at this; cases this
    · have : ∀ (i : Nat) xs, ((ds.map Sl.v ++ List.replicate ls.length Sl.un) ++ fs)[i]? ≠ some (.own xs) := fun i xs q => by
        rcases List.mem_append.mp (List.mem_of_getElem? q) with w | w
        · rcases List.mem_append.mp w with w | w
          · obtain ⟨_, _, w⟩ := List.mem_map.mp w; cases w
          · cases (List.mem_replicate.mp w).2
        · obtain ⟨j, hj⟩ := List.mem_iff_getElem?.mp w
          exact K.noOwn j xs hj
      exact absurd h1 (this i xs)
  refine wpAny_mono (h _ _ _ kb rfl F (fun a z => .inl z) (fun a z => z.elim .inl fun z => .inr (z ▸ get_size _)) (R.deeper _)) (fun _ _ z => z) fun _ _ z => z.elim
end Mine
end

noncomputable section
open PySem PySem.W PyProof.Rows
namespace Mine
variable {C : Cx} {k : Nat} {sc : Scope} {ns : List Str} {fn : Str → Bool} {env : Env} {lo : Nat} {S S' S'' : Addr → Prop} {Γ Γ' : List Sl} {s s' s'' : Shared} {A : Around} {Mu : Addr → Prop} {e : Expr} {d d' : PyData}

noncomputable def stBody : Stmt → List Stmt
  | .FunctionDef _ _ b _ _ _ _ _ _ _ => b
  | _ => []
noncomputable def stScope : Stmt → Scope
  | .FunctionDef _ _ _ _ _ _ s _ _ _ => s
  | _ => ⟨.module, [], false, false, []⟩
noncomputable def bodyAt (P : Program) (i : Nat) : List Stmt := stBody (P.main.body.getD i (.Pass ⟨0, 0, 0, 0⟩))
noncomputable def scopeAt (P : Program) (i : Nat) : Scope := stScope (P.main.body.getD i (.Pass ⟨0, 0, 0, 0⟩))

structure Df (C : Cx) (P : Program) (i : Nat) (x : Str) (ps ns : List Str) (fa : Addr) : Prop where
  glob : C.mg x = some (.ref fa)
  ok : ∃ fd, DefOk C fa fd (bodyAt P i) ps ns ∧ fd.scope = scopeAt P i
theorem Df.isFn {P : Program} {i : Nat} {x : Str} {ps : List Str} {fa : Addr} (D : Df C P i x ps ns fa) : isFn (C.fr fa) = true := by
  obtain ⟨fd, h, _⟩ := D.ok
  obtain ⟨o, e, q⟩ := h.at_
  obtain ⟨a, b, c, dd⟩ := o
  subst q
  rw [e]; rfl
theorem Df.toFn (W : Wf C) {P : Program} {i : Nat} {x : Str} {ps : List Str} {fa : Addr} (D : Df C P i x ps ns fa) {ds : List PyData} (m : Nat) (hl : ds.length = ps.length)
    (h : Ex C k (scopeAt P i) ns (ds.map .v ++ List.replicate m .un) (bodyAt P i) (fun o => o = .ret d)) : Fn C (k + 1) fa ds d := by
  obtain ⟨fd, hd, e⟩ := D.ok
  exact Fn.of (m := m) W hd hl (by rw [e]; exact h)
theorem Df.call (W : Wf C) {P : Program} {i : Nat} {x : Str} {ps ns' : List Str} {fa : Addr} (D : Df C P i x ps ns' fa) {p pos : Pos} {es : List Expr} {ds : List PyData} (hk : sc.names.lookup x = some .globalImplicit)
    (ha : EvAll C k sc ns Γ es ds) (h : Fn C k fa ds d) (hd : (x == ("__debug__" : Str)) = false := by decide) : Ev C k sc ns Γ (.Call (.Name x p) es [] pos) d :=
  Ev.call W hk D.glob D.isFn ha h hd

theorem Fn.mono {k' : Nat} {fa : Addr} {ds : List PyData} (h : Fn C k fa ds d) (hk : k ≤ k') : Fn C k' fa ds d := fun A S s vals R => h A S s vals (R.le hk)

noncomputable def stArgs : Stmt → Arguments
  | .FunctionDef _ a _ _ _ _ _ _ _ _ => a
  | _ => ⟨[], [], .none, [], [], .none, []⟩
noncomputable def stPos : Stmt → Pos
  | .FunctionDef _ _ _ _ _ _ _ _ _ p => p
  | _ => ⟨0, 0, 0, 0⟩

theorem ClOk.no (W : Wf C) {cl : List (Str × Addr)} {fns : List Str} {fs : List Sl} (K : ClOk S s.heap cl fns fs) (hB : ∀ a, S a → C.base ≤ a) (kb : KB C No s s') : ClOk S s'.heap cl fns fs :=
  ⟨fun i x hx => let ⟨c, vo, h1, h2, h3⟩ := K.slot i x hx; ⟨c, vo, h1, IsCell.no h2 kb W (hB _ (K.celS _ _ h1)), fun d hd => let ⟨v, e, r⟩ := h3 d hd; ⟨v, e, r.no kb⟩⟩, K.noOwn, K.apart, K.celS,
    fun x c h => let ⟨vo, q⟩ := K.celC x c h; ⟨vo, IsCell.no q kb W (hB _ (K.celS _ _ h))⟩, K.dom⟩

structure NestAt (C : Cx) (S : Addr → Prop) (st : Stmt) (name qual : Str) (cl : List (Str × Addr)) (fns : List Str) (fs : List Sl) (f : Addr) (s : Shared) : Prop where
  at_ : ∃ doc pm c' ctv, s.heap.get? f = some (fnMade name qual (stArgs st) (stBody st) (stScope st) cl doc pm c' ctv) ∧ CodeObj s.heap c' qual
  cok : ClOk S s.heap cl fns fs
  self : ∃ c, cl.lookup name = some c ∧ s.heap.IsCell c (some (.ref f))
  live : Live s.heap S
  low : ∀ a, S a → C.base ≤ a
  flow : C.base ≤ f
theorem NestAt.no (W : Wf C) {st : Stmt} {name qual : Str} {cl : List (Str × Addr)} {fns : List Str} {fs : List Sl} {f : Addr} (N : NestAt C S st name qual cl fns fs f s) (kb : KB C No s s') : NestAt C S st name qual cl fns fs f s' := by
  refine ⟨?_, N.cok.no W N.low kb, ?_, N.live.no kb, N.low, N.flow⟩
  · obtain ⟨doc, pm, c', ctv, h1, oc, vs, t, h2, h3, h4, h5⟩ := N.at_
    exact ⟨doc, pm, c', ctv, kb.keep _ _ h1 (fun z => z) (fun z => absurd (W.tlt _ z.1) (Nat.not_lt.mpr N.flow)), oc, vs, t, kb.keep _ _ h2 (fun z => z) (fun z => by rw [h3] at z; cases z.2), h3, h4, h5⟩
  · obtain ⟨c, h1, h2⟩ := N.self
    exact ⟨c, h1, IsCell.no h2 kb W (N.low _ (N.cok.celS _ _ h1))⟩

theorem NestAt.inFrame (W : Wf C) {st : Stmt} {name qual : Str} {cl : List (Str × Addr)} {fns ls : List Str} {fs ts : List Sl} {f : Addr} (N : NestAt C S st name qual cl fns fs f s) (F : FrameOk C sc (ls ++ fns) fn env lo S' (ts ++ fs) s.heap) (hc : env.cells = cl) (hl : ts.length = ls.length)
    (hfr : ∀ x ∈ fns, sc.names.lookup x ≠ some .local) : NestAt C S' st name qual cl fns fs f s := by
  refine ⟨N.at_, ⟨fun i x hx => ?_, N.cok.noOwn, fun x y c => hc ▸ F.apart x y c, fun x c => hc ▸ F.celS x c, fun x c => hc ▸ F.celC x c, N.cok.dom⟩, N.self, F.bd, F.bs, N.flow⟩
  have hx' : (ls ++ fns)[ls.length + i]? = some x := by rw [List.getElem?_append_right (Nat.le_add_right _ _), Nat.add_sub_cancel_left]; exact hx
  obtain ⟨_, c, vo, h1, h2, h3⟩ := F.cel _ x hx' (hfr x (List.mem_of_getElem? hx))
  refine ⟨c, vo, hc ▸ h1, h2, fun d hd => ?_⟩
  rw [List.getD_eq_getElem?_getD, List.getElem?_append_right (by lia), hl, Nat.add_sub_cancel_left, ← List.getD_eq_getElem?_getD, hd] at h3
  exact h3

theorem call_inner (W : Wf C) {st : Stmt} {name qual : Str} {cl : List (Str × Addr)} {fns : List Str} {fs : List Sl} {f : Addr} {es : List Expr} {ds : List PyData} {p pos : Pos} {Q : Value → Shared → Prop} {E : Value → Shared → Prop}
    (N : NestAt C S' st name qual cl fns fs f s) (R : Room A k) (I : Inv C s) (F : FrameOk C sc ns fn env lo S Γ s.heap) (hc : env.cells.lookup name = cl.lookup name) (hk : sc.names.lookup name = some .free ∨ sc.names.lookup name = some .cell) (ha : EvAll C k sc ns Γ es ds)
    (h : ∀ vs s₁, KB C No s s₁ → RpAll s₁.heap S vs ds → Inv C s₁ → FrameOk C sc ns fn env lo S Γ s₁.heap → NestAt C S' st name qual cl fns fs f s₁ → codeAny (model C.prog C.w) A (.call (.ref f) ⟨vs, []⟩) (fun r s' => ∃ v, r = .ok (.ret v) ∧ Q v s') s₁)
    (hd : (name == ("__debug__" : Str)) = false := by decide) (hcd : (name == ("__classdict__" : Str)) = false := by decide) :
    wpAny (model C.prog C.w) A (eval (.Call (.Name name p) es [] pos) env) Q E s := by
  rw [arm_eval_Call_Name']
  have hfk : env.scope.kind = .function := by rw [F.scope]; exact F.kind
  have hkk : env.kindOf name = sc.names.lookup name := by unfold Env.kindOf; rw [F.scope]
  obtain ⟨c, h1, h2⟩ := N.self
  have key : wpAny (model C.prog C.w) A (callWith pos (.ref f) [] (backTo pos (starEach es env)) (backToKw pos (keywordEach [] env))) Q E s := by
    obtain ⟨doc, pm, c', ctv, hf, hco⟩ := N.at_
    refine Calls.callWith_function (o := fnMade name qual (stArgs st) (stBody st) (stScope st) cl doc pm c' ctv) (fd := fnX name qual (stArgs st) (stBody st) (stScope st) cl .none .none doc pm .none (.ref c') ctv) (evalArgs_go W ha R I F fun vs s₁ k₁ r₁ I₁ F₁ => ?_)
    have N₁ := N.no W k₁
    refine ⟨⟨k₁.keep _ _ hf (fun z => z) (fun z => absurd (W.tlt _ z.1) (Nat.not_lt.mpr N.flow)), rfl⟩, wpAny_call (codeAny_mono (h vs s₁ k₁ r₁ I₁ F₁ N₁) fun r s₂ hr => ?_)⟩
    obtain ⟨v, rfl, q⟩ := hr
    exact q
  refine wpAny_bind (wpAny_Name ?_ hd)
  rcases hk with hk | hk
  · exact wpAny_loadName_free hfk (hkk.trans hk) (hc.trans h1) h2 key hcd
  · exact wpAny_loadName_cell hfk (hkk.trans hk) (hc.trans h1) h2 key
end Mine
end

noncomputable section
open PySem PySem.W PyProof.Rows
namespace Mine
variable {C : Cx} {k : Nat} {sc : Scope} {ns : List Str} {fn : Str → Bool} {env : Env} {lo : Nat} {S S' S'' : Addr → Prop} {Γ Γ' : List Sl} {s s' s'' : Shared} {A : Around} {Mu : Addr → Prop} {e : Expr} {d d' : PyData}

theorem fn_frame (W : Wf C) {fa : Addr} {fd : FuncData} {body : List Stmt} {ps : List Str} {ds : List PyData} (m : Nat) (D : DefOk C fa fd body ps ns) (hl : ds.length = ps.length)
    (h : ∀ (A : Around) (S : Addr → Prop) (s : Shared) (S₁ : Addr → Prop) (s₁ : Shared), Room (A.deeper (callEnvC fd s.heap.objs.size fa)) k → Inv C s₁ → KB C No s s₁ → (∀ a, S a → S₁ a) → (∀ a, S₁ a → S a ∨ s.heap.get? a = .none) →
      FrameOk C fd.scope ns allW (callEnvC fd s.heap.objs.size fa) s.heap.objs.size S₁ (ds.map .v ++ List.replicate m .un) s₁.heap →
      wpAny (model C.prog C.w) (A.deeper (callEnvC fd s.heap.objs.size fa)) (execs body (callEnvC fd s.heap.objs.size fa)) (fun f s' => ∃ v, f = .ret v ∧ KB C No s s' ∧ Rp s'.heap S v d) (fun _ _ => False) s₁) : Fn C (k + 1) fa ds d := fun A S s vals R I hS hB r =>
  call_frame (tI := s.toks) W m D hl (by have := R.depth; lia) I hS hB r fun S₁ s₁ kb h1 h2 F => h A S s S₁ s₁ (R.deeper _) (I.no W kb) kb h1 h2 F

theorem FrameOk.cellSet (F : FrameOk C sc ns fn env lo S Γ s.heap) {x : Str} {i : Nat} {c : Addr} {v0 : Option Value} {v : Value} {h' : Heap} (hx : ns[i]? = some x) (hi : Γ.getD i .un = .un) (hc : env.cells.lookup x = some c) (h0 : s.heap.IsCell c v0) (h1 : h'.IsCell c (some v)) (hs : Heap.SameBut c s.heap h') : FrameOk C sc ns fn env lo S Γ h' := by
  obtain ⟨oc, ec, dc⟩ := id h0
  have hd : ∀ o, s.heap.get? c = some o → ∀ xs n, o.data ≠ .seq xs n := fun o e xs n z => by rw [ec] at e; cases e; rw [dc] at z; cases z
  have hS : S c := F.celS _ _ hc
  obtain ⟨m, hn, hloc⟩ := F.loc
  refine ⟨F.scope, F.kind, F.glob, F.blt, F.nd, ⟨m, ?_, fun j y hy hly => (hloc j y hy hly).keepBut hs.extBut hS hd⟩, fun j y hy hly => ?_, F.apart, F.locS, F.celS, fun y c' hcc => ?_, F.celM, F.bd.upd hs.extBut (let ⟨o', e', _⟩ := h1; ⟨o', e'⟩), F.bs, F.nofree, F.lob, F.one⟩
  · exact hn.sameBut hs fun z => by
      obtain ⟨oL, es, nn, eL, dL, _⟩ := hn
      rw [z] at eL; rw [ec] at eL; cases eL; rw [dc] at dL; cases dL
  · obtain ⟨b1, c', vo', b2, b3, b4⟩ := F.cel j y hy hly
    by_cases hij : i = j
    · have e := (nd_ne F.nd hx hy).mp hij
      subst e; subst hij
      refine ⟨b1, c, _, hc, h1, ?_⟩
      rw [hi]; trivial
    · have hcc : c' ≠ c := fun z => hij ((nd_ne F.nd hx hy).mpr (F.apart x y c hc (z ▸ b2)))
      exact ⟨b1, c', vo', b2, b3.sameBut hs hcc, b4.keepBut hs.extBut hS hd⟩
  · by_cases z : c' = c
    · subst z; exact ⟨_, h1⟩
    · obtain ⟨vo', q⟩ := F.celC y c' hcc
      exact ⟨vo', q.sameBut hs z⟩

theorem def_inner (W : Wf C) {st : Stmt} {name qual : Str} {c P : Addr} {fns : List Str} {fs : List Sl} {i : Nat} {Q : Flow → Shared → Prop} {E : Value → Shared → Prop}
    (N : Nest C c P (stPos st) qual) (I : Inv C s) (F : FrameOk C sc ns fn env lo S Γ s.heap) (hcode : env.code = .ref c) (hq : qualnameIn env name name = qual)
    (hst : st = .FunctionDef name (stArgs st) (stBody st) [] .none [] (stScope st) .none name (stPos st)) (hd0 : (stArgs st).defaults = []) (hk0 : (stArgs st).kw_defaults = []) (ha : ∀ env, annTrees (stArgs st) .none env = [])
    (hfr : ∀ x ∈ (stScope st).names, x.2 = .free → (env.cells.lookup x.1).isSome = true) (hne : clFor env.cells (stScope st).names [] ≠ []) (hi : ns[i]? = some name) (hun : Γ.getD i .un = .un) (hcell : sc.names.lookup name = some .cell) (hw : fn name = true)
    (hself : (clFor env.cells (stScope st).names []).lookup name = env.cells.lookup name)
    (hcl : ∀ h, FrameOk C sc ns fn env lo S Γ h → ClOk S h (clFor env.cells (stScope st).names []) fns fs)
    (h : ∀ f s', KB C (MuOf lo S) s s' → FrameOk C sc ns fn env lo S Γ s'.heap → NestAt C S st name qual (clFor env.cells (stScope st).names []) fns fs f s' → (∀ y c vo, y ≠ name → env.cells.lookup y = some c → s.heap.IsCell c vo → s'.heap.IsCell c vo) → Q .next s') :
    wpAny (model C.prog C.w) A (exec st env) Q E s := by
  rw [hst]
  refine nestDef_K hd0 hk0 (ha env) ?_
  rw [hq]
  have hlocal : sc.names.lookup name ≠ some .local := by rw [hcell]; intro z; cases z
  refine wp_nest W N I (closure_eq hfr) hne F.glob hcode fun f c' ctv doc s₁ k₁ hf hfb hfo hco => ?_
  have F₁ := F.no W k₁
  have I₁ := I.no W k₁
  obtain ⟨_, cc, vo, h2, h3, h4⟩ := F₁.cel i name hi hlocal
  have hfk : env.scope.kind = .function := by rw [F.scope]; exact F.kind
  have hkk : env.kindOf name = some .cell := by unfold Env.kindOf; rw [F.scope]; exact hcell
  refine wpAny_storeName_cell hfk hkk h2 h3 fun h' hc' hs => ?_
  have F₂ := F₁.cellSet hi hun h2 h3 hc' hs
  obtain ⟨oc, ec, dc⟩ := id h3
  have k₂ : KB C (MuOf lo S) s₁ { s₁ with heap := h' } := KB.upd (t := s₁.toks) hs.extBut ec (loose_cell dc) ⟨F₁.celS _ _ h2, F₁.celM _ _ hw h2⟩
  have hfc : f ≠ cc := fun z => by subst z; rw [hfo] at ec; cases ec; cases dc
  refine h f _ (k₁.no.trans k₂) F₂ ⟨⟨doc, _, c', ctv, hs.extBut _ _ hfc hfo, ?_⟩, hcl _ F₂, ⟨cc, by rw [hself]; exact h2, hc'⟩, F₂.bd, F₂.bs, hfb⟩ fun y c1 v1 hy hl1 hc1 => (IsCell.no hc1 k₁ W (F.bs _ (F.celS _ _ hl1))).sameBut hs fun z => hy (F.apart y name cc (z ▸ hl1) h2)
  obtain ⟨o, vs, t, e1, e2, e3, e4⟩ := hco
  exact ⟨o, vs, t, hs.extBut _ _ (fun z => by subst z; rw [e1] at ec; cases ec; rw [e3] at dc; cases dc) e1, e2, e3, e4⟩
end Mine
end

noncomputable section
open PySem PySem.W PyProof.Rows
set_option maxRecDepth 100000
namespace Mine
variable {C : Cx} {k : Nat} {sc : Scope} {ns : List Str} {fn : Str → Bool} {env : Env} {lo : Nat} {S S' S'' : Addr → Prop} {Γ Γ' : List Sl} {s s' s'' : Shared} {A : Around} {Mu : Addr → Prop} {e : Expr} {d d' : PyData}

theorem setItem_plain {prog : Program} {w : World} {E : Value → Shared → Prop} {l : Addr} {items : Array Value} {k : Int} {t : Tok} {v : Value} {Q : Unit → Shared → Prop} (hl : s.heap.PlainList l items) (h0 : 0 ≤ k) (hfit : k < 2 ^ 63) (hn : k < items.size)
    (hQ : ∀ h', h'.PlainList l (items.setIfInBounds k.toNat v) → Heap.SameBut l s.heap h' → Q () { s with heap := h' }) : wpAny (model prog w) A (setItem (.ref l) (.int k t) v) Q E s := by
  obtain ⟨ne, ho⟩ := id hl
  have hT := hl.isList.typeIs
  unfold setItem
  try with_reducible refine wpAny_holding ?_
  first | refine wpAny_bind (wpAny_pure ?_) | skip
  refine wpAny_bind (wpAny_sequenceKey hT (by decide) ?_)
  refine wpAny_bind (wpAny_callSpecial?_slot (name := Str.ofString "__setitem__") hT slot_list_setitem
    (wpAny_call_entry slot_list_setitem hT entry_list_setitem ?_ (args_list_setitem _ _ _)))
  show wpAny _ _ (Builtin.List.listSubscript? (.int k t) >>= _) _ _ s
  refine wpAny_bind (wpAny_listSubscript_int (fitsIndex_of h0 hfit) ?_)
  clear hfit
  obtain ⟨j, rfl⟩ := Int.eq_ofNat_of_zero_le h0
  have hj : j < items.size := by lia
  have hx' : items[j]? = some items[j] := Array.getElem?_eq_getElem hj
  show wpAny _ _ ((seqItemAt l j >>= fun r => pure (r.map (j, ·))) >>= _) _ _ s
  refine wpAny_bind (wpAny_bind (wpAny_seqItemAt ho rfl (wpAny_pure ?_)))
  rw [hx']
  show wpAny _ _ (setSeqItemAt l j v >>= _) _ _ s
  have hm : Obj.mapSeq (·.setIfInBounds j v) { cls := .type "list", data := .seq items ne } = { cls := .type "list", data := .seq (items.setIfInBounds j v) ne } := by simp [Obj.mapSeq]
  have hfin : (s.heap.update l (Obj.mapSeq (·.setIfInBounds j v))).PlainList l (items.setIfInBounds j v) := ⟨ne, by rw [Heap.get?_update_self _ ho (by rw [hm]; rfl), hm]⟩
  refine wpAny_bind (wpAny_setSeqItemAt ho rfl ?_)
  first
    | exact wpAny_bind (wpAny_pure (wpAny_pure ⟨.none, rfl, wpAny_pure (hQ _ hfin (Heap.SameBut.update ..))⟩))
    | exact wpAny_pure ⟨.none, rfl, wpAny_pure (hQ _ hfin (Heap.SameBut.update ..))⟩

theorem fold_one (v : Value) : ∀ n (acc : Array Value), List.foldl (fun x1 x2 => x1 ++ x2) acc (List.replicate n #[v]) = acc ++ (List.replicate n v).toArray
  | 0, acc => by simp
  | n + 1, acc => by
    rw [List.replicate_succ, List.foldl_cons, fold_one v n, List.replicate_succ]
    apply Array.ext'
    simp
theorem rp_rep {h : Heap} {v : Value} (r : Rp h S v d) : ∀ n, RpAll h S (List.replicate n v) (List.replicate n d)
  | 0 => .nil
  | n + 1 => .cons r (rp_rep r n)
theorem wp_mul1 {prog : Program} {w : World} {E : Value → Shared → Prop} {l : Addr} {v : Value} {n : Nat} {u : Tok} {Q : Value → Shared → Prop} (hn : n ≤ 2 ^ 24) (hp : s.heap.PlainList l #[v])
    (h : Q (.ref s.heap.objs.size) { s with heap := s.heap.push { cls := .type "list", data := .seq (List.replicate n v).toArray } }) : wpAny (model prog w) A (binaryOp .Mult (.ref l) (.int n u)) Q E s := by
  obtain ⟨kk, hl⟩ := id hp
  have hlo : -(2 ^ 63 : Int) ≤ (n : Int) := by lia
  have hhi : (n : Int) < 2 ^ 63 := by lia
  have hsz : (#[v] : Array Value).size * ((n : Nat) : Int).toNat ≤ 2 ^ 24 := by simpa using hn
  have e : List.foldl (fun x1 x2 => x1 ++ x2) #[] (List.replicate (if (#[v] : Array Value).isEmpty = true then 0 else ((n : Nat) : Int).toNat) #[v]) = (List.replicate n v).toArray := by
    rw [if_neg (by simp), Int.toNat_natCast, fold_one]; simp
  generalize ((n : Nat) : Int) = x' at *
  refine wpAny_binaryOp_repeat_ref (T := "list") (U := "int") (by decide) ⟨_, hl, rfl⟩ (fun s' => typeIs_int s' x' u) noFill_list_mul F.fills_int_mul F.slot_int_rmul repeat_list F.slot_int_index.lookup
    (call_meets F.slot_int_rmul (typeIs_int s x' u) F.entry_int_rmul (F.args_int_rmul_2 _ _) (int___rmul___int_list x' u l #[v] kk)
      ⟨hl, rfl, ⟨_, hl, rfl⟩, call_meets F.slot_list_mul ⟨_, hl, rfl⟩ F.entry_list_mul (F.args_list_mul_2 _ _)
        (AutoListH.list___mul___list_int_3 l #[v] kk x' u (by simp [Builtin.List.listFitsIndex]; lia) (by lia) (fun z => absurd (of_decide_eq_true z) (Nat.not_lt.mpr (by rw [sizeLine_eq]; lia))))
        ⟨hl, ?_⟩⟩)
  rw [e]
  exact h

theorem and_high (x k : Nat) : x &&& (x / 2 ^ k * 2 ^ k) = x / 2 ^ k * 2 ^ k := by
  apply Nat.eq_of_testBit_eq
  intro i
  rw [Nat.testBit_and, ← Nat.shiftLeft_eq, ← Nat.shiftRight_eq_div_pow, Nat.testBit_shiftLeft, Nat.testBit_shiftRight]
  by_cases h : i ≥ k
  · simp [h, Nat.add_sub_cancel' h]
  · simp [h]
theorem BinOk.xorLow {x j : Nat} : BinOk C k .BitXor (.int x) (.int (x / 2 ^ j * 2 ^ j : Nat)) (.int (x % 2 ^ j : Nat)) :=
  BinOk.xor.cast (int2 (by
    rw [bitXor_and, bitAnd_pp (Int.natCast_nonneg _) (Int.natCast_nonneg _), Int.toNat_natCast, Int.toNat_natCast, and_high]
    have := Nat.div_add_mod x (2 ^ j)
    rw [Nat.mul_comm] at this
    lia))

theorem FrameOk.kbAt (W : Wf C) (F : FrameOk C sc ns fn env lo S Γ s.heap) {D : Addr} {vs : Array Value} (hS : S D) (hla : D < lo) (hp : s.heap.PlainList D vs) (k : KB C (· = D) s s') (hl : ∃ o, s'.heap.get? D = some o) : FrameOk C sc ns fn env lo S Γ s'.heap := by
  obtain ⟨n, e⟩ := hp
  have K : ∀ b o, s.heap.get? b = some o → ¬ S b → SeqCls o → s'.heap.get? b = some o := fun b o e m c => k.keep b o e (fun z => m (z ▸ hS)) fun z => c.ne z.2
  have hsl : ∀ (i : Nat) (vo : Option Value), SlotAt s.heap lo S (Γ.getD i .un) vo → SlotAt s'.heap lo S (Γ.getD i .un) vo := fun i vo z => by
    cases hq : Γ.getD i .un with
    | un => trivial
    | v d => rw [hq] at z; obtain ⟨v, e, r⟩ := z; exact ⟨v, e, r.kb' K⟩
    | own ys =>
      rw [hq] at z
      obtain ⟨b, vs, e, h1, h2, ⟨n, h3⟩, r⟩ := z
      exact ⟨b, vs, e, h1, h2, ⟨n, k.keep _ _ h3 (fun y => absurd (y ▸ h2) (Nat.not_le.mpr hla)) fun z => by cases z.2⟩, r.kb' K⟩
  have hc : ∀ x c vo, env.cells.lookup x = some c → s.heap.IsCell c vo → s'.heap.IsCell c vo := fun x c vo hx q => by
    obtain ⟨o, eo, dd⟩ := q
    exact ⟨o, k.keep _ _ eo (fun z => by rw [z, e] at eo; cases eo; cases dd) (fun z => absurd (W.tlt _ z.1) (Nat.not_lt.mpr (F.bs _ (F.celS _ _ hx)))), dd⟩
  obtain ⟨m, hn, h⟩ := F.loc
  exact ⟨F.scope, F.kind, F.glob, F.blt, F.nd, ⟨m, Ns.kb hn k (fun z => absurd (z ▸ F.locS.2) (Nat.not_le.mpr hla)) (fun z => absurd (W.tlt _ z) (Nat.not_lt.mpr (F.bs _ F.locS.1))), fun i x e q => hsl i _ (h i x e q)⟩, fun i x e q => let ⟨b1, c, vo, b2, b3, b4⟩ := F.cel i x e q; ⟨b1, c, vo, b2, hc _ _ _ b2 b3, hsl i _ b4⟩, F.apart, F.locS, F.celS, fun x c q => let ⟨vo, y⟩ := F.celC x c q; ⟨vo, hc _ _ _ q y⟩, F.celM,
    fun a z => if h : a = D then h ▸ hl else let ⟨o, e⟩ := F.bd a z; k.live a o e h, F.bs, F.nofree, F.lob, F.one⟩
theorem NestAt.kbAt (W : Wf C) {st : Stmt} {name qual : Str} {cl : List (Str × Addr)} {fns : List Str} {fs : List Sl} {f : Addr} (N : NestAt C S st name qual cl fns fs f s) {D : Addr} {vs : Array Value} (hS : S D) (hp : s.heap.PlainList D vs) (kb : KB C (· = D) s s') (hl : ∃ o, s'.heap.get? D = some o) : NestAt C S st name qual cl fns fs f s' := by
  obtain ⟨n, e⟩ := hp
  have hc : ∀ x c vo, cl.lookup x = some c → s.heap.IsCell c vo → s'.heap.IsCell c vo := fun x c vo hx q => by
    obtain ⟨o, eo, dd⟩ := q
    exact ⟨o, kb.keep _ _ eo (fun z => by rw [z, e] at eo; cases eo; cases dd) (fun z => absurd (W.tlt _ z.1) (Nat.not_lt.mpr (N.low _ (N.cok.celS _ _ hx)))), dd⟩
  refine ⟨?_, ⟨fun i x hx => ?_, N.cok.noOwn, N.cok.apart, N.cok.celS, fun x c h => let ⟨vo, q⟩ := N.cok.celC x c h; ⟨vo, hc _ _ _ h q⟩, N.cok.dom⟩, ?_, fun a z => if h : a = D then h ▸ hl else let ⟨o, e⟩ := N.live a z; kb.live a o e h, N.low, N.flow⟩
  · obtain ⟨doc, pm, c', ctv, h1, oc, vs, t, h2, h3, h4, h5⟩ := N.at_
    exact ⟨doc, pm, c', ctv, kb.keep _ _ h1 (fun z => by rw [z, e] at h1; have := congrArg (fun o => o.map Obj.cls) h1; exact absurd (Value.type.inj (Option.some.inj this)) (by decide)) (fun z => absurd (W.tlt _ z.1) (Nat.not_lt.mpr N.flow)), oc, vs, t, kb.keep _ _ h2 (fun z => by rw [z, e] at h2; cases h2; cases h4) (fun z => by rw [h3] at z; cases z.2), h3, h4, h5⟩
  · obtain ⟨c, vo, h1, h2, h3⟩ := N.cok.slot i x hx
    exact ⟨c, vo, h1, hc _ _ _ h1 h2, fun d hd => let ⟨v, e, r⟩ := h3 d hd; ⟨v, e, r.kb kb fun a z => z ▸ hS⟩⟩
  · obtain ⟨c, h1, h2⟩ := N.self
    exact ⟨c, h1, hc _ _ _ h1 h2⟩

theorem frame_storeC (W : Wf C) (F : FrameOk C sc ns fn env lo S Γ s.heap) {x : Str} {i : Nat} {v : Value} {c : Addr} (hx : ns[i]? = some x) (hw : fn x = true) (hi : i < Γ.length) (hl : sc.names.lookup x = some .cell) (hcc : env.cells.lookup x = some c) (hv : Rp s.heap S v d)
    {Q : Unit → Shared → Prop} {E : Value → Shared → Prop} (q : ∀ s', KB C (MuOf lo S) s s' → FrameOk C sc ns fn env lo S (Γ.set i (.v d)) s'.heap → s'.heap.IsCell c (some v) → Q () s') :
    wpAny (model C.prog C.w) A (storeName env x v) Q E s := by
  have hk : env.kindOf x = sc.names.lookup x := by unfold Env.kindOf; rw [F.scope]
  have hf : env.scope.kind = .function := by rw [F.scope]; exact F.kind
  have hl' : sc.names.lookup x ≠ some .local := by rw [hl]; intro z; cases z
  obtain ⟨m, hn, hloc⟩ := F.loc
  obtain ⟨a1, c', vo, a2, a3, a4⟩ := F.cel i x hx hl'
  rw [hcc] at a2; cases a2
  refine wpAny_storeName_cell hf (hk.trans hl) hcc a3 (fun h' hc' hs => ?_)
  obtain ⟨oc, ec, dc⟩ := id a3
  have hd : ∀ o, s.heap.get? c = some o → ∀ xs n, o.data ≠ .seq xs n := fun o e xs n z => by rw [ec] at e; cases e; rw [dc] at z; cases z
  have hS : S c := F.celS _ _ hcc
  have kb : KB C (MuOf lo S) s { s with heap := h' } := KB.upd hs.extBut ec (loose_cell dc) ⟨hS, F.celM _ _ hw hcc⟩
  have hv' : SlotAt h' lo S (.v d) (some v) := ⟨v, rfl, hv.kb' fun b o e m _ => hs.extBut b o (fun z => m (z ▸ hS)) e⟩
  refine q _ kb { scope := F.scope, kind := F.kind, glob := F.glob, blt := F.blt, nd := F.nd, loc := ⟨m, ?_, fun j y hy hly => ?_⟩, cel := fun j y hy hly => ?_, apart := F.apart, locS := F.locS, celS := F.celS, celC := fun y c' hcc' => ?_, celM := F.celM, bd := F.bd.upd hs.extBut (let ⟨o', e', _⟩ := hc'; ⟨o', e'⟩), bs := F.bs, nofree := F.nofree, lob := F.lob, one := one_set F.one } hc'
  · exact hn.sameBut hs fun z => by
      obtain ⟨oL, es, nn, eL, dL, _⟩ := hn
      rw [z] at eL; rw [ec] at eL; cases eL; rw [dc] at dL; cases dL
  · rw [getD_set hi]
    have hij : ¬ i = j := fun z => hl' ((nd_ne F.nd hx hy).mp z ▸ hly)
    rw [if_neg hij]
    exact (hloc j y hy hly).keepBut hs.extBut hS hd
  · rw [getD_set hi]
    by_cases hij : i = j
    · rw [if_pos hij]
      have e := (nd_ne F.nd hx hy).mp hij
      subst e
      exact ⟨a1, c, _, hcc, hc', hv'⟩
    · rw [if_neg hij]
      obtain ⟨b1, c', vo', b2, b3, b4⟩ := F.cel j y hy hly
      have hcc' : c' ≠ c := fun z => hij ((nd_ne F.nd hx hy).mpr (F.apart x y c hcc (z ▸ b2)))
      exact ⟨b1, c', vo', b2, b3.sameBut hs hcc', b4.keepBut hs.extBut hS hd⟩
  · by_cases z : c' = c
    · subst z; exact ⟨_, hc'⟩
    · obtain ⟨vo', q⟩ := F.celC y c' hcc'
      exact ⟨vo', q.sameBut hs z⟩
end Mine
end

noncomputable section
open PySem PySem.W PyProof.Rows
namespace Mine
variable {C : Cx} {k : Nat} {sc : Scope} {ns : List Str} {fn : Str → Bool} {env : Env} {lo : Nat} {S S' S'' : Addr → Prop} {Γ Γ' : List Sl} {s s' s'' : Shared} {A : Around} {Mu : Addr → Prop} {e : Expr} {d d' : PyData}

section sre
open Sre (M)
theorem runFor_done {m : M} (h : m.outcome.isSome = true) : ∀ n, m.runFor n = m
  | 0 => rfl
  | n + 1 => if_pos h
theorem runFor_add (m : M) : ∀ a b, m.runFor (a + b) = (m.runFor a).runFor b
  | 0, b => by rw [Nat.zero_add]; rfl
  | a + 1, b => by
    rw [show a + 1 + b = (a + b) + 1 by lia]
    by_cases h : m.outcome.isSome = true
    · rw [runFor_done h, runFor_done h, runFor_done h]
    · show (if m.outcome.isSome then m else M.runFor (a + b) m.step) = M.runFor b (if m.outcome.isSome then m else M.runFor a m.step)
      rw [if_neg h, if_neg h, runFor_add m.step a b]
noncomputable def Comes (m : M) (n : Nat) (m' : M) : Prop := ∃ j, j ≤ n ∧ m.runFor j = m'
theorem Comes.refl (m : M) : Comes m 0 m := ⟨0, Nat.le_refl _, rfl⟩
theorem Comes.step {m m' : M} {n : Nat} (h : m.outcome.isSome = false) (c : Comes m.step n m') : Comes m (n + 1) m' := by
  obtain ⟨j, hj, e⟩ := c
  refine ⟨j + 1, by lia, ?_⟩
  show (if m.outcome.isSome then m else M.runFor j m.step) = _
  rw [h, if_neg Bool.false_ne_true, e]
theorem Comes.mono {m m' : M} {n n' : Nat} (c : Comes m n m') (h : n ≤ n') : Comes m n' m' := let ⟨j, hj, e⟩ := c; ⟨j, Nat.le_trans hj h, e⟩
theorem wp_drive {Mo : Model} {E : Value → Shared → Prop} {Q : M → Shared → Prop} {m' : M} (ho : m'.outcome.isSome = true) (q : Q m' s) (turns : Nat) : ∀ (n : Nat) (m : M), Comes m n m' → n ≤ 4 * turns → 0 < turns → wpAny Mo A (Builtin.Re.reDrive turns m) Q E s := by
  induction turns with
  | zero => intro n m c hn h0; exact absurd h0 (Nat.lt_irrefl _)
  | succ turns ih =>
    intro n m c hn _
    obtain ⟨j, hj, e⟩ := c
    have unf : Builtin.Re.reDrive (turns + 1) m = (if (m.runFor 4).outcome.isSome = true then pure (m.runFor 4) else (do rule "sre.turn"; Builtin.Re.reDrive turns (m.runFor 4))) := rfl
    rw [unf]
    have small : j ≤ 4 → m.runFor 4 = m' := fun q => by
      have e1 := runFor_add m j (4 - j)
      rw [show j + (4 - j) = 4 by lia, e, runFor_done ho] at e1
      exact e1
    have big : 4 ≤ j → (m.runFor 4).runFor (j - 4) = m' := fun q => by
      have e1 := runFor_add m 4 (j - 4)
      rw [show 4 + (j - 4) = j by lia, e] at e1
      exact e1.symm
    by_cases h : (m.runFor 4).outcome.isSome = true
    · rw [if_pos h]
      have : m.runFor 4 = m' := by
        rcases Nat.le_total j 4 with z | z
        · exact small z
        · rw [← big z, runFor_done h]
      rw [this]
      exact wpAny_pure q
    · rw [if_neg h]
      have hj4 : 4 < j := by
        rcases Nat.lt_or_ge 4 j with z | z
        · exact z
        · exact absurd (by rw [small z]; exact ho) h
      exact wpAny_bind (wpAny_rule (ih (n - 4) _ ⟨j - 4, by lia, big (by lia)⟩ (by lia) (by lia)))

theorem wp_each {Mo : Model} {E : Value → Shared → Prop} {Q : PUnit → Shared → Prop} (f : Nat → PUnit → Sem (ForInStep PUnit)) (hf : ∀ i u (P : ForInStep PUnit → Shared → Prop), P (.yield ⟨⟩) s → wpAny Mo A (f i u) P E s) : ∀ (l : List Nat), Q ⟨⟩ s → wpAny Mo A (forIn l PUnit.unit f) Q E s
  | [], q => by rw [List.forIn_nil]; exact wpAny_pure q
  | i :: l, q => by
    rw [List.forIn_cons]
    exact wpAny_bind (hf i _ _ (wp_each f hf l q))
theorem wp_toEnd {Mo : Model} {E : Value → Shared → Prop} {Q : Option M → Shared → Prop} {m m' : M} {n : Nat} {yes : Bool} (c : Comes m n m') (ho : m'.outcome = some (if yes then .matched else .failed)) (hn : n ≤ 2 ^ 60) (q : Q (if yes then some m' else .none) s) : wpAny Mo A (Builtin.Re.reRunToEnd m) Q E s := by
  have hs : m'.outcome.isSome = true := by rw [ho]; rfl
  unfold Builtin.Re.reRunToEnd
  refine wpAny_bind (wp_drive hs ?_ (2 ^ 64) n m c (by lia) (by decide))
  refine wpAny_bind (wp_each _ (fun i u P h => ?_) _ ?_)
  · cases hb : m'.seen.has i
    · simp only [hb, Bool.false_eq_true, if_false]
      first
        | exact wpAny_pure h
        | exact wpAny_bind (wpAny_pure (wpAny_pure h))
    · simp only [hb, if_true]
      first
        | exact wpAny_bind (wpAny_rule (wpAny_pure h))
        | exact wpAny_bind (wpAny_bind (wpAny_rule (wpAny_pure (wpAny_pure h))))
  · rw [ho]
    cases yes
    · exact wpAny_pure q
    · exact wpAny_pure q
end sre
end Mine
end

noncomputable section
open PySem PySem.W PyProof.Rows
namespace Mine
section sre
open Sre (M)

noncomputable def code1 : Array Nat := #[14, 4, 0, 1, 1, 6, 1, 16, 46, 1]
noncomputable def mk1 (T : Array Nat) (lim : Nat) (must first : Bool) (s pc pos handed : Nat) (fr : List Sre.Frame) (wt : Nat) (ans : Option Bool) (seen : Sre.Seen) : M :=
  { code := code1, text := T, lim, start := s, lastStart := lim, mustAdvance := must, pc, pos, handed, outermost := first, marks := #[], frames := fr, weight := wt, answer := ans, seen }
noncomputable abbrev fr1 (s : Nat) (first : Bool) : Sre.Frame := { wait := .nextStart, pc := 5, pos := s, outermost := first }

variable {T : Array Nat} {lim s p hd wt : Nat} {must first : Bool} {fr : List Sre.Frame} {seen : Sre.Seen}
theorem step1_at : (mk1 T lim must first s 5 p hd fr wt none seen).step =
    if (p == 0 || T.getD (p - 1) 0 == 10) = true then mk1 T lim must first s 7 p hd fr wt none ((seen.add 6).add 44) else mk1 T lim must first s 5 p hd fr wt (some false) ((seen.add 6).add 44) := rfl
theorem step1_lit : (mk1 T lim must first s 7 p hd fr wt none seen).step =
    if p ≥ lim then mk1 T lim must first s 7 p hd fr wt (some false) (seen.add 16) else if (T.getD p 0 == 46) = true then mk1 T lim must first s 9 (p + 1) hd fr wt none (seen.add 16) else mk1 T lim must first s 7 p hd fr wt (some false) (seen.add 16) := by
  show (if p ≥ lim then _ else _) = _
  by_cases h : p ≥ lim
  · rw [if_pos h, if_pos h]; rfl
  · rw [if_neg h, if_neg h]
    show (match (Except.ok (T.getD p 0 == 46, seen.add 16) : Except String (Bool × Sre.Seen)) with | .error why => _ | .ok (false, _) => _ | .ok (true, _) => _) = _
    cases (T.getD p 0 == 46) <;> rfl
theorem step1_suc (hp : p ≠ s) : (mk1 T lim must first s 9 p hd fr wt none seen).step = mk1 T lim must first s 9 p p fr wt (some true) (seen.add 1) := by
  have e : (p == s) = false := by simpa using hp
  show (if (first && ((false && p != lim) || (must && p == s))) = true then _ else _) = _
  rw [e]; simp; rfl
theorem step1_no {pc : Nat} : (mk1 T lim must first s pc p hd [fr1 s first] 1 (some false) seen).step = if s < lim then mk1 T lim false false (s + 1) 5 (s + 1) (s + 1) [fr1 (s + 1) false] 1 none seen else mk1 T lim must first s 5 s hd [] 0 (some false) seen := by
  show (if s < lim then _ else _) = _
  by_cases h : s < lim
  · rw [if_pos h, if_pos h]; rfl
  · rw [if_neg h, if_neg h]; rfl
theorem step1_end {pc : Nat} {b : Bool} : (mk1 T lim must first s pc p hd [] 0 (some b) seen).step = { mk1 T lim must first s pc p hd [] 0 (some b) seen with outcome := some (if b then .matched else .failed) } := rfl

noncomputable def nextAt (P : Nat → Bool) : Nat → Nat → Option Nat
  | 0, _ => .none
  | f + 1, s => if P s then some s else nextAt P f (s + 1)
theorem nextAt_s {P : Nat → Bool} {f s : Nat} : nextAt P (f + 1) s = if P s then some s else nextAt P f (s + 1) := rfl
noncomputable def dotAt (T : Array Nat) (lim s : Nat) : Bool := decide (s < lim) && ((s == 0 || T.getD (s - 1) 0 == 10) && T.getD s 0 == 46)
noncomputable def Found (m : M) (r : Option (Nat × Nat)) : Prop := match r with | some (a, b) => m.outcome = some .matched ∧ m.start = a ∧ m.handed = b | .none => m.outcome = some .failed

theorem find1 : ∀ (f s : Nat) (must first : Bool) (seen : Sre.Seen), s + f = lim + 1 → 0 < f → ∃ n m', n ≤ 5 * f ∧ Comes (mk1 T lim must first s 5 s s [fr1 s first] 1 .none seen) n m' ∧ Found m' ((nextAt (dotAt T lim) f s).map fun t => (t, t + 1)) := by
  intro f
  induction f with
  | zero => intro s must first seen _ h; exact absurd h (Nat.lt_irrefl _)
  | succ f ih =>
    intro s must first seen hs _
    rw [nextAt_s]
    -- where this start fails
    have fails : ∀ {pc : Nat} {hd : Nat} {seen : Sre.Seen}, ∃ n m', n ≤ 5 * f + 2 ∧ Comes (mk1 T lim must first s pc s hd [fr1 s first] 1 (some false) seen) n m' ∧ Found m' ((nextAt (dotAt T lim) f (s + 1)).map fun t => (t, t + 1)) := fun {pc hd seen} => by
      by_cases hl : s < lim
      · obtain ⟨n, m', hn, hc, hf⟩ := ih (s + 1) false false seen (by lia) (by lia)
        refine ⟨n + 1, m', by lia, Comes.step rfl ?_, hf⟩
        rw [step1_no, if_pos hl]; exact hc
      · refine ⟨2, { mk1 T lim must first s 5 s hd [] 0 (some false) seen with outcome := some .failed }, by lia, Comes.step rfl ?_, ?_⟩
        · rw [step1_no, if_neg hl]
          refine Comes.step rfl ?_
          rw [step1_end]; exact Comes.refl _
        · have : f = 0 := by lia
          subst this
          rfl
    by_cases hb : (s == 0 || T.getD (s - 1) 0 == 10) = true
    · by_cases hl : s ≥ lim
      · have hd0 : dotAt T lim s = false := by unfold dotAt; rw [decide_eq_false (by lia)]; rfl
        rw [hd0, if_neg Bool.false_ne_true]
        obtain ⟨n, m', hn, hc, hf⟩ := fails (pc := 7) (hd := s) (seen := (((seen.add 6).add 44).add 16))
        refine ⟨n + 1 + 1, m', by lia, Comes.step rfl ?_, hf⟩
        rw [step1_at, if_pos hb]
        refine Comes.step rfl ?_
        rw [step1_lit, if_pos hl]; exact hc
      · by_cases hc46 : (T.getD s 0 == 46) = true
        · have hd1 : dotAt T lim s = true := by unfold dotAt; rw [decide_eq_true (by lia), hb, hc46]; rfl
          rw [hd1, if_pos rfl]
          refine ⟨5, { mk1 T lim must first s 5 s (s + 1) [] 0 (some true) ((((seen.add 6).add 44).add 16).add 1) with outcome := some .matched }, by lia, Comes.step rfl ?_, rfl, rfl, rfl⟩
          rw [step1_at, if_pos hb]
          refine Comes.step rfl ?_
          rw [step1_lit, if_neg hl, if_pos hc46]
          refine Comes.step rfl ?_
          rw [step1_suc (by lia)]
          refine Comes.step rfl ?_
          refine Comes.step rfl ?_
          exact Comes.refl _
        · have hd0 : dotAt T lim s = false := by unfold dotAt; rw [Bool.eq_false_iff.mpr hc46]; simp
          rw [hd0, if_neg Bool.false_ne_true]
          obtain ⟨n, m', hn, hc, hf⟩ := fails (pc := 7) (hd := s) (seen := (((seen.add 6).add 44).add 16))
          refine ⟨n + 1 + 1, m', by lia, Comes.step rfl ?_, hf⟩
          rw [step1_at, if_pos hb]
          refine Comes.step rfl ?_
          rw [step1_lit, if_neg hl, if_neg hc46]; exact hc
    · have hd0 : dotAt T lim s = false := by unfold dotAt; rw [Bool.eq_false_iff.mpr hb]; simp
      rw [hd0, if_neg Bool.false_ne_true]
      obtain ⟨n, m', hn, hc, hf⟩ := fails (pc := 5) (hd := s) (seen := ((seen.add 6).add 44))
      refine ⟨n + 1, m', by lia, Comes.step rfl ?_, hf⟩
      rw [step1_at, if_neg hb]; exact hc

theorem search1 (s : Nat) (must : Bool) (hs : s ≤ T.size) : ∃ n m', n ≤ 5 * (T.size + 2) ∧ Comes (Sre.forSearch code1 T 0 s T.size must) n m' ∧ Found m' ((nextAt (dotAt T T.size) (T.size + 1 - s) s).map fun t => (t, t + 1)) := by
  by_cases h : s = T.size
  · subst h
    have e : Sre.forSearch code1 T 0 T.size T.size must = { mk1 T T.size must true T.size 5 T.size T.size [] 0 (some false) (({} : Sre.Seen).add 14) with lastStart := 0 } := by
      show (if (T.size > T.size || T.size - T.size < 1) = true then _ else _) = _
      rw [if_pos (by simp)]; rfl
    rw [e]
    refine ⟨1, { mk1 T T.size must true T.size 5 T.size T.size [] 0 (some false) (({} : Sre.Seen).add 14) with lastStart := 0, outcome := some .failed }, by lia, Comes.step rfl (Comes.refl _), ?_⟩
    have : nextAt (dotAt T T.size) (T.size + 1 - T.size) T.size = .none := by
      rw [Nat.add_sub_cancel_left]
      have hd : dotAt T T.size T.size = false := by unfold dotAt; rw [decide_eq_false (Nat.lt_irrefl _)]; rfl
      rw [nextAt_s, hd]; rfl
    rw [this]; rfl
  · have e : Sre.forSearch code1 T 0 s T.size must = mk1 T T.size must true s 5 s s [fr1 s true] 1 .none (({} : Sre.Seen).add 14) := by
      show (if (s > T.size || T.size - s < 1) = true then _ else _) = _
      rw [if_neg (by simp; lia)]; rfl
    rw [e]
    obtain ⟨n, m', hn, hc, hf⟩ := find1 (T := T) (lim := T.size) (T.size + 1 - s) s must true (({} : Sre.Seen).add 14) (by lia) (by lia)
    exact ⟨n, m', by lia, hc, hf⟩
end sre
end Mine
end

noncomputable section
open PySem PySem.W PyProof.Rows
namespace Mine
section sre
open Sre (M)

noncomputable def code3 : Array Nat := #[14, 9, 4, 1, 2, 16, 10, 16, 13, 0, 7, 7, 16, 13, 16, 10, 15, 18, 5, 16, 10, 15, 13, 11, 16, 13, 5, 5, 0, 16, 10, 1, 15, 2, 0, 1]
noncomputable def mk3 (T : Array Nat) (lim : Nat) (first : Bool) (s pc pos handed : Nat) (fr : List Sre.Frame) (wt : Nat) (ans : Option Bool) (seen : Sre.Seen) : M :=
  { code := code3, text := T, lim, start := s, lastStart := lim, mustAdvance := false, pc, pos, handed, outermost := first, marks := #[], frames := fr, weight := wt, answer := ans, seen }
noncomputable abbrev fr3 (s : Nat) (first : Bool) : Sre.Frame := { wait := .nextStart, pc := 10, pos := s, outermost := first }
noncomputable abbrev frB (alt s : Nat) (first : Bool) : Sre.Frame := { wait := .nextBranch, pc := alt, pos := s, outermost := first, kept := { lastmark := -1, lastindex := -1, whole := false, marks := #[] } }
noncomputable abbrev frL (s : Nat) (first : Bool) : Sre.Frame := { wait := .lookNot, pc := 26, pos := s, outermost := first, kept := { lastmark := -1, lastindex := -1, whole := false, marks := #[] } }
variable {T : Array Nat} {lim s p hd wt : Nat} {first : Bool} {fr : List Sre.Frame} {seen : Sre.Seen}

theorem step3_branch : (mk3 T lim first s 10 p hd fr 1 none seen).step = mk3 T lim first s 12 p p (frB 11 p first :: fr) 2 none (seen.add 7) := rfl
theorem step3_lit12 : (mk3 T lim first s 12 p hd fr wt none seen).step = if p ≥ lim then mk3 T lim first s 12 p hd fr wt (some false) (seen.add 16) else if (T.getD p 0 == 13) = true then mk3 T lim first s 14 (p + 1) hd fr wt none (seen.add 16) else mk3 T lim first s 12 p hd fr wt (some false) (seen.add 16) := by
  show (if p ≥ lim then _ else _) = _
  by_cases h : p ≥ lim
  · rw [if_pos h, if_pos h]; rfl
  · rw [if_neg h, if_neg h]
    show (match (Except.ok (T.getD p 0 == 13, seen.add 16) : Except String (Bool × Sre.Seen)) with | .error why => _ | .ok (false, _) => _ | .ok (true, _) => _) = _
    cases (T.getD p 0 == 13) <;> rfl
theorem step3_lit14 : (mk3 T lim first s 14 p hd fr wt none seen).step = if p ≥ lim then mk3 T lim first s 14 p hd fr wt (some false) (seen.add 16) else if (T.getD p 0 == 10) = true then mk3 T lim first s 16 (p + 1) hd fr wt none (seen.add 16) else mk3 T lim first s 14 p hd fr wt (some false) (seen.add 16) := by
  show (if p ≥ lim then _ else _) = _
  by_cases h : p ≥ lim
  · rw [if_pos h, if_pos h]; rfl
  · rw [if_neg h, if_neg h]
    show (match (Except.ok (T.getD p 0 == 10, seen.add 16) : Except String (Bool × Sre.Seen)) with | .error why => _ | .ok (false, _) => _ | .ok (true, _) => _) = _
    cases (T.getD p 0 == 10) <;> rfl
theorem step3_lit19 : (mk3 T lim first s 19 p hd fr wt none seen).step = if p ≥ lim then mk3 T lim first s 19 p hd fr wt (some false) (seen.add 16) else if (T.getD p 0 == 10) = true then mk3 T lim first s 21 (p + 1) hd fr wt none (seen.add 16) else mk3 T lim first s 19 p hd fr wt (some false) (seen.add 16) := by
  show (if p ≥ lim then _ else _) = _
  by_cases h : p ≥ lim
  · rw [if_pos h, if_pos h]; rfl
  · rw [if_neg h, if_neg h]
    show (match (Except.ok (T.getD p 0 == 10, seen.add 16) : Except String (Bool × Sre.Seen)) with | .error why => _ | .ok (false, _) => _ | .ok (true, _) => _) = _
    cases (T.getD p 0 == 10) <;> rfl
theorem step3_lit24 : (mk3 T lim first s 24 p hd fr wt none seen).step = if p ≥ lim then mk3 T lim first s 24 p hd fr wt (some false) (seen.add 16) else if (T.getD p 0 == 13) = true then mk3 T lim first s 26 (p + 1) hd fr wt none (seen.add 16) else mk3 T lim first s 24 p hd fr wt (some false) (seen.add 16) := by
  show (if p ≥ lim then _ else _) = _
  by_cases h : p ≥ lim
  · rw [if_pos h, if_pos h]; rfl
  · rw [if_neg h, if_neg h]
    show (match (Except.ok (T.getD p 0 == 13, seen.add 16) : Except String (Bool × Sre.Seen)) with | .error why => _ | .ok (false, _) => _ | .ok (true, _) => _) = _
    cases (T.getD p 0 == 13) <;> rfl
theorem step3_lit29 : (mk3 T lim first s 29 p hd fr wt none seen).step = if p ≥ lim then mk3 T lim first s 29 p hd fr wt (some false) (seen.add 16) else if (T.getD p 0 == 10) = true then mk3 T lim first s 31 (p + 1) hd fr wt none (seen.add 16) else mk3 T lim first s 29 p hd fr wt (some false) (seen.add 16) := by
  show (if p ≥ lim then _ else _) = _
  by_cases h : p ≥ lim
  · rw [if_pos h, if_pos h]; rfl
  · rw [if_neg h, if_neg h]
    show (match (Except.ok (T.getD p 0 == 10, seen.add 16) : Except String (Bool × Sre.Seen)) with | .error why => _ | .ok (false, _) => _ | .ok (true, _) => _) = _
    cases (T.getD p 0 == 10) <;> rfl
theorem step3_j16 : (mk3 T lim first s 16 p hd fr wt none seen).step = mk3 T lim first s 35 p hd fr wt none (seen.add 15) := rfl
theorem step3_j21 : (mk3 T lim first s 21 p hd fr wt none seen).step = mk3 T lim first s 35 p hd fr wt none (seen.add 15) := rfl
theorem step3_j32 : (mk3 T lim first s 32 p hd fr wt none seen).step = mk3 T lim first s 35 p hd fr wt none (seen.add 15) := rfl
theorem step3_suc : (mk3 T lim first s 35 p hd fr wt none seen).step = mk3 T lim first s 35 p p fr wt (some true) (seen.add 1) := by
  show (if (first && ((false && p != lim) || (false && p == s))) = true then _ else _) = _
  rw [if_neg (by simp)]; rfl
theorem step3_not : (mk3 T lim first s 26 p hd fr 2 none seen).step = mk3 T lim false s 29 p p (frL p first :: fr) 3 none (seen.add 5) := rfl
theorem step3_notNo {pc p' : Nat} {fi : Bool} : (mk3 T lim fi s pc p' hd (frL p first :: fr) 3 (some false) seen).step = mk3 T lim first s 32 p hd fr 2 none seen := rfl
theorem step3_br1 {pc p' : Nat} : (mk3 T lim first s pc p' hd (frB 11 p first :: fr) 2 (some false) seen).step = mk3 T lim first s 19 p p (frB 18 p first :: fr) 2 none seen := rfl
theorem step3_br2 {pc p' : Nat} : (mk3 T lim first s pc p' hd (frB 18 p first :: fr) 2 (some false) seen).step = mk3 T lim first s 24 p p (frB 23 p first :: fr) 2 none seen := rfl
theorem step3_brY {alt pc p' : Nat} : (mk3 T lim first s pc p' hd (frB alt p first :: fr) 2 (some true) seen).step = mk3 T lim first s alt p hd fr 1 (some true) seen := rfl
theorem step3_yes {pc p' : Nat} : (mk3 T lim first s pc p' hd [fr3 s first] 1 (some true) seen).step = mk3 T lim first s 10 s hd [] 0 (some true) seen := rfl
noncomputable def eolAt (T : Array Nat) (lim s : Nat) : Bool := decide (s < lim) && (T.getD s 0 == 10 || T.getD s 0 == 13)
noncomputable def eolLen (T : Array Nat) (lim s : Nat) : Nat := if (T.getD s 0 == 13 && (decide (s + 1 < lim) && T.getD (s + 1) 0 == 10)) = true then 2 else 1

theorem match3 (h : eolAt T lim s = true) : ∃ m', Comes (mk3 T lim first s 10 s s [fr3 s first] 1 .none seen) 15 m' ∧ Found m' (some (s, s + eolLen T lim s)) := by
  unfold eolAt at h
  rw [Bool.and_eq_true] at h
  have hl : ¬ s ≥ lim := by have := of_decide_eq_true h.1; lia
  by_cases h13 : (T.getD s 0 == 13) = true
  · have h10 : ¬ (T.getD s 0 == 10) = true := by rw [eq_of_beq h13]; decide
    by_cases hn : (decide (s + 1 < lim) && T.getD (s + 1) 0 == 10) = true
    · rw [Bool.and_eq_true] at hn
      have hl1 : ¬ s + 1 ≥ lim := by have := of_decide_eq_true hn.1; lia
      have el : eolLen T lim s = 2 := by unfold eolLen; rw [h13, hn.1, hn.2]; rfl
      rw [el]
      refine ⟨{ mk3 T lim first s 10 s (s + 2) [] 0 (some true) (((((seen.add 7).add 16).add 16).add 15).add 1) with outcome := some .matched }, Comes.mono (n := 8) (Comes.step rfl ?_) (by lia), rfl, rfl, rfl⟩
      rw [step3_branch]; refine Comes.step rfl ?_
      rw [step3_lit12, if_neg hl, if_pos h13]; refine Comes.step rfl ?_
      rw [step3_lit14, if_neg hl1, if_pos hn.2]; refine Comes.step rfl ?_
      rw [step3_j16]; refine Comes.step rfl ?_
      rw [step3_suc]; refine Comes.step rfl ?_
      rw [step3_brY]; refine Comes.step rfl ?_
      rw [step3_yes]; refine Comes.step rfl ?_
      exact Comes.refl _
    · have el : eolLen T lim s = 1 := by unfold eolLen; rw [h13, Bool.eq_false_iff.mpr hn]; rfl
      rw [el]
      have f14 : ∀ {hd : Nat} {sn : Sre.Seen} {fr : List Sre.Frame}, (mk3 T lim first s 14 (s + 1) hd fr 2 none sn).step = mk3 T lim first s 14 (s + 1) hd fr 2 (some false) (sn.add 16) := fun {hd sn fr} => by
        rw [step3_lit14]
        by_cases q : s + 1 ≥ lim
        · rw [if_pos q]
        · rw [if_neg q, if_neg (fun z => hn (by rw [Bool.and_eq_true]; exact ⟨decide_eq_true (by lia), z⟩))]
      have f29 : ∀ {fi : Bool} {hd : Nat} {sn : Sre.Seen} {fr : List Sre.Frame}, (mk3 T lim fi s 29 (s + 1) hd fr 3 none sn).step = mk3 T lim fi s 29 (s + 1) hd fr 3 (some false) (sn.add 16) := fun {fi hd sn fr} => by
        rw [step3_lit29]
        by_cases q : s + 1 ≥ lim
        · rw [if_pos q]
        · rw [if_neg q, if_neg (fun z => hn (by rw [Bool.and_eq_true]; exact ⟨decide_eq_true (by lia), z⟩))]
      refine ⟨{ mk3 T lim first s 10 s (s + 1) [] 0 (some true) ((((((((((seen.add 7).add 16).add 16).add 16).add 16).add 5).add 16).add 15).add 1)) with outcome := some .matched }, Comes.step rfl ?_, rfl, rfl, rfl⟩
      rw [step3_branch]; refine Comes.step rfl ?_
      rw [step3_lit12, if_neg hl, if_pos h13]; refine Comes.step rfl ?_
      rw [f14]; refine Comes.step rfl ?_
      rw [step3_br1]; refine Comes.step rfl ?_
      rw [step3_lit19, if_neg hl, if_neg h10]; refine Comes.step rfl ?_
      rw [step3_br2]; refine Comes.step rfl ?_
      rw [step3_lit24, if_neg hl, if_pos h13]; refine Comes.step rfl ?_
      rw [step3_not]; refine Comes.step rfl ?_
      rw [f29]; refine Comes.step rfl ?_
      rw [step3_notNo]; refine Comes.step rfl ?_
      rw [step3_j32]; refine Comes.step rfl ?_
      rw [step3_suc]; refine Comes.step rfl ?_
      rw [step3_brY]; refine Comes.step rfl ?_
      rw [step3_yes]; refine Comes.step rfl ?_
      exact Comes.refl _
  · have h10 : (T.getD s 0 == 10) = true := by
      have := h.2
      rw [Bool.eq_false_iff.mpr h13, Bool.or_false] at this
      exact this
    have el : eolLen T lim s = 1 := by unfold eolLen; rw [Bool.eq_false_iff.mpr h13]; rfl
    rw [el]
    refine ⟨{ mk3 T lim first s 10 s (s + 1) [] 0 (some true) (((((seen.add 7).add 16).add 16).add 15).add 1) with outcome := some .matched }, Comes.mono (n := 9) (Comes.step rfl ?_) (by lia), rfl, rfl, rfl⟩
    rw [step3_branch]; refine Comes.step rfl ?_
    rw [step3_lit12, if_neg hl, if_neg h13]; refine Comes.step rfl ?_
    rw [step3_br1]; refine Comes.step rfl ?_
    rw [step3_lit19, if_neg hl, if_pos h10]; refine Comes.step rfl ?_
    rw [step3_j21]; refine Comes.step rfl ?_
    rw [step3_suc]; refine Comes.step rfl ?_
    rw [step3_brY]; refine Comes.step rfl ?_
    rw [step3_yes]; refine Comes.step rfl ?_
    exact Comes.refl _

theorem inSet3 (c : Nat) (seen : Sre.Seen) : ∃ seen', Sre.inSet code3 c code3.size 5 true seen = .ok (c == 10 || c == 13, seen') := by
  by_cases h : (c == 10) = true
  · refine ⟨seen.add 16, ?_⟩
    show (if (c == 10) = true then _ else _) = _
    rw [if_pos h, h]; rfl
  · by_cases h2 : (c == 13) = true
    · refine ⟨(seen.add 16).add 16, ?_⟩
      show (if (c == 10) = true then _ else (if (c == 13) = true then _ else _)) = _
      rw [if_neg h, if_pos h2, h2, Bool.or_true]; rfl
    · refine ⟨((seen.add 16).add 16).add 0, ?_⟩
      show (if (c == 10) = true then _ else (if (c == 13) = true then _ else _)) = _
      rw [if_neg h, if_neg h2, Bool.eq_false_iff.mpr h, Bool.eq_false_iff.mpr h2]; rfl
theorem nextAt_none {P : Nat → Bool} : ∀ (f s : Nat), (∀ t, s ≤ t → P t = false) → nextAt P f s = .none
  | 0, _, _ => rfl
  | f + 1, s, h => by rw [nextAt_s, h s (Nat.le_refl _), if_neg Bool.false_ne_true]; exact nextAt_none f (s + 1) fun t ht => h t (by lia)
theorem admitted3 {m : M} (hc : m.code = code3) (ht : m.text = T) (hl : m.lim = lim) : ∀ (f s : Nat) (seen : Sre.Seen), ∃ seen', M.admitted m f s seen = .ok (nextAt (eolAt T lim) f s, seen')
  | 0, s, seen => ⟨seen, rfl⟩
  | f + 1, s, seen => by
    show ∃ seen', (if s ≥ m.lim then _ else _) = _
    rw [hl, hc, ht]
    by_cases h : s ≥ lim
    · rw [if_pos h, nextAt_none _ _ fun t htt => by unfold eolAt; rw [decide_eq_false (by lia)]; rfl]
      exact ⟨seen, rfl⟩
    · rw [if_neg h]
      obtain ⟨seen', e⟩ := inSet3 (T.getD s 0) seen
      rw [e]
      rw [nextAt_s]
      have he : eolAt T lim s = (T.getD s 0 == 10 || T.getD s 0 == 13) := by unfold eolAt; rw [decide_eq_true (by lia)]; rfl
      rw [he]
      cases hb : (T.getD s 0 == 10 || T.getD s 0 == 13)
      · obtain ⟨seen'', e'⟩ := admitted3 hc ht hl f (s + 1) seen'
        exact ⟨seen'', by rw [if_neg Bool.false_ne_true]; exact e'⟩
      · exact ⟨seen', by rw [if_pos rfl]⟩
theorem nextAt_some {P : Nat → Bool} : ∀ {f s t : Nat}, nextAt P f s = some t → P t = true ∧ s ≤ t
  | f + 1, s, t, h => by
    rw [nextAt_s] at h
    cases hp : P s
    · rw [hp, if_neg Bool.false_ne_true] at h
      obtain ⟨h1, h2⟩ := nextAt_some h
      exact ⟨h1, by lia⟩
    · rw [hp, if_pos rfl] at h
      cases h; exact ⟨hp, Nat.le_refl _⟩

theorem search3 (s : Nat) (must : Bool) (hs : s ≤ T.size) : ∃ n m', n ≤ 15 ∧ Comes (Sre.forSearch code3 T 0 s T.size must) n m' ∧ Found m' ((nextAt (eolAt T T.size) (T.size + 1 - s) s).map fun t => (t, t + eolLen T T.size t)) := by
  by_cases h : s = T.size
  · subst h
    have hnone : nextAt (eolAt T T.size) (T.size + 1 - T.size) T.size = .none := nextAt_none _ _ fun t ht => by unfold eolAt; rw [decide_eq_false (by lia)]; rfl
    rw [hnone]
    have e : Sre.forSearch code3 T 0 T.size T.size must = { mk3 T T.size true T.size 10 T.size T.size [] 0 (some false) (({} : Sre.Seen).add 14) with lastStart := 0, mustAdvance := must } := by
      show (if (T.size > T.size || T.size - T.size < 1) = true then _ else _) = _
      rw [if_pos (by simp)]; rfl
    rw [e]
    exact ⟨1, { mk3 T T.size true T.size 10 T.size T.size [] 0 (some false) (({} : Sre.Seen).add 14) with lastStart := 0, mustAdvance := must, outcome := some .failed }, by lia, Comes.step rfl (Comes.refl _), rfl⟩
  · let m0 : M := { mk3 T T.size true s 10 s s [] 0 .none (({} : Sre.Seen).add 14) with mustAdvance := must }
    have e : Sre.forSearch code3 T 0 s T.size must = m0.attemptFrom s true := by
      show (if (s > T.size || T.size - s < 1) = true then _ else _) = _
      rw [if_neg (by simp; lia)]; rfl
    rw [e]
    obtain ⟨seen', ea⟩ := admitted3 (m := m0) (T := T) (lim := T.size) rfl rfl rfl (T.size + 1 - s) s m0.seen
    have e2 : m0.attemptFrom s true = (match M.admitted m0 (m0.lim + 1 - s) s m0.seen with
      | .ok (some s, seen) => { m0 with mustAdvance := false, seen }.attemptAt s true
      | .ok (.none, seen) => { m0 with seen }.say false
      | .error why => m0.stick why) := rfl
    rw [e2, show m0.lim + 1 - s = T.size + 1 - s from rfl, ea]
    cases hq : nextAt (eolAt T T.size) (T.size + 1 - s) s with
    | none =>
      have hst : (({ m0 with seen := seen' } : M).say false).step = ({ (({ m0 with seen := seen' } : M).say false) with outcome := some .failed } : M) := rfl
      refine ⟨1, ({ (({ m0 with seen := seen' } : M).say false) with outcome := some .failed } : M), by lia, Comes.step rfl ?_, ?_⟩
      · rw [hst]; exact Comes.refl _
      · show (some Sre.Outcome.failed) = _; rfl
    | some t =>
      obtain ⟨m', hc, hf⟩ := match3 (T := T) (lim := T.size) (s := t) (first := true) (seen := seen') (nextAt_some hq).1
      exact ⟨15, m', Nat.le_refl _, hc, hf⟩
end sre
end Mine
end

noncomputable section
open PySem PySem.W PyProof.Rows
namespace Mine
variable {C : Cx} {k : Nat} {s s' s'' : Shared} {A : Around} {S : Addr → Prop}

structure PatOk (C : Cx) (a : Addr) (code : Array Nat) (kind : Nat) : Prop where
  ok : ∃ o vs c oc items n, C.fr a = some o ∧ o.cls = .type "re.Pattern" ∧ o.dict = .none ∧ o.data = .fields vs ∧ vs.getD 5 .none = .ref c ∧ Builtin.Re.reRawNat (vs.getD 6 .none) = kind ∧ Builtin.Re.reRawNat (vs.getD 2 .none) = 0 ∧
    C.fr c = some oc ∧ oc.data = .seq items n ∧ (items.map Builtin.Re.reRawOf).map (·.toNat) = code

theorem wp_target {E : Value → Shared → Prop} {a : Addr} {code : Array Nat} {x : Str} {t : Tok} {Q : Builtin.Re.ReTarget → Shared → Prop} (P : PatOk C a code 0) (I : Inv C s)
    (q : Q { pattern := .ref a, string := .str x t, code := code, text := x.cps, kind := 0, groups := 0, pos := 0, lim := x.cps.size } s) : wpAny (model C.prog C.w) A (Builtin.Re.reWholeTarget (.ref a) (.str x t)) Q E s := by
  obtain ⟨o, vs, c, oc, items, n, h1, h2, h3, h4, h5, h6, h7, h8, h9, h10⟩ := P.ok
  unfold Builtin.Re.reWholeTarget
  refine wpAny_bind (wpAny_fieldsOf (I.fr _ _ h1) h4 ?_)
  have e1 : Builtin.Re.reTextOf (.str x t) = pure (x.cps, 0) := rfl
  refine wpAny_bind (wpAny_of_eq e1 ?_)
  dsimp only
  rw [h6]
  refine wpAny_bind (m := Builtin.Re.reNoCollectionInside (.str x t) 0) (wpAny_of_eq (a := ()) rfl ?_)
  rw [h5, h7]
  refine wpAny_bind ?_
  unfold Builtin.Re.reRawItems
  refine wpAny_bind (wpAny_seqItems (I.fr _ _ h8) h9 (wpAny_pure (wpAny_pure ?_)))
  have : (((some items).getD #[]).map Builtin.Re.reRawOf).map (·.toNat) = code := h10
  rw [this]
  exact q

noncomputable def subFrom (find : Nat → Option (Nat × Nat)) (T repl : Array Nat) : Nat → Nat → List (Array Nat)
  | 0, done => if done < T.size then [T.extract done T.size] else []
  | f + 1, done => match find done with
    | some (a, b) => (if done < a then [T.extract done a] else []) ++ repl :: subFrom find T repl f b
    | .none => if done < T.size then [T.extract done T.size] else []

theorem subFrom_s {find : Nat → Option (Nat × Nat)} {T repl : Array Nat} {f done : Nat} : subFrom find T repl (f + 1) done = match find done with
    | some (a, b) => (if done < a then [T.extract done a] else []) ++ repl :: subFrom find T repl f b
    | .none => if done < T.size then [T.extract done T.size] else [] := rfl

section facts
set_option maxRecDepth 100000
theorem entry_subloop : entryFor table "re.Pattern.sub.loop" = some Builtin.«re.Pattern.sub.loop» := entryFor_of_tree (by kernel_rfl)
theorem entry_sub : entryFor table "re.Pattern.sub" = some Builtin.«re.Pattern.sub» := entryFor_of_tree (by kernel_rfl)
theorem plain_subloop : plainId "re.Pattern.sub.loop" = true := by decide +kernel
theorem plain_sub : plainId "re.Pattern.sub" = true := by decide +kernel
theorem type_sub : typeOf (.builtin "re.Pattern.sub") = pure (.type "method_descriptor") := by show builtinType _ = _; rw [builtinType_eq_fast]; kernel_rfl
theorem slot_sub : Slot "re.Pattern" "sub" "re.Pattern.sub" :=
  .of (owner := "re.Pattern") (n := "sub") (by rw [typeLookup_type, builtinLookup_eq_fast]; kernel_rfl) (by decide +kernel) (by decide +kernel) (by decide +kernel)
    (by first | exact .inl (by decide +kernel) | exact .inr (by decide +kernel)) (by rw [isSubtype_type]; kernel_rfl)
theorem plainAttrs_pat : PlainAttrs "re.Pattern" :=
  ⟨⟨"object.__getattribute__", by rw [typeLookup_type, builtinLookup_eq_fast]; kernel_rfl, by decide +kernel⟩, by rw [typeLookup_type, builtinLookup_eq_fast]; kernel_rfl⟩
theorem args_sub_3 (a b c : Value) : argsOk "re.Pattern.sub" ⟨[a, b, c], []⟩ := by unfold argsOk; kernel_rfl
end facts
end Mine
end

noncomputable section
open PySem PySem.W PyProof.Rows
namespace Mine
variable {C : Cx} {k : Nat} {s s' s'' : Shared} {A : Around} {S : Addr → Prop}

structure FindOk (code : Array Nat) (T : Array Nat) (find : Nat → Option (Nat × Nat)) : Prop where
  runs : ∀ s must, s ≤ T.size → ∃ n m', n ≤ 2 ^ 60 ∧ Comes (Sre.forSearch code T 0 s T.size must) n m' ∧ Found m' (find s)
  up : ∀ s a b, s ≤ T.size → find s = some (a, b) → s ≤ a ∧ a < b ∧ b ≤ T.size

theorem wp_next {E : Value → Shared → Prop} {code T : Array Nat} {find : Nat → Option (Nat × Nat)} {pat str : Value} {st : Nat} {must : Bool} {Q : Option Sre.M → Shared → Prop} (F : FindOk code T find) (h : st ≤ T.size)
    (q : ∀ r : Option Sre.M, (match find st with | some (a, b) => ∃ m, r = some m ∧ m.start = a ∧ m.handed = b | .none => r = .none) → Q r s) :
    wpAny (model C.prog C.w) A (Builtin.Re.reNextFound { pattern := pat, string := str, code := code, text := T, kind := 0, groups := 0, pos := 0, lim := T.size } st must) Q E s := by
  obtain ⟨n, m', hn, hc, hf⟩ := F.runs st must h
  unfold Builtin.Re.reNextFound
  cases hq : find st with
  | none =>
    rw [hq] at hf
    exact wp_toEnd (yes := false) hc hf hn (q .none (by rw [hq]))
  | some ab =>
    obtain ⟨a, b⟩ := ab
    rw [hq] at hf
    obtain ⟨h1, h2, h3⟩ := hf
    exact wp_toEnd (yes := true) hc h1 hn (q (some m') (by rw [hq]; exact ⟨m', rfl, h2, h3⟩))

noncomputable def findDot (T : Array Nat) (st : Nat) : Option (Nat × Nat) := (nextAt (dotAt T T.size) (T.size + 1 - st) st).map fun t => (t, t + 1)
noncomputable def findEol (T : Array Nat) (st : Nat) : Option (Nat × Nat) := (nextAt (eolAt T T.size) (T.size + 1 - st) st).map fun t => (t, t + eolLen T T.size t)
theorem findDot_ok {T : Array Nat} (hT : T.size ≤ 2 ^ 50) : FindOk code1 T (findDot T) where
  runs := fun s must hs => by
    obtain ⟨n, m', h1, h2, h3⟩ := search1 (T := T) s must hs
    exact ⟨n, m', by lia, h2, h3⟩
  up := fun s a b hs h => by
    unfold findDot at h
    cases hq : nextAt (dotAt T T.size) (T.size + 1 - s) s with
    | none => rw [hq] at h; cases h
    | some t =>
      rw [hq] at h; cases h
      obtain ⟨h1, h2⟩ := nextAt_some hq
      unfold dotAt at h1
      rw [Bool.and_eq_true] at h1
      have := of_decide_eq_true h1.1
      exact ⟨h2, by lia, by lia⟩
theorem eolLen_le {T : Array Nat} {lim s : Nat} (h : s < lim) : 0 < eolLen T lim s ∧ s + eolLen T lim s ≤ lim := by
  unfold eolLen
  by_cases hc : (T.getD s 0 == 13 && (decide (s + 1 < lim) && T.getD (s + 1) 0 == 10)) = true
  · rw [if_pos hc]
    rw [Bool.and_eq_true, Bool.and_eq_true] at hc
    have := of_decide_eq_true hc.2.1
    lia
  · rw [if_neg hc]; lia
theorem findEol_ok {T : Array Nat} : FindOk code3 T (findEol T) where
  runs := fun s must hs => by
    obtain ⟨n, m', h1, h2, h3⟩ := search3 (T := T) s must hs
    exact ⟨n, m', by lia, h2, h3⟩
  up := fun s a b hs h => by
    unfold findEol at h
    cases hq : nextAt (eolAt T T.size) (T.size + 1 - s) s with
    | none => rw [hq] at h; cases h
    | some t =>
      rw [hq] at h; cases h
      obtain ⟨h1, h2⟩ := nextAt_some hq
      unfold eolAt at h1
      rw [Bool.and_eq_true] at h1
      have := of_decide_eq_true h1.1
      obtain ⟨h3, h4⟩ := eolLen_le this
      exact ⟨h2, by lia, h4⟩
end Mine
end

noncomputable section
open PySem PySem.W PyProof.Rows
namespace Mine
variable {C : Cx} {k : Nat} {s s' s'' : Shared} {A : Around} {S : Addr → Prop}

noncomputable def pv (kd : Nat) (x : Array Nat) (t : Tok) : Value := if kd = 0 then .str ⟨x⟩ t else .bytes (x.map Nat.toUInt8) t
inductive Pcs (kd : Nat) : List Value → List (Array Nat) → Prop
  | nil : Pcs kd [] []
  | cons {vs xs} (x : Array Nat) (t : Tok) : Pcs kd vs xs → Pcs kd (pv kd x t :: vs) (x :: xs)
theorem Pcs.snoc {kd : Nat} {x : Array Nat} {t : Tok} : ∀ {vs : List Value} {xs : List (Array Nat)}, Pcs kd vs xs → Pcs kd (vs ++ [pv kd x t]) (xs ++ [x])
  | _, _, .nil => .cons _ _ .nil
  | _, _, .cons y u r => .cons y u r.snoc
theorem Pcs.length {kd : Nat} : ∀ {vs : List Value} {xs : List (Array Nat)}, Pcs kd vs xs → vs.length = xs.length
  | _, _, .nil => rfl
  | _, _, .cons y u r => congrArg Nat.succ r.length
noncomputable def catA : List (Array Nat) → Array Nat
  | [] => #[]
  | x :: r => x ++ catA r
theorem catA_c {x : Array Nat} {r : List (Array Nat)} : catA (x :: r) = x ++ catA r := rfl

theorem wp_slice {kd : Nat} {T : Array Nat} {b e : Nat} {E : Value → Shared → Prop} {Q : Value → Shared → Prop} (h : (T.extract b e).size ≤ sizeLine) (q : Q (pv kd (T.extract b e) s.toks) { s with toks := s.toks + 1 }) :
    wpAny (model C.prog C.w) A (Builtin.Re.reSlice T kd b e) Q E s := by
  unfold Builtin.Re.reSlice
  unfold pv at q
  by_cases hk : kd = 0
  · subst hk
    rw [if_pos rfl] at q
    exact wpAny_mkStr q h
  · have hb : (kd == 0) = false := by simpa using hk
    rw [if_neg hk] at q
    rw [hb, if_neg Bool.false_ne_true]
    exact wpAny_mkBytes q (by simpa using h)
theorem wp_updPush {L : Addr} {vs : Array Value} {v : Value} {E : Value → Shared → Prop} {Q : Unit → Shared → Prop} (hp : s.heap.PlainList L vs) (hz : vs.size ≤ sizeLine) (q : ∀ h', h'.PlainList L (vs.push v) → Heap.SameBut L s.heap h' → Q () { s with heap := h' }) :
    wpAny (model C.prog C.w) A (updateSeq L (·.push v)) Q E s := by
  obtain ⟨n, e⟩ := id hp
  exact wpAny_updateSeq e rfl (q _ ⟨if (vs.push v).size == vs.size then n else n + 1, by rw [Heap.get?_update_self _ e (by rfl)]; rfl⟩ (Heap.SameBut.update ..)) hz (by simp; lia)
theorem pv_nn {kd : Nat} {x : Array Nat} {t : Tok} : (pv kd x t != Value.none) = true := by
  unfold pv; split <;> rfl

noncomputable def JoinsTo (C : Cx) (kd : Nat) (L : Addr) (m : Nat) : Prop :=
  ∀ (A : Around) (s : Shared) (vs : List Value) (xs : List (Array Nat)) (t0 : Tok), s.heap.PlainList L vs.toArray → Pcs kd vs xs → xs ≠ [] → (catA xs).size ≤ m → xs.length ≤ sizeLine → ∀ (Q : Value → Shared → Prop) (E : Value → Shared → Prop), (∀ t' k, s.toks ≤ k → Q (pv kd (catA xs) t') { s with toks := k }) →
    wpAny (model C.prog C.w) A (call (.builtin (if kd == 0 then "str.join" else "bytes.join")) [pv kd #[] t0, .ref L]) Q E s

theorem wp_subTail {kd L : Nat} {T : Array Nat} {m : Nat} {vs : List Value} {xs : List (Array Nat)} {E : Value → Shared → Prop} {Q : PySem.Fin → Shared → Prop} (hj : JoinsTo C kd L m) (hp : s.heap.PlainList L vs.toArray) (hP : Pcs kd vs xs) (hm : (catA xs).size ≤ m) (hl : xs.length ≤ sizeLine)
    (q : ∀ t' k, s.toks ≤ k → Q (.done (.ret (pv kd (catA xs) t'))) { s with toks := k }) :
    wpAny (model C.prog C.w) A (Builtin.Re.reSlice T kd 0 0 >>= fun joiner => seqItems? (.ref L) >>= fun o => if ((o.getD #[]).isEmpty = true) then ((pure joiner : Sem Value) >>= fun text => ret text) else (call (.builtin (if kd == 0 then "str.join" else "bytes.join")) [joiner, .ref L] >>= fun text => ret text)) Q E s := by
  have e0 : T.extract 0 0 = #[] := by simp
  refine wpAny_bind (wp_slice (by rw [e0]; exact Nat.zero_le _) ?_)
  rw [e0]
  obtain ⟨n, e⟩ := id hp
  refine wpAny_bind (wpAny_seqItems e rfl (wpAny_ite ?_))
  cases hP with
  | nil =>
    rw [if_pos (show (((some #[] : Option (Array Value)).getD #[]).isEmpty = true) from rfl)]
    exact wpAny_bind (wpAny_pure (wpAny_pure (q _ _ (Nat.le_succ _))))
  | cons x t r =>
    rw [if_neg (by simp)]
    exact wpAny_bind (hj A { s with toks := s.toks + 1 } _ _ _ hp (.cons x t r) (by simp) hm hl _ _ fun t' k hk => wpAny_pure (q t' k (Nat.le_trans (Nat.le_succ _) hk)))

theorem catA_append : ∀ (xs ys : List (Array Nat)), catA (xs ++ ys) = catA xs ++ catA ys
  | [], ys => by show catA ys = #[] ++ catA ys; rw [Array.empty_append]
  | x :: xs, ys => by rw [List.cons_append, catA_c, catA_c, catA_append xs ys, Array.append_assoc]

noncomputable def subC (a : Addr) (sv rv : Value) (n : Int) (done : Nat) (must : Bool) (L : Addr) : Code := .builtin "re.Pattern.sub.loop" ⟨[.ref a, sv, rv, rawInt 0, rawInt 0, rawInt n, rawInt (done : Nat), rawInt (done : Nat), .bool must, .ref L, .bool false], []⟩
noncomputable def SubPost (C : Cx) (kd : Nat) (L : Addr) (out : List (Array Nat)) (s : Shared) (res : Result) (s' : Shared) : Prop := ∃ t', res = .ok (.ret (pv kd (catA out) t')) ∧ KB C (· = L) s s'
theorem SubPost.after {kd : Nat} {L : Addr} {out : List (Array Nat)} {res : Result} (k : KB C (· = L) s s') (h : SubPost C kd L out s' res s'') : SubPost C kd L out s res s'' := Exists.elim h fun t' e => ⟨t', e.1, k.trans e.2⟩
theorem sub_again {kd : Nat} {r : Array Nat} {sv : Value} {u : Tok} {a L : Addr} {n : Int} {b : Nat} {must : Bool} {vs : List Value} {R' : Result → Shared → Prop} (hp : s.heap.PlainList L vs.toArray) (hsz : vs.length < sizeLine) (h : ∀ h', h'.PlainList L (vs ++ [pv kd r u]).toArray → Heap.SameBut L s.heap h' → codeAny (model C.prog C.w) A (subC a sv (pv kd r u) n b must L) R' { s with heap := h' }) :
    wpAny (model C.prog C.w) A.in1 ((pure (pv kd r u) : Sem Value) >>= fun item => if (item != Value.none) = true then (updateSeq L (·.push item) >>= fun _ => again (subC a sv (pv kd r u) n b must L)) else again (subC a sv (pv kd r u) n b must L))
      (fun fin s' => match fin with
        | .done f' => R' (Except.ok f') s'
        | .again c' => c'.quiet = true ∧ codeAny (model C.prog C.w) A c' R' s') (fun e s' => R' (Except.error e) s') s := by
  refine wpAny_bind (wpAny_pure (wpAny_ite ?_))
  rw [if_pos pv_nn]
  refine wpAny_bind (wp_updPush hp (by rw [List.size_toArray]; exact Nat.le_of_lt hsz) fun h' hp' hs => ?_)
  refine wpAny_pure ⟨plainId_quiet plain_subloop _, h h' ?_ hs⟩
  have : (vs ++ [pv kd r u]).toArray = vs.toArray.push (pv kd r u) := by simp
  rw [this]; exact hp'
theorem sub_kb {L : Addr} {vs : Array Value} {h' : Heap} {tk : Nat} (hp : s.heap.PlainList L vs) (hs : Heap.SameBut L s.heap h') (ht : s.toks ≤ tk) : KB C (· = L) s { s with heap := h', toks := tk } :=
  Exists.elim hp fun n e => KB.upd hs.extBut e (loose_seq rfl) rfl ht
theorem code_subloop {kd : Nat} {T r : Array Nat} {sv : Value} {u : Tok} {a L : Addr} {code : Array Nat} {find : Nat → Option (Nat × Nat)} {m : Nat} (W : Wf C) (F : FindOk code T find) (hL : C.base ≤ L) (hT : T.size ≤ sizeLine)
    (hj : JoinsTo C kd L m)
    (htar : ∀ {A : Around} {s : Shared} {E : Value → Shared → Prop} {Q : Builtin.Re.ReTarget → Shared → Prop}, Inv C s → Q { pattern := .ref a, string := sv, code := code, text := T, kind := kd, groups := 0, pos := 0, lim := T.size } s → wpAny (model C.prog C.w) A (Builtin.Re.reWholeTarget (.ref a) sv) Q E s)
    (hlit : Builtin.Re.reLiteralCannotBeTurned (pv kd r u) = pure ()) (hnext : ∀ {A : Around} {s : Shared} {E : Value → Shared → Prop} {st : Nat} {must : Bool} {Q : Option Sre.M → Shared → Prop}, st ≤ T.size →
      (∀ r : Option Sre.M, (match find st with | some (a, b) => ∃ m, r = some m ∧ m.start = a ∧ m.handed = b | .none => r = .none) → Q r s) → wpAny (model C.prog C.w) A (Builtin.Re.reNextFound { pattern := .ref a, string := sv, code := code, text := T, kind := kd, groups := 0, pos := 0, lim := T.size } st must) Q E s) :
    ∀ (f done : Nat) (A : Around) (s : Shared) (n : Nat) (must : Bool) (vs : List Value) (xs out : List (Array Nat)), T.size - done < f → done ≤ T.size → Inv C s → s.heap.PlainList L vs.toArray → Pcs kd vs xs → xs.length + 2 * f ≤ sizeLine → xs ++ subFrom find T r f done = out → (catA out).size ≤ m →
      codeAny (model C.prog C.w) A (subC a sv (pv kd r u) n done must L) (SubPost C kd L out s) s := by
  intro f
  induction f with
  | zero => intro done A s n must vs xs out h; exact absurd h (Nat.not_lt_zero _)
  | succ f ih =>
    intro done A s n must vs xs out hf hd I hp hP hsz hout hm
    refine codeAny_builtin entry_subloop ?_
    rw [Around.under_plainId plain_subloop _]
    show wpAny _ A.in1 (Builtin.Re.reWholeTarget (.ref a) sv >>= _) _ _ s
    refine wpAny_bind (htar I ?_)
    refine wpAny_bind (m := Builtin.Re.reLiteralCannotBeTurned (pv kd r u)) (wpAny_of_eq (a := ()) hlit ?_)
    show wpAny _ A.in1 (Builtin.Re.reNextFound _ done must >>= _) _ _ s
    have hvl : vs.length = xs.length := hP.length
    have ext : ∀ b e, (T.extract b e).size ≤ sizeLine := fun b e => Nat.le_trans (by rw [Array.size_extract]; lia) hT
    refine wpAny_bind (hnext hd fun res hres => ?_)
    have usub : subFrom find T r (f + 1) done = (match find done with
      | some (a, b) => (if done < a then [T.extract done a] else []) ++ r :: subFrom find T r f b
      | .none => if done < T.size then [T.extract done T.size] else []) := rfl
    rw [usub] at hout
    have hpush : ∀ e t, (vs ++ [pv kd (T.extract done e) t]).toArray = vs.toArray.push (pv kd (T.extract done e) t) := fun e t => by simp
    cases hq : find done with
    | none =>
      rw [hq] at hres hout
      dsimp only at hout
      subst hres
      show wpAny _ _ (if done < T.size then _ else _) _ _ s
      refine wpAny_ite ?_
      by_cases hlt : done < T.size
      · rw [if_pos hlt] at hout
        rw [if_pos hlt]
        refine wpAny_bind (wp_slice (ext _ _) ?_)
        refine wpAny_bind (wp_updPush hp (by rw [List.size_toArray, hvl]; lia) fun h' hp' hs => ?_)
        refine wp_subTail (vs := vs ++ [pv kd (T.extract done T.size) s.toks]) (xs := xs ++ [T.extract done T.size]) hj ?_ hP.snoc (by rw [hout]; exact hm) (by rw [List.length_append, List.length_singleton]; lia) fun t' k hk => ⟨t', by rw [hout], sub_kb hp hs (Nat.le_trans (Nat.le_succ _) hk)⟩
        rw [hpush]; exact hp'
      · rw [if_neg hlt] at hout
        rw [if_neg hlt]
        rw [List.append_nil] at hout
        rw [← hout] at hm ⊢
        exact wp_subTail hj hp hP hm (by lia) fun t' k hk => ⟨t', rfl, (KB.toks0 hk)⟩
    | some ab =>
      obtain ⟨b1, b2⟩ := ab
      rw [hq] at hres hout
      dsimp only at hout
      obtain ⟨mm, rfl, h1, h2⟩ := hres
      obtain ⟨g1, g2, g3⟩ := F.up done b1 b2 hd hq
      have again : ∀ {s₁ : Shared} {vs₁ : List Value} {xs₁ : List (Array Nat)} {h' : Heap}, KB C (· = L) s s₁ → Inv C s₁ → s₁.heap.PlainList L vs₁.toArray → Pcs kd vs₁ xs₁ → xs₁.length ≤ xs.length + 1 → xs₁ = xs ++ (if done < b1 then [T.extract done b1] else []) → h'.PlainList L (vs₁ ++ [pv kd r u]).toArray → Heap.SameBut L s₁.heap h' →
          codeAny (model C.prog C.w) A (subC a sv (pv kd r u) ((n : Int) + 1) mm.handed (mm.handed == b1) L) (SubPost C kd L out s) { s₁ with heap := h' } := by
        intro s₁ vs₁ xs₁ h' k₁ I₁ hp₁ hP₁ hl₁ he hp' hs
        have k₂ := sub_kb (C := C) (tk := s₁.toks) hp₁ hs (Nat.le_refl _)
        have hc : xs₁ ++ [r] ++ subFrom find T r f b2 = out := by
          rw [he, ← hout]; simp
        have e3 : ((n : Int) + 1) = ((n + 1 : Nat) : Int) := by push_cast; rfl
        rw [e3, h2]
        exact codeAny_mono (ih b2 A { s₁ with heap := h' } (n + 1) (b2 == b1) (vs₁ ++ [pv kd r u]) (xs₁ ++ [r]) out (by lia) g3 (I₁.kb W k₂ fun a z => z ▸ hL) hp' hP₁.snoc (by rw [List.length_append, List.length_singleton]; lia) hc hm) fun res s' h => h.after (k₁.trans k₂)
      show wpAny _ _ (if done < mm.start then _ else _) _ _ s
      rw [h1]
      refine wpAny_ite ?_
      by_cases hlt : done < b1
      · rw [if_pos hlt]
        refine wpAny_bind (wp_slice (ext _ _) ?_)
        refine wpAny_bind (wp_updPush hp (by rw [List.size_toArray, hvl]; lia) fun h' hp' hs => ?_)
        have k₁ := sub_kb (C := C) hp hs (Nat.le_succ s.toks)
        refine wpAny_ite ?_
        rw [if_pos (show ((0 : Int) == 0) = true from rfl)]
        have hp₁ : Heap.PlainList h' L (vs ++ [pv kd (T.extract done b1) s.toks]).toArray := by rw [hpush]; exact hp'
        exact sub_again (s := { s with heap := h', toks := s.toks + 1 }) hp₁ (by rw [List.length_append, List.length_singleton]; lia) fun h'' hp'' hs'' => again (vs₁ := vs ++ [pv kd (T.extract done b1) s.toks]) (xs₁ := xs ++ [T.extract done b1]) k₁ (I.kb W k₁ fun a z => z ▸ hL) hp₁ hP.snoc (by rw [List.length_append, List.length_singleton]; lia) (by rw [if_pos hlt]) hp'' hs''
      · rw [if_neg hlt]
        refine wpAny_ite ?_
        rw [if_pos (show ((0 : Int) == 0) = true from rfl)]
        exact sub_again (s := s) hp (by lia) fun h'' hp'' hs'' => again (vs₁ := vs) (xs₁ := xs) KB.refl I hp hP (by lia) (by rw [if_neg hlt, List.append_nil]) hp'' hs''
end Mine
end

noncomputable section
open PySem PySem.W PyProof.Rows
namespace Mine
variable {C : Cx} {k : Nat} {s s' s'' : Shared} {A : Around} {S : Addr → Prop}

theorem Pcs.strs : ∀ {vs : List Value} {xs : List (Array Nat)}, Pcs 0 vs xs → ∃ l : List (Str × Tok), strValues l = vs ∧ l.map (·.1) = xs.map Str.mk
  | _, _, .nil => ⟨[], rfl, rfl⟩
  | _, _, .cons x t r => let ⟨l, e1, e2⟩ := r.strs; ⟨(⟨x⟩, t) :: l, by rw [← e1]; rfl, by rw [List.map_cons, List.map_cons, e2]⟩
theorem join_cat : ∀ (xs : List (Array Nat)), Str.join ⟨#[]⟩ (xs.map Str.mk) = ⟨catA xs⟩
  | [] => rfl
  | [x] => by show (⟨x⟩ : Str) = ⟨x ++ #[]⟩; rw [Array.append_empty]
  | x :: y :: r => by
    show (⟨x⟩ : Str) ++ (⟨#[]⟩ : Str) ++ Str.join ⟨#[]⟩ ((y :: r).map Str.mk) = _
    rw [join_cat (y :: r)]
    show (⟨x ++ #[] ++ catA (y :: r)⟩ : Str) = _
    rw [Array.append_empty]; rfl
theorem size_catA : ∀ (xs : List (Array Nat)), (catA xs).size = (xs.map (·.size)).sum
  | [] => rfl
  | x :: r => by rw [catA_c, Array.size_append, size_catA r, List.map_cons, List.sum_cons]

theorem joins0 {L : Addr} : JoinsTo C 0 L sizeLine := fun A s vs xs t0 hp hP hne hm hl Q E q => by
  obtain ⟨l, e1, e2⟩ := hP.strs
  have hj : JoinOk ⟨#[]⟩ (xs.map Str.mk) = true := by
    unfold JoinOk
    rw [StrLaws.joinTotal]
    have : ((xs.map Str.mk).map (·.length)).sum + (xs.map Str.mk).length * (⟨#[]⟩ : Str).length = (catA xs).size := by
      rw [size_catA, List.map_map]
      show (xs.map fun x => x.size).sum + _ * 0 = _
      lia
    rw [this]
    unfold Builtin.Str.tooLong
    rw [decide_eq_false (by lia)]; rfl
  refine wpAny_with_toks (Nat.le_refl _) (SC.join (x := ⟨#[]⟩) (t := t0) (D := L) (l := l) (texts := xs.map Str.mk) (by rw [e1]; exact hp.isList) e2 hj fun t' k hk => ?_)
  have := q t' k hk
  have e : Txt.join ⟨#[]⟩ (xs.map Str.mk) = ⟨catA xs⟩ := by rw [← join_cat]; exact StrLaws.glued_eq_join ..
  rw [e]
  exact this

section bytes
set_option maxRecDepth 100000
theorem slot_bytes_join : Slot "bytes" "join" "bytes.join" :=
  .of (owner := "bytes") (n := "join") (by rw [typeLookup_type, builtinLookup_eq_fast]; kernel_rfl) (by decide +kernel) (by decide +kernel) (by decide +kernel)
    (by first | exact .inl (by decide +kernel) | exact .inr (by decide +kernel)) (by rw [isSubtype_type]; kernel_rfl)
theorem entry_bytes_join : entryFor table "bytes.join" = some Builtin.«bytes.join» := entryFor_of_tree (by kernel_rfl)
theorem args_bytes_join_2 (a b : Value) : argsOk "bytes.join" ⟨[a, b], []⟩ := by unfold argsOk; kernel_rfl
theorem buffer_full {id : String} {b : Array UInt8} {t : Tok} {full : Bool} : Builtin.Bytes.buffer? id (.bytes b t) full = pure (some b) := by
  unfold Builtin.Bytes.buffer?
  rw [KBy.special_eq KBy.look_buffer, KBy.own_buffer, KBy.own_release]
  kernel_rfl
theorem take_eq {id : String} {b : Array UInt8} {t : Tok} {f : Int} : Builtin.Bytes.takeBufferQuiet? id (.bytes b t) f = pure (some (b, none)) := by
  unfold Builtin.Bytes.takeBufferQuiet? Builtin.Bytes.takeBuffer?
  rw [KBy.special_eq KBy.look_buffer, KBy.own_buffer]
  rw [buffer_full]
  rfl
theorem wp_letGo {T : Type} {M : Model} {s : Shared} {A : Around} {E : Value → Shared → Prop} {keep : List Value} : ∀ (l : List Value) {Q : Unit → Shared → Prop}, Q () s → wpAny M A (letGo l keep) Q E s
  | [], _, h => wpAny_pure h
  | _ :: r, _, h => by
    unfold letGo
    exact wpAny_bind (wpAny_holding (wpAny_point (wp_letGo (T := T) r h)))
noncomputable def u8 (x : Array Nat) : Array UInt8 := x.map Nat.toUInt8
theorem pv1 {x : Array Nat} {t : Tok} : pv 1 x t = .bytes (u8 x) t := by simp [pv, u8]
theorem Pcs.get1 : ∀ {vs : List Value} {xs : List (Array Nat)}, Pcs 1 vs xs → ∀ {i : Nat}, i < xs.length → ∃ t, vs[i]? = some (.bytes (u8 (xs.getD i #[])) t)
  | _, _, .nil, i, h => absurd h (Nat.not_lt_zero _)
  | _, _, .cons x t r, 0, h => ⟨t, by rw [List.getElem?_cons_zero, pv1]; rfl⟩
  | _, _, .cons x t r, i + 1, h => by
    obtain ⟨u, e⟩ := r.get1 (i := i) (by simpa using h)
    exact ⟨u, by rw [List.getElem?_cons_succ, e]; rfl⟩
theorem joined_go (n : Nat) : ∀ (l : List (Array UInt8)) (k : Nat) (acc : Array UInt8), (l.zipIdx k).foldl (fun out (p, i) => (if i > 0 then out ++ (#[] : Array UInt8) else out) ++ p) acc = acc ++ (l.map Array.toList).flatten.toArray
  | [], _, acc => by simp
  | x :: l, k, acc => by
    rw [List.zipIdx_cons, List.foldl_cons, joined_go n l]
    have : (if k > 0 then acc ++ (#[] : Array UInt8) else acc) = acc := by split <;> simp
    dsimp only
    rw [this]
    apply Array.ext'
    simp
theorem u8_cat : ∀ xs : List (Array Nat), ((xs.map u8).map Array.toList).flatten.toArray = u8 (catA xs)
  | [] => by simp [show catA [] = #[] from rfl, u8]
  | x :: r => by
    have h := u8_cat r
    apply Array.ext'
    have h' := congrArg Array.toList h
    simp [catA_c, u8] at h' ⊢
    exact h'
noncomputable abbrev JSt := Array (Array UInt8) × List (Value × Option Value)
noncomputable def JOk (p : Value × Option Value) : Prop := p.1.onHeap = false ∧ p.2 = none
theorem join_loop {M : Model} {A : Around} {E : Value → Shared → Prop} {xs : List (Array Nat)} {Q : JSt → Shared → Prop} (f : Nat → JSt → Sem (ForInStep JSt))
    (hf : ∀ i st, i < xs.length → (∀ p ∈ st.2, JOk p) → wpAny M A (f i st) (fun r s' => s' = s ∧ ∃ w, JOk w ∧ r = .yield (st.1.push (u8 (xs.getD i #[])), st.2 ++ [w])) E s)
    (q : ∀ tk, (∀ p ∈ tk, JOk p) → Q ((xs.map u8).toArray, tk) s) : wpAny M A (forIn [:xs.length] ((#[], []) : JSt) f) Q E s := by
  rw [Std.Legacy.Range.forIn_eq_forIn_range']
  refine wpAny_forIn_list f (fun rem st s' => ∃ j, rem = List.range' j (xs.length - j) ∧ j ≤ xs.length ∧ s' = s ∧ st.1 = ((xs.take j).map u8).toArray ∧ ∀ p ∈ st.2, JOk p) Q ?_ ?_ _ _ ⟨0, ?_, Nat.zero_le _, rfl, rfl, fun _ h => nomatch h⟩
  · rintro x rest ⟨a, b⟩ s' ⟨j, hr, hj, rfl, ha, hb⟩
    have hlt : j < xs.length := by
      rcases Nat.lt_or_ge j xs.length with h | h
      · exact h
      · rw [show xs.length - j = 0 by lia] at hr; cases hr
    rw [show xs.length - j = (xs.length - (j + 1)) + 1 by lia, List.range'_succ] at hr
    obtain ⟨h1, h2⟩ := List.cons.inj hr
    subst h2
    rw [h1]
    clear h1
    refine wpAny_mono (hf j (a, b) hlt hb) (fun r s₁ h => ?_) fun _ _ h => h
    obtain ⟨rfl, w, hw, rfl⟩ := h
    refine ⟨j + 1, rfl, hlt, rfl, ?_, fun p hp => ?_⟩
    · show Array.push a _ = _
      have ha : a = _ := ha
      rw [ha]
      have e1 : (xs.take (j + 1)).map u8 = (xs.take j).map u8 ++ [u8 (xs.getD j #[])] := by
        rw [List.take_succ_eq_append_getElem hlt, List.map_append, List.getD_eq_getElem?_getD, List.getElem?_eq_getElem hlt]; rfl
      rw [e1]
      exact List.push_toArray ..
    · rcases List.mem_append.mp hp with h | h
      · exact hb p h
      · rw [List.mem_singleton.mp h]; exact hw
  · rintro ⟨a, b⟩ s' ⟨j, hr, hj, rfl, ha, hb⟩
    have : j = xs.length := by
      have := congrArg List.length hr
      rw [List.length_range'] at this
      simp at this; lia
    subst this
    rw [List.take_length] at ha
    have ha : a = _ := ha
    rw [ha]
    exact q b hb
  · simp [Std.Legacy.Range.size]
theorem letGo_taken {M : Model} {A : Around} {E : Value → Shared → Prop} {keep : List Value} : ∀ (tk : List (Value × Option Value)) {Q : Unit → Shared → Prop}, (∀ p ∈ tk, JOk p) → Q () s → wpAny M A (Builtin.Bytes.joinLetGo tk keep) Q E s
  | [], _, _, h => wpAny_pure h
  | (x, w) :: r, _, hk, h => by
    obtain ⟨_, e⟩ := hk _ (.head _)
    have e : w = none := e
    subst e
    show wpAny M A (letGo _ _ >>= fun _ => Builtin.Bytes.joinLetGo r keep) _ E s
    exact wpAny_bind (wp_letGo (T := Unit) _ (letGo_taken r (fun p hp => hk p (.tail _ hp)) h))
theorem fold_sizes : ∀ (xs : List (Array Nat)) (acc : Nat), (xs.map u8).foldl (fun x1 x2 => x1 + x2.size) acc = acc + (catA xs).size
  | [], acc => rfl
  | x :: r, acc => by
    rw [List.map_cons, List.foldl_cons, fold_sizes r, catA_c, Array.size_append]
    have : (u8 x).size = x.size := by unfold u8; exact Array.size_map
    lia
theorem Pcs.inv {kd : Nat} {vs : List Value} {xs : List (Array Nat)} (h : Pcs kd vs xs) : (vs = [] ∧ xs = []) ∨ ∃ x t vs' xs', vs = pv kd x t :: vs' ∧ xs = x :: xs' ∧ Pcs kd vs' xs' := by
  cases h with
  | nil => exact .inl ⟨rfl, rfl⟩
  | cons x t r => exact .inr ⟨x, t, _, _, rfl, rfl, r⟩
theorem joins1 {L : Addr} : JoinsTo C 1 L sizeLine := fun A s vs xs t0 hp hP hne hm hl Q E q => by
  refine wpAny_call_entry slot_bytes_join (by rw [show pv 1 #[] t0 = .bytes #[] t0 by simp [pv]]; exact typeIs_bytes _ _ _) entry_bytes_join ?_ (args_bytes_join_2 _ _)
  rw [show pv 1 #[] t0 = .bytes #[] t0 by simp [pv]]
  show wpAny _ _ (Builtin.Bytes.joinM .bytes ⟨[.bytes #[] t0, .ref L], []⟩) _ _ _
  unfold Builtin.Bytes.joinM
  refine wpAny_bind (m := selfAndOne _ _) (wpAny_of_eq (a := (.bytes #[] t0, .ref L)) rfl ?_)
  show wpAny _ _ (Builtin.Bytes.joinItems (.ref L) >>= _) _ _ _
  obtain ⟨n, e⟩ := id hp
  refine wpAny_bind ?_
  unfold Builtin.Bytes.joinItems
  refine wpAny_bind (wpAny_typeOf hp.isList.typeIs ?_)
  refine wpAny_ite ?_
  rw [if_pos (by decide)]
  refine wpAny_pure ?_
  show wpAny _ _ (seqItems? (.ref L) >>= _) _ _ _
  refine wpAny_bind (wpAny_seqItems e rfl ?_)
  have hlen := hP.length
  rcases hP.inv with z | ⟨x, t, vs1, xs1, e1, e2, hP1⟩
  · exact absurd z.2 hne
  subst e1; subst e2
  rcases hP1.inv with z | ⟨y, t', vs2, r, e3, e4, hr⟩
  · obtain ⟨z1, z2⟩ := z
    subst z1; subst z2
    show wpAny _ _ (typeOf (pv 1 x t) >>= _) _ _ s
    refine wpAny_bind (wpAny_typeOf (T := "bytes") (by rw [pv1]; exact typeIs_bytes _ _ _) (wpAny_ite ?_))
    rw [if_pos (by decide)]
    refine wpAny_bind (wpAny_rule (wpAny_pure ⟨_, rfl, ?_⟩))
    have := q t s.toks (Nat.le_refl _)
    rw [show catA [x] = x from Array.append_empty] at this
    exact this
  · subst e3; subst e4
    show wpAny _ _ (forIn [:_] ((#[], []) : JSt) _ >>= _) _ _ s
    clear hP1 hr
    generalize hvs : pv 1 x t :: pv 1 y t' :: vs2 = vs at *
    generalize hxs : x :: y :: r = xs at *
    have hsz : vs.toArray.size = xs.length := by rw [List.size_toArray, hlen]
    rw [hsz]
    refine wpAny_bind (join_loop (xs := xs) _ (fun i st hi hst => ?_) fun tk htk => ?_)
    · refine wpAny_bind (wpAny_seqItems e rfl ?_)
      obtain ⟨u, hu⟩ := hP.get1 hi
      have hx : vs.toArray.getD i .none = .bytes (u8 (xs.getD i #[])) u := by
        rw [Array.getD_eq_getD_getElem?]
        have : vs.toArray[i]? = vs[i]? := by simp
        rw [this, hu]; rfl
      show wpAny _ _ (if (false || st.2.any fun x => x.1.onHeap) = true then _ else _) _ _ s
      have hany : (st.2.any fun x => x.1.onHeap) = false := by
        rw [List.any_eq_false]
        intro p hp
        rw [(hst p hp).1]; exact Bool.false_ne_true
      rw [hany]
      refine wpAny_ite ?_
      rw [if_neg (by simp)]
      refine wpAny_bind (wpAny_holding (wpAny_of_eq (a := some (u8 (xs.getD i #[]), none)) (by rw [hx]; exact take_eq) ?_))
      refine wpAny_bind (wpAny_seqItems e rfl ?_)
      refine wpAny_ite ?_
      rw [if_neg (by rw [hsz]; simp)]
      refine wpAny_pure ⟨rfl, (vs.toArray.getD i .none, none), ⟨?_, rfl⟩, rfl⟩
      rw [hx]; rfl
    · refine wpAny_bind (m := Builtin.Bytes.payload _) (wpAny_of_eq (a := #[]) rfl ?_)
      have hj : Builtin.Bytes.joined #[] (xs.map u8).toArray.toList = u8 (catA xs) := by
        unfold Builtin.Bytes.joined
        rw [joined_go 0, ← u8_cat]
        simp
      have hs1 : (u8 (catA xs)).size ≤ sizeLine := by unfold u8; rw [Array.size_map]; exact hm
      have htl : Builtin.Bytes.tooLong (Array.foldl (fun x1 x2 => x1 + x2.size) ((#[] : Array UInt8).size * ((xs.map u8).toArray.size - 1)) (xs.map u8).toArray) = false := by
        unfold Builtin.Bytes.tooLong
        refine decide_eq_false ?_
        rw [List.foldl_toArray' _ _ _ rfl, fold_sizes]
        have : (#[] : Array UInt8).size * ((xs.map u8).toArray.size - 1) = 0 := Nat.zero_mul _
        lia
      refine wpAny_ite ?_
      rw [if_neg (by rw [htl]; exact Bool.false_ne_true)]
      show wpAny _ _ (mkBytes _ >>= _) _ _ s
      rw [hj]
      refine wpAny_bind (wpAny_mkBytes ?_ hs1)
      refine wpAny_bind (wpAny_holding (wpAny_point ?_))
      refine wpAny_bind (letGo_taken tk htk ?_)
      refine wpAny_pure ⟨_, rfl, ?_⟩
      have := q s.toks (s.toks + 1) (Nat.le_succ _)
      rw [pv1] at this
      exact this
end bytes
end Mine
end

noncomputable section
open PySem PySem.W PyProof.Rows
set_option maxRecDepth 100000
namespace Mine
variable {C : Cx} {k : Nat} {s s' s'' : Shared} {A : Around} {S : Addr → Prop}

noncomputable def SV (kd : Nat) (T : Array Nat) (sv : Value) : Prop := (kd = 0 ∧ ∃ t, sv = .str ⟨T⟩ t) ∨ (kd = 1 ∧ ∃ b t, sv = .bytes b t ∧ T = b.map (·.toNat))

theorem wp_target1 {E : Value → Shared → Prop} {a : Addr} {code : Array Nat} {b : Array UInt8} {t : Tok} {Q : Builtin.Re.ReTarget → Shared → Prop} (P : PatOk C a code 1) (I : Inv C s)
    (q : Q { pattern := .ref a, string := .bytes b t, code := code, text := b.map (·.toNat), kind := 1, groups := 0, pos := 0, lim := (b.map (·.toNat)).size } s) : wpAny (model C.prog C.w) A (Builtin.Re.reWholeTarget (.ref a) (.bytes b t)) Q E s := by
  obtain ⟨o, vs, c, oc, items, n, h1, h2, h3, h4, h5, h6, h7, h8, h9, h10⟩ := P.ok
  unfold Builtin.Re.reWholeTarget
  refine wpAny_bind (wpAny_fieldsOf (I.fr _ _ h1) h4 ?_)
  have e1 : Builtin.Re.reTextOf (.bytes b t) = pure (b.map (·.toNat), 1) := by
    unfold Builtin.Re.reTextOf
    rw [KBy.quiet_eq]; rfl
  refine wpAny_bind (wpAny_of_eq e1 ?_)
  dsimp only
  rw [h6]
  have e2 : Builtin.Re.reNoCollectionInside (.bytes b t) 1 = pure () := by
    unfold Builtin.Re.reNoCollectionInside
    rw [KBy.isInstance_eq]; rfl
  refine wpAny_bind (m := Builtin.Re.reNoCollectionInside (.bytes b t) 1) (wpAny_of_eq (a := ()) e2 ?_)
  rw [h5, h7]
  refine wpAny_bind ?_
  unfold Builtin.Re.reRawItems
  refine wpAny_bind (wpAny_seqItems (I.fr _ _ h8) h9 (wpAny_pure (wpAny_pure ?_)))
  have : (((some items).getD #[]).map Builtin.Re.reRawOf).map (·.toNat) = code := h10
  rw [this]
  exact q
theorem wp_targetS {kd : Nat} {E : Value → Shared → Prop} {a : Addr} {code T : Array Nat} {sv : Value} {Q : Builtin.Re.ReTarget → Shared → Prop} (P : PatOk C a code kd) (hsv : SV kd T sv) (I : Inv C s)
    (q : Q { pattern := .ref a, string := sv, code := code, text := T, kind := kd, groups := 0, pos := 0, lim := T.size } s) : wpAny (model C.prog C.w) A (Builtin.Re.reWholeTarget (.ref a) sv) Q E s := by
  rcases hsv with ⟨rfl, t, rfl⟩ | ⟨rfl, b, t, rfl, rfl⟩
  · exact wp_target (x := ⟨T⟩) P I q
  · exact wp_target1 P I q

theorem look_call_str : typeLookup (.type "str") "__call__" = pure none := by rw [typeLookup_type, builtinLookup_eq_fast]; kernel_rfl
theorem look_call_bytes : typeLookup (.type "bytes") "__call__" = pure none := by rw [typeLookup_type, builtinLookup_eq_fast]; kernel_rfl
theorem special_call {kd : Nat} {r : Array Nat} {u : Tok} : specialOf (pv kd r u) "__call__" = pure none := by
  unfold pv
  split
  · exact look_call_str
  · exact look_call_bytes

theorem named_eq {repl sv : Value} : Builtin.Re.reNamed "re.Pattern.sub" "sub" ["repl", "string", "count"] 2 [repl, sv] [] = pure [some repl, some sv, none] := rfl
theorem wp_sub {kd : Nat} {a : Addr} {T r code : Array Nat} {sv : Value} {u : Tok} {find : Nat → Option (Nat × Nat)} (W : Wf C) (hkd : kd = 0 ∨ kd = 1) (P : PatOk C a code kd) (F : FindOk code T find) (hsv : SV kd T sv) (hT : 2 * T.size + 10 ≤ sizeLine)
    (hr : (kd = 0 ∧ (!r.contains 92) = true) ∨ (kd = 1 ∧ (!(u8 r).contains 92) = true)) (hm : (catA (subFrom find T r (T.size + 1) 0)).size ≤ sizeLine) (I : Inv C s) :
    wpAny (model C.prog C.w) A (call (.builtin "re.Pattern.sub") [.ref a, pv kd r u, sv]) (fun v s' => KB C No s s' ∧ ∃ t', v = pv kd (catA (subFrom find T r (T.size + 1) 0)) t') (fun _ _ => False) s := by
  obtain ⟨o, vs, c, oc, items, n, h1, h2, h3, h4, h5, h6, h7, h8, h9, h10⟩ := id P.ok
  have hty : s.TypeIs (.ref a) "re.Pattern" := ⟨o, I.fr _ _ h1, h2⟩
  refine wpAny_call (codeAny_call_builtin plain_sub entry_sub (slot_sub.check _ _ _ _ _ _ _ _ hty (args_sub_3 _ _ _) ?_))
  show wpAny _ _ (Builtin.Re.reSubstitute "re.Pattern.sub" "sub" false ⟨[.ref a, pv kd r u, sv], []⟩) _ _ s
  unfold Builtin.Re.reSubstitute
  refine wpAny_bind (m := Builtin.Re.reNamed _ _ _ _ _ _) (wpAny_of_eq named_eq ?_)
  refine wpAny_bind (m := specialOf (pv kd r u) "__call__") (wpAny_of_eq special_call ?_)
  have hlit : Builtin.Re.reLiteralCannotBeTurned (pv kd r u) = pure () := by
    unfold Builtin.Re.reLiteralCannotBeTurned
    rcases hkd with rfl | rfl
    · rfl
    · rw [pv1, KBy.isInstance_eq]; rfl
  have tail : ∀ (R : Result → Shared → Prop), (∀ v s', KB C No s s' ∧ (∃ t', v = pv kd (catA (subFrom find T r (T.size + 1) 0)) t') → R (.ok (.ret v)) s') → wpAny (model C.prog C.w) A.in1 (holding [pv kd r u] (Builtin.Re.reWholeTarget (.ref a) sv) >>= fun _ => newList [] >>= fun l => again (.builtin "re.Pattern.sub.loop" ⟨[.ref a, sv, pv kd r u, rawInt 0, rawInt 0, rawInt 0, rawInt 0, rawInt 0, .bool false, l, .bool false], []⟩))
      (fun fin s' => match fin with | .done f => R (.ok f) s' | .again c' => c'.quiet = true ∧ codeAny (model C.prog C.w) A c' R s') (fun e s' => R (.error e) s') s := by
    intro R hR
    refine wpAny_bind (wpAny_holding (wp_targetS P hsv I ?_))
    refine wpAny_bind (wpAny_newList ?_)
    refine wpAny_pure ⟨plainId_quiet plain_subloop _, ?_⟩
    have hL := I.big W
    have k₁ : KB C No s { s with heap := s.heap.push { cls := .type "list", data := .seq ([] : List Value).toArray } } := KB.push (t := s.toks)
    have hl : (s.heap.push { cls := .type "list", data := .seq ([] : List Value).toArray }).PlainList s.heap.objs.size ([] : List Value).toArray := ⟨0, Heap.get?_push_size _ rfl⟩
    have hj : JoinsTo C kd s.heap.objs.size sizeLine := by
      rcases hkd with rfl | rfl
      · exact joins0
      · exact joins1
    have loop := code_subloop (a := a) (sv := sv) (u := u) (r := r) W F hL (by lia) hj (fun {A s E Q} I q => wp_targetS P hsv I q) hlit (fun {A s E st must Q} h q => wp_next (pat := .ref a) (str := sv) F h q) (T.size + 1) 0 A _ 0 false [] [] (subFrom find T r (T.size + 1) 0) (by lia) (Nat.zero_le _) (I.no W k₁) hl .nil (by simp; lia) rfl hm
    refine codeAny_mono loop fun res s' hsub => ?_
    obtain ⟨t', rfl, e2⟩ := hsub
    exact hR _ _ ⟨kb_drop1 (get_size _) (k₁.no.trans e2), t', rfl⟩
  show wpAny _ _ (asStr? (pv kd r u) >>= _) _ _ s
  rcases hr with ⟨hk, hr⟩ | ⟨hk, hr⟩
  · have e : asStr? (pv kd r u) = pure (some ⟨r⟩) := by rw [hk]; rfl
    refine wpAny_bind (wpAny_of_eq e ?_)
    refine wpAny_bind (wpAny_pure ?_)
    show wpAny _ _ (if (!r.contains 92) = true then _ else _) _ _ s
    rw [hr]
    refine wpAny_ite ?_
    rw [if_pos rfl]
    refine wpAny_bind (wpAny_pure ?_)
    exact tail (fun r s' => match r with | .ok (.ret v) => KB C No s s' ∧ ∃ t', v = pv kd _ t' | .ok _ => False | .error e => False) fun v s' h => h
  · have e : asStr? (pv kd r u) = pure none := by rw [hk, pv1]; rfl
    refine wpAny_bind (wpAny_of_eq e ?_)
    refine wpAny_bind (m := Builtin.Bytes.bufferQuiet? _ (pv kd r u)) (wpAny_of_eq (a := some (u8 r)) (by rw [hk, pv1]; exact KBy.quiet_eq) ?_)
    refine wpAny_bind (wpAny_pure ?_)
    show wpAny _ _ (if (!(u8 r).contains 92) = true then _ else _) _ _ s
    rw [hr]
    refine wpAny_ite ?_
    rw [if_pos rfl]
    refine wpAny_bind (wpAny_pure ?_)
    exact tail (fun r s' => match r with | .ok (.ret v) => KB C No s s' ∧ ∃ t', v = pv kd _ t' | .ok _ => False | .error e => False) fun v s' h => h
end Mine
end

noncomputable section
open PySem PySem.W PyProof.Rows
set_option maxRecDepth 100000
namespace Mine
variable {C : Cx} {k : Nat} {s s' s'' : Shared} {A : Around} {S : Addr → Prop}
section codecs
open Builtin Builtin._codecs

theorem find_none {x : Array Nat} {p : Nat → Bool} (h : ∀ c ∈ x.toList, p c = false) : x.findIdx? p = none := by
  rw [Array.findIdx?_eq_none_iff]
  intro c hc
  exact h c (Array.mem_toList_iff.mpr hc)
theorem fold_bytes : ∀ (l : List Nat) (acc : Array UInt8), l.foldl (fun acc y => acc ++ (asciiCodec.bytesOf y).toArray) acc = acc ++ (l.map Nat.toUInt8).toArray
  | [], acc => by simp
  | c :: l, acc => by
    rw [List.foldl_cons, fold_bytes l]
    apply Array.ext'
    simp [asciiCodec]
noncomputable abbrev ESt := Nat × Array UInt8 × Faults
theorem enc_loop {n : Nat} {out : Array UInt8} {st0 : Faults} (f : Nat → ESt → Sem (ForInStep ESt)) (hn : 0 < n) (h1 : f 0 (0, #[], st0) = pure (.yield (n, out, st0))) (h2 : ∀ i, f i (n, out, st0) = pure (.done (n, out, st0))) :
    forIn [:n] ((0, #[], st0) : ESt) f = pure (n, out, st0) := by
  rw [Std.Legacy.Range.forIn_eq_forIn_range']
  have hsz : Std.Legacy.Range.size [:n] = n := by simp [Std.Legacy.Range.size]
  rw [hsz]
  obtain ⟨m, rfl⟩ : ∃ m, n = m + 1 := ⟨n - 1, by lia⟩
  show forIn (List.range' 0 (m + 1) 1) _ f = _
  rw [List.range'_succ, List.forIn_cons, h1]
  cases m with
  | zero => rfl
  | succ m =>
    rw [pure_bind]
    dsimp only
    rw [List.range'_succ, List.forIn_cons, h2]
    rfl
theorem range0 {β : Type} {st : β} {f : Nat → β → Sem (ForInStep β)} : forIn [:0] st f = pure st := by rw [Std.Legacy.Range.forIn_eq_forIn_range']; rfl
theorem encode_narrow {id : String} {self : Value} {x : Str} (h : ∀ c ∈ x.cps.toList, c < 128) (hsz : x.length ≤ sizeLine) : encodeNarrow id asciiCodec none self x = pure (u8 x.cps) := by
  have hbad : ∀ c ∈ x.cps.toList, asciiCodec.bad c = false := fun c hc => by
    show decide (c ≥ 128) = false
    exact decide_eq_false (by have := h c hc; lia)
  unfold encodeNarrow
  show (forIn [:x.length] ((0, #[], {}) : ESt) _ >>= _) = _
  rcases Nat.eq_zero_or_pos x.length with h0 | h0
  · rw [h0]
    have : x.cps = #[] := Array.eq_empty_of_size_eq_zero h0
    rw [this, range0, show u8 #[] = #[] by simp [u8]]
    rfl
  · rw [enc_loop (out := u8 x.cps) _ h0 ?_ ?_]
    · rfl
    · have hx : x.cps[0]? = some x.cps[0] := Array.getElem?_eq_getElem h0
      show (if (#[] : Array UInt8).size > sizeLine then _ else _) = _
      rw [if_neg (by simp)]
      dsimp only
      rw [hx]
      dsimp only
      have hb0 : asciiCodec.bad x.cps[0] = false := hbad _ (Array.mem_toList_iff.mpr (Array.getElem_mem _))
      rw [hb0]
      have e0 : x.cps.extract 0 x.cps.size = x.cps := by simp
      rw [e0, find_none hbad]
      show (if true = true then _ else _) = _
      rw [if_pos rfl]
      simp only [Option.getD_none, Nat.zero_add]
      have e1 : Array.foldl (fun acc y => acc ++ (asciiCodec.bytesOf y).toArray) #[] (x.cps.extract 0 x.cps.size) = u8 x.cps := by
        rw [e0, ← Array.foldl_toList, fold_bytes]
        apply Array.ext'
        simp [u8]
      rw [e1]; rfl
    · intro i
      have hs : (u8 x.cps).size ≤ sizeLine := by unfold u8; rw [Array.size_map]; exact hsz
      show (if (u8 x.cps).size > sizeLine then _ else _) = _
      rw [if_neg (by lia)]
      dsimp only
      have hx : x.cps[x.length]? = none := Array.getElem?_eq_none (Nat.le_refl _)
      rw [hx]
theorem encode_tree2 {x : Str} {t u : Tok} : «str.encode» ⟨[.str x t, .str "ascii" u], []⟩ = (encodeRoad "str.encode" (.str x t) x "ascii" none >>= fun v => ret v) := by kernel_rfl
theorem road_ascii {x : Str} {t : Tok} : encodeRoad "str.encode" (.str x t) x "ascii" none = (encodeNarrow "str.encode" asciiCodec none (.str x t) x >>= fun b => mkBytes b) := by kernel_rfl
theorem wp_encode {x : Str} {t u : Tok} {E : Value → Shared → Prop} {Q : Value → Shared → Prop} (h : ∀ c ∈ x.cps.toList, c < 128) (hsz : x.length ≤ sizeLine) (q : Q (.bytes (u8 x.cps) s.toks) { s with toks := s.toks + 1 }) :
    wpAny (model C.prog C.w) A (call (.builtin "str.encode") [.str x t, .str "ascii" u]) Q E s := by
  refine wpAny_call_entry F.slot_str_encode (typeIs_str _ _ _) F.entry_str_encode ?_ (F.args_str_encode_2 _ _)
  rw [encode_tree2, road_ascii, encode_narrow h hsz]
  refine wpAny_bind (wpAny_bind (wpAny_pure (wpAny_mkBytes (wpAny_pure ⟨_, rfl, q⟩) ?_)))
  unfold u8; rw [Array.size_map]; exact hsz

theorem road_dec {id : String} {b : Array UInt8} : decodeRoad id b "ascii" none [] = (runDecoder id asciiDecoder none true b 0 [] >>= fun r => mkStr ⟨r.1⟩) := by kernel_rfl
theorem dec_entry {c : UInt8} {cs : List UInt8} {t u : Tok} : «bytes.decode» ⟨[.bytes (c :: cs).toArray t, .str "ascii" u], []⟩ = (mkStr (PySem.Str.ofString "utf-8") >>= fun _ => mkStr "ascii" >>= fun e => mkStr (PySem.Str.ofString "bytes.decode") >>= fun d =>
    call (.builtin "_codecs.decode.text") [.bytes (c :: cs).toArray t, e, .none, d] >>= fun v => ret v) := by kernel_rfl
theorem args_bytes_decode_2 (a b : Value) : argsOk "bytes.decode" ⟨[a, b], []⟩ := by unfold argsOk; kernel_rfl
noncomputable abbrev DSt := Nat × Array Nat × Faults
theorem dec_loop {b : Array UInt8} (hsz : b.size ≤ sizeLine) (f : Nat → DSt → Sem (ForInStep DSt)) (hf : ∀ i p out st, p < b.size → out.size ≤ sizeLine → f i (p, out, st) = pure (.yield (p + 1, out ++ #[(b.getD p 0).toNat], st))) (st : Faults) :
    forIn [:b.size] ((0, #[], st) : DSt) f = pure (b.size, b.map (·.toNat), st) := by
  rw [Std.Legacy.Range.forIn_eq_forIn_range']
  have hs : Std.Legacy.Range.size [:b.size] = b.size := by simp [Std.Legacy.Range.size]
  rw [hs]
  show forIn (List.range' 0 b.size 1) _ f = _
  have key : ∀ (m j : Nat), j + m = b.size → forIn (List.range' j m 1) ((j, (b.extract 0 j).map (·.toNat), st) : DSt) f = pure (b.size, b.map (·.toNat), st) := by
    intro m
    induction m with
    | zero =>
      intro j hj
      have : j = b.size := by lia
      subst this
      rw [List.range'_zero, List.forIn_nil]
      rw [show b.extract 0 b.size = b by simp]
    | succ m ih =>
      intro j hj
      rw [List.range'_succ, List.forIn_cons, hf j j _ st (by lia) (by rw [Array.size_map, Array.size_extract]; lia), pure_bind]
      dsimp only
      have e : (b.extract 0 j).map (·.toNat) ++ #[(b.getD j 0).toNat] = (b.extract 0 (j + 1)).map (·.toNat) := by
        have hlt : j < b.size := by lia
        rw [Array.getD_eq_getD_getElem?, Array.getElem?_eq_getElem hlt]
        apply Array.ext'
        simp [List.take_add_one, hlt]
      rw [e]
      exact ih (j + 1) (by lia)
  have := key b.size 0 (by lia)
  rw [show (b.extract 0 0).map (·.toNat) = #[] by simp] at this
  exact this
theorem dec_run {id : String} {b : Array UInt8} (h : ∀ c ∈ b.toList, c.toNat < 128) (hsz : b.size ≤ sizeLine) : runDecoder id asciiDecoder none true b 0 [] = pure (b.map (·.toNat), b.size) := by
  unfold runDecoder
  show (forIn [:b.size] ((0, #[], _) : DSt) _ >>= _) = _
  rw [dec_loop hsz]
  · rfl
  · intro i p out st hp ho
    show (if out.size > sizeLine then _ else _) = _
    rw [if_neg (by lia)]
    dsimp only
    rw [if_neg (by lia)]
    have hc : (b.getD p 0).toNat < 128 := by
      rw [Array.getD_eq_getD_getElem?, Array.getElem?_eq_getElem hp]
      exact h _ (Array.mem_toList_iff.mpr (Array.getElem_mem _))
    have e : asciiDecoder.find true b p = .text [(b.getD p 0).toNat] (p + 1) := by
      show (if (b.getD p 0).toNat < 128 then _ else _) = _
      rw [if_pos hc]; rfl
    rw [e]
theorem meets_text2 {b : Array UInt8} {t t1 t2 : Tok} {d : PySem.Str} (h : ∀ c ∈ b.toList, c.toNat < 128) (hsz : b.size ≤ sizeLine) :
    Meets («_codecs.decode.text» ⟨[.bytes b t, .str "ascii" t1, .none, .str d t2], []⟩) (fun _ R s => R (.ok (.ret (.str ⟨b.map (·.toNat)⟩ s.toks))) { s with toks := s.toks + 1 }) := by
  refine .of_wp fun prog w A R s h1 => ?_
  show wpAny _ _ (Bytes.bytesLike _ (.bytes b t) >>= fun r => _) _ _ s
  refine wpAny_bind (wpAny_of_eq KBd.like_eq ?_)
  refine wpAny_bind (wpAny_of_eq KBd.held_eq ?_)
  show wpAny _ _ (decodeRoad _ b "ascii" none [] >>= fun v => _) _ _ s
  rw [road_dec, dec_run h hsz]
  refine wpAny_bind (wpAny_bind (wpAny_pure ?_))
  exact wpAny_mkStr (wpAny_pure ⟨_, rfl, h1⟩) (by show (b.map (·.toNat)).size ≤ _; rw [Array.size_map]; exact hsz)
theorem wp_decode {b : Array UInt8} {t u : Tok} {E : Value → Shared → Prop} {Q : Value → Shared → Prop} (h : ∀ c ∈ b.toList, c.toNat < 128) (hsz : b.size ≤ sizeLine) (hne : b.size ≠ 0) (q : ∀ t' k, s.toks ≤ k → Q (.str ⟨b.map (·.toNat)⟩ t') { s with toks := k }) :
    wpAny (model C.prog C.w) A (call (.builtin "bytes.decode") [.bytes b t, .str "ascii" u]) Q E s := by
  obtain ⟨l⟩ := b
  cases l with
  | nil => exact absurd rfl hne
  | cons c cs =>
    refine wpAny_call_entry FB.slot_bytes_decode (typeIs_bytes _ _ _) FB.entry_bytes_decode ?_ (args_bytes_decode_2 _ _)
    rw [dec_entry]
    refine wpAny_bind (wpAny_mkStr ?_ (by decide))
    refine wpAny_bind (wpAny_mkStr ?_ (by decide))
    refine wpAny_bind (wpAny_mkStr ?_ (by decide))
    refine wpAny_bind (call_function_meets KBd.kind_text KBd.plain_text KBd.entry_text (KBd.args_text _ _ _ _) (meets_text2 h hsz) ?_)
    exact wpAny_pure ⟨_, rfl, q _ _ (by show s.toks ≤ s.toks + 1 + 1 + 1 + 1; lia)⟩
end codecs
end Mine
end

noncomputable section
open PySem PySem.W PyProof.Rows
set_option maxRecDepth 100000
namespace Mine
variable {C : Cx} {k : Nat} {sc : Scope} {ns : List Str} {fn : Str → Bool} {env : Env} {lo : Nat} {S S' S'' : Addr → Prop} {Γ Γ' : List Sl} {s s' s'' : Shared} {A : Around} {Mu : Addr → Prop} {e : Expr} {d d' : PyData}

noncomputable def EvR (C : Cx) (k : Nat) (sc : Scope) (ns : List Str) (Γ : List Sl) (e : Expr) (P : Value → Prop) : Prop :=
  ∀ A env fn lo S s, Room A k → Inv C s → FrameOk C sc ns fn env lo S Γ s.heap →
    wpAny (model C.prog C.w) A (eval e env) (fun v s' => KB C No s s' ∧ P v) (fun _ _ => False) s
noncomputable def IsStr (x : Array Nat) (v : Value) : Prop := ∃ t, v = .str ⟨x⟩ t
noncomputable def IsOct (b : Array UInt8) (v : Value) : Prop := ∃ t, v = .bytes b t
theorem Ev.toR {x : Str} (h : Ev C k sc ns Γ e (.str x)) : EvR C k sc ns Γ e (IsStr x.cps) := fun A env fn lo S s R I F =>
  wq (h A env fn lo S s R I F) fun v s' ⟨k', r⟩ => ⟨k', r.str_inv⟩
theorem EvR.toEv {x : Str} (h : EvR C k sc ns Γ e (IsStr x.cps)) : Ev C k sc ns Γ e (.str x) := fun A env fn lo S s R I F =>
  wq (h A env fn lo S s R I F) fun v s' ⟨k', t, r⟩ => ⟨k', by subst r; exact .str _ _⟩
theorem EvR.go (W : Wf C) {P : Value → Prop} (x : EvR C k sc ns Γ e P) (r : Room A k) (I : Inv C s) (F : FrameOk C sc ns fn env lo S Γ s.heap) {Q : Value → Shared → Prop} {E : Value → Shared → Prop}
    (q : ∀ v s', KB C No s s' → P v → Inv C s' → FrameOk C sc ns fn env lo S Γ s'.heap → Q v s') : wpAny (model C.prog C.w) A (eval e env) Q E s :=
  wq (x A env fn lo S s r I F) fun v s' ⟨k, p⟩ => q v s' k p (I.no W k) (F.no W k)
theorem Ev.globStr {x : Str} {p : Pos} {y : Str} {t : Tok} (hk : sc.names.lookup x = some .globalImplicit) (hv : C.mg x = some (.str y t)) (hd : (x == ("__debug__" : Str)) = false := by decide) : Ev C k sc ns Γ (.Name x p) (.str y) :=
  fun _ _ _ _ _ _ _ I F => Calls.Name_function_global (by rw [F.scope]; exact F.kind) (by unfold Env.kindOf; rw [F.scope]; exact hk) (Calls.loadGlobal_global (by rw [F.glob]; exact I.g) hv ⟨KB.refl, .str _ _⟩) hd

theorem wp_patCall (W : Wf C) {x : Str} {np apos pos : Pos} {re se : Expr} {kd : Nat} {a : Addr} {T r code : Array Nat} {find : Nat → Option (Nat × Nat)} (hfk : env.scope.kind = .function) (hg : env.globals = mainGlobals) (hk : env.kindOf x = some .globalImplicit) (hv : C.mg x = some (.ref a))
    (hkd : kd = 0 ∨ kd = 1) (P : PatOk C a code kd) (F : FindOk code T find) (hT : 2 * T.size + 10 ≤ sizeLine) (hr : (kd = 0 ∧ (!r.contains 92) = true) ∨ (kd = 1 ∧ (!(u8 r).contains 92) = true)) (hm : (catA (subFrom find T r (T.size + 1) 0)).size ≤ sizeLine) (I : Inv C s)
    (hre : ∀ s₁, KB C No s s₁ → Inv C s₁ → wpAny (model C.prog C.w) A (eval re env) (fun v s₂ => KB C No s₁ s₂ ∧ ∃ u, v = pv kd r u) (fun _ _ => False) s₁)
    (hse : ∀ s₁, KB C No s s₁ → Inv C s₁ → wpAny (model C.prog C.w) A (eval se env) (fun v s₂ => KB C No s₁ s₂ ∧ SV kd T v) (fun _ _ => False) s₁)
    (n1 : isStarred re = false := by rfl) (n2 : isStarred se = false := by rfl) (hline : (apos.endLine == pos.line) = true := by rfl) (hd : (x == ("__debug__" : Str)) = false := by decide) :
    wpAny (model C.prog C.w) A (eval (.Call (.Attribute (.Name x np) "sub" apos) [re, se] [] pos) env) (fun v s' => KB C No s s' ∧ ∃ t', v = pv kd (catA (subFrom find T r (T.size + 1) 0)) t') (fun _ _ => False) s := by
  obtain ⟨o, vs, c, oc, items, n, h1, h2, h3, h4, h5, h6, h7, h8, h9, h10⟩ := id P.ok
  have hst : starEach [re, se] env = [(false, eval re env), (false, eval se env)] := by rw [starEach_cons n1, starEach_cons n2]; rfl
  refine wpAny_Call_method_lateS rfl ?_ hline ?_
  · rw [hst]; rfl
  refine Calls.Name_function_global hfk hk (Calls.loadGlobal_global (by rw [hg]; exact I.g) hv ?_) hd
  refine ⟨"re.Pattern", _, plainAttrs_pat, slot_sub, type_sub, ⟨o, I.fr _ _ h1, h2⟩, fun a' e => by cases e; exact ⟨o, I.fr _ _ h1, h3⟩, ?_⟩
  rw [hst]
  refine Calls.callWith_builtin rfl (Calls.evalArgs_plain ?_)
  show wpAny _ _ (spliced [(false, eval re env), (false, eval se env)]) _ _ s
  refine Calls.spliced_cons (wq (hre s KB.refl I) fun v s₁ ⟨k₁, u, hu⟩ => ?_)
  refine Calls.spliced_cons (wq (hse s₁ k₁ (I.no W k₁)) fun v₂ s₂ ⟨k₂, hs⟩ => ?_)
  refine Calls.spliced_nil ?_
  subst hu
  have I₂ := (I.no W k₁).no W k₂
  exact wq (wp_sub W hkd P F hs hT hr hm I₂) fun v s₃ ⟨k₃, h⟩ => ⟨(k₁.trans k₂).trans k₃, h⟩

theorem EvR.sub (W : Wf C) {x : Str} {np apos pos : Pos} {re se : Expr} {a : Addr} {T r code : Array Nat} {find : Nat → Option (Nat × Nat)} (hk : sc.names.lookup x = some .globalImplicit) (hv : C.mg x = some (.ref a))
    (P : PatOk C a code 0) (F : FindOk code T find) (hre : EvR C k sc ns Γ re (IsStr r)) (hse : EvR C k sc ns Γ se (IsStr T)) (hT : 2 * T.size + 10 ≤ sizeLine) (hr : (!r.contains 92) = true) (hm : (catA (subFrom find T r (T.size + 1) 0)).size ≤ sizeLine)
    (n1 : isStarred re = false := by rfl) (n2 : isStarred se = false := by rfl) (hline : (apos.endLine == pos.line) = true := by rfl) (hd : (x == ("__debug__" : Str)) = false := by decide) :
    EvR C k sc ns Γ (.Call (.Attribute (.Name x np) "sub" apos) [re, se] [] pos) (IsStr (catA (subFrom find T r (T.size + 1) 0))) := fun A env fn lo S s R I Fr =>
  wp_patCall (kd := 0) W (by rw [Fr.scope]; exact Fr.kind) Fr.glob (by unfold Env.kindOf; rw [Fr.scope]; exact hk) hv (.inl rfl) P F hT (.inl ⟨rfl, hr⟩) hm I
    (fun s₁ k₁ I₁ => wq (hre A env fn lo S s₁ R I₁ (Fr.no W k₁)) fun v s₂ ⟨k₂, t, h⟩ => ⟨k₂, t, h⟩)
    (fun s₁ k₁ I₁ => wq (hse A env fn lo S s₁ R I₁ (Fr.no W k₁)) fun v s₂ ⟨k₂, t, h⟩ => ⟨k₂, .inl ⟨rfl, t, h⟩⟩) n1 n2 hline hd

theorem EvR.encode (W : Wf C) {o : Expr} {apos pos p1 : Pos} {k1 : Nat} {x : Array Nat} (ho : EvR C k sc ns Γ o (IsStr x)) (hx : ∀ c ∈ x.toList, c < 128) (hsz : x.size ≤ sizeLine)
    (hline : (apos.endLine == pos.line) = true := by rfl) (hbase : ∀ env : Env, attributeBase o "encode" env (eval o env) = eval o env := by intro _; rfl) :
    EvR C k sc ns Γ (.Call (.Attribute o "encode" apos) [.Constant (.str "ascii") k1 p1] [] pos) (IsOct (u8 x)) := fun A env fn lo S s R I F => by
  refine wpAny_Call_method_lateS (hbase env) rfl hline (ho.go W R I F fun v s₁ k₁ r₁ I₁ F₁ => ?_)
  obtain ⟨t, rfl⟩ := r₁
  refine ⟨"str", _, PySem.F.plainAttrs_str, PySem.F.slot_str_encode, PySem.F.type_str_encode, typeIs_str _ _ _, (fun _ e => nomatch e), Calls.callWith_builtin rfl (Calls.evalArgs_plain ?_)⟩
  refine Calls.spliced_cons (Calls.Constant_str (k := k1) (pos := p1) (Calls.spliced_nil ?_))
  exact wp_encode hx hsz ⟨k₁.toks (by show s₁.toks ≤ s₁.toks + 1 + 1; lia), _, rfl⟩
theorem EvR.decode (W : Wf C) {o : Expr} {apos pos p1 : Pos} {k1 : Nat} {b : Array UInt8} (ho : EvR C k sc ns Γ o (IsOct b)) (hx : ∀ c ∈ b.toList, c.toNat < 128) (hsz : b.size ≤ sizeLine) (hne : b.size ≠ 0)
    (hline : (apos.endLine == pos.line) = true := by rfl) (hbase : ∀ env : Env, attributeBase o "decode" env (eval o env) = eval o env := by intro _; rfl) :
    EvR C k sc ns Γ (.Call (.Attribute o "decode" apos) [.Constant (.str "ascii") k1 p1] [] pos) (IsStr (b.map (·.toNat))) := fun A env fn lo S s R I F => by
  refine wpAny_Call_method_lateS (hbase env) rfl hline (ho.go W R I F fun v s₁ k₁ r₁ I₁ F₁ => ?_)
  obtain ⟨t, rfl⟩ := r₁
  refine ⟨"bytes", _, FB.plainAttrs_bytes, FB.slot_bytes_decode, FB.type_bytes_decode, typeIs_bytes _ _ _, (fun _ e => nomatch e), Calls.callWith_builtin rfl (Calls.evalArgs_plain ?_)⟩
  refine Calls.spliced_cons (Calls.Constant_str (k := k1) (pos := p1) (Calls.spliced_nil ?_))
  exact wp_decode hx hsz hne fun t' kk hk => ⟨k₁.toks (Nat.le_trans (Nat.le_succ _) hk), _, rfl⟩

theorem call_raw (W : Wf C) {fa : Addr} {fd : FuncData} {body : List Stmt} {x : Str} {v : Value} {P : Value → Prop} (D : DefOk C fa fd body [x] [x]) (hl : fd.scope.names.lookup x = some .local) (I : Inv C s) (R : Room A (k + 1))
    (h : ∀ A env s₁, Room A k → Inv C s₁ → env.scope = fd.scope → env.globals = mainGlobals → (∃ m, s₁.heap.Ns env.locals m ∧ m x = some v) → C.base ≤ env.locals → wpAny (model C.prog C.w) A (execs body env) (fun f s' => ∃ v, f = .ret v ∧ KB C No s₁ s' ∧ P v) (fun _ _ => False) s₁) :
    codeAny (model C.prog C.w) A (.call (.ref fa) ⟨[v], []⟩) (fun r s' => ∃ v, r = .ok (.ret v) ∧ KB C No s s' ∧ P v) s := by
  obtain ⟨o, ho, hd⟩ := D.at_
  obtain ⟨c, oc, cvs, t, hc1, hc2, hc3, hc4⟩ := D.code
  refine call_cells (binds := [(x, v)]) (by have := R.depth; lia) (I.fr _ _ ho) hd I.lim ⟨c, oc, cvs, t, hc1, I.fr _ _ hc2, hc3, hc4⟩ D.body (D.bind [v] rfl) D.closure (fun y hy => ?_) (fun s₁ htk X => ?_) D.co D.gen D.kind
  · rw [List.mem_singleton.mp hy]; exact .inl hl
  · have X1 := X.toInCall
    obtain ⟨h', tk, es, hk⟩ := X.done
    have kb : KB C No s s₁ := by rw [es] at htk ⊢; exact KB.grow hk htk
    refine wpAny_mono (h _ _ s₁ (R.deeper _) (I.no W kb) rfl D.glob ⟨_, X1.ns, ?_⟩ (I.big W)) (fun f s' ⟨v, e, k₂, p⟩ => ⟨v, by subst e; rfl, kb.trans k₂, p⟩) fun _ _ z => z.elim
    exact bindL_at (kd := (callEnvC fd s.heap.objs.size fa).kindOf) [x] [v] _ 0 x v (by simp) rfl rfl hl

noncomputable def FnR (C : Cx) (k : Nat) (fa : Addr) (P Q : Value → Prop) : Prop :=
  ∀ A s v, Room A k → Inv C s → P v → codeAny (model C.prog C.w) A (.call (.ref fa) ⟨[v], []⟩) (fun r s' => ∃ v, r = .ok (.ret v) ∧ KB C No s s' ∧ Q v) s
theorem EvR.callR (W : Wf C) {x : Str} {p pos : Pos} {fa : Addr} {ea : Expr} {P Q : Value → Prop} (hk : sc.names.lookup x = some .globalImplicit) (hv : C.mg x = some (.ref fa)) (hf : isFn (C.fr fa) = true)
    (ha : EvR C k sc ns Γ ea P) (h : FnR C k fa P Q) (hst : isStarred ea = false := by rfl) (hd : (x == ("__debug__" : Str)) = false := by decide) : EvR C k sc ns Γ (.Call (.Name x p) [ea] [] pos) Q :=
  fun A env fn lo S s R I F => by
    rw [arm_eval_Call_Name']
    refine wpAny_bind (Calls.Name_function_global (by rw [F.scope]; exact F.kind) (by unfold Env.kindOf; rw [F.scope]; exact hk) (Calls.loadGlobal_global (by rw [F.glob]; exact I.g) hv ?_) hd)
    obtain ⟨o, fd, e1, e2⟩ := isFn_of hf
    refine Calls.callWith_function (o := o) (fd := fd) ?_
    have hs : starEach [ea] env = [(false, eval ea env)] := by rw [starEach_cons hst]; rfl
    rw [hs]
    refine Calls.evalArgs_plain ?_
    show wpAny _ _ (spliced [(false, eval ea env)]) _ _ s
    refine Calls.spliced_cons (ha.go W R I F fun v s₁ k₁ r₁ I₁ F₁ => Calls.spliced_nil ⟨⟨I₁.fr _ _ e1, e2⟩, ?_⟩)
    refine wpAny_call (codeAny_mono (h A s₁ v R I₁ r₁) fun r s₂ hr => ?_)
    obtain ⟨v, rfl, k₂, r₂⟩ := hr
    exact ⟨k₁.trans k₂, r₂⟩
end Mine
end

noncomputable section
open PySem PySem.W PyProof.Rows
open Sem (wp)
set_option maxRecDepth 100000
namespace Mine

section
variable {M : Model} {A : Around} {R : GenEnd} {Y : Protocol} {n : Nat} {s₀ : Shared} {c : Code} {fs : List Frame} {s : Shared} {env : Env} {K : Flow → Sem PySem.Fin} {H : Value → Sem PySem.Fin} {gd : Bool → Bool} {lv : List Value → List Value}

theorem seg_plain {st : Stmt} (h : wpAny M (A.over c fs) (exec st env) (fun f s' => Seg M A R Y n s₀ c (K f) fs s') (fun _ _ => False) s) : Seg M A R Y n s₀ c ((exec st env).wrap K H gd lv) fs s :=
  seg_wrap (wpAny_mono h (fun _ _ x => x) fun _ _ x => x.elim)
theorem seg_If {t : Expr} {b o : List Stmt} {p : Pos} (h : wpAny M (A.over c fs) (isTrue t env (eval t env)) (fun r s' => Seg M A R Y n s₀ c ((if r = true then execs b env else execs o env).wrap K H gd lv) fs s') (fun _ _ => False) s) :
    Seg M A R Y n s₀ c ((exec (.If t b o p) env).wrap K H gd lv) fs s := by
  rw [exec_If]
  show Seg M A R Y n s₀ c (.at p fun _ => (isTrue t env (eval t env) >>= fun r => if r = true then execs b env else execs o env).wrap K H gd lv) fs s
  refine seg_at ?_
  rw [Sem.bind_eq_wrap', Sem.wrap_wrap]
  exact seg_wrap (wpAny_mono h (fun _ _ x => x) fun _ _ x => x.elim)

noncomputable def forBack (K : Flow → Sem PySem.Fin) (H : Value → Sem PySem.Fin) (gd : Bool → Bool) (lv : List Value → List Value) (env : Env) (c : Code) (p : Pos) : Frame :=
  .ret (fun r => ((match r with | .ok f => (.pure f : Sem Flow) | .error e => .raise e).onRaise fun (x : Value) => do
        if (← field x 1) == Value.none then unsupported "frame.own-activation:exception-without-traceback"
        setFlight x env.frame).wrap K H gd lv) none (gd false) (lv []) c p []
theorem seg_For {target iter : Expr} {body orelse : List Stmt} {pos : Pos} (hs : ∀ x, foldedSetIterable iter env x = pure x)
    (h : wpAny M (A.over c fs) (eval iter env) (fun x s₁ => wpAny M (A.over c fs) (pyIter x) (fun it s₂ => ∀ p, Seg M A R Y n s₀ (.forLoop target it body orelse env) (M.den (.forLoop target it body orelse env)) (forBack K H gd lv env c p :: fs) s₂) (fun _ _ => False) s₁) (fun _ _ => False) s) :
    Seg M A R Y n s₀ c ((exec (.For target iter body orelse pos) env).wrap K H gd lv) fs s := by
  rw [exec_For]
  show Seg M A R Y n s₀ c (.at pos fun _ => (eval iter env >>= fun x0 => foldedSetIterable iter env x0 >>= fun x => standAt iter.pos >>= fun _ => holding [x] (pyIter x) >>= fun it => runOwn (.forLoop target it body orelse env) env).wrap K H gd lv) fs s
  refine seg_at ?_
  rw [Sem.bind_eq_wrap', Sem.wrap_wrap]
  refine seg_wrap (wpAny_mono h (fun x s₁ h₁ => ?_) fun _ _ x => x.elim)
  rw [hs, pure_bind]
  show Seg M A R Y n s₀ c (.at iter.pos fun _ => (holding [x] (pyIter x) >>= fun it => runOwn (.forLoop target it body orelse env) env).wrap K H gd lv) fs s₁
  refine seg_at ?_
  rw [Sem.bind_eq_wrap', Sem.wrap_wrap]
  refine seg_wrap (wpAny_holding (wpAny_mono h₁ (fun it s₂ h₂ => ?_) fun _ _ x => x.elim))
  exact seg_call h₂
theorem seg_back {p : Pos} {c₁ : Code} {f : Flow} (h : Seg M A R Y n s₀ c (K f) fs s) : Seg M A R Y n s₀ c₁ (.pure (.done f)) (forBack K H gd lv env c p :: fs) s :=
  seg_leaf (.ok f) h
end

section
variable {prog : Program} {w : World} {A : Around} {R : GenEnd} {Y : Protocol} {n : Nat} {s₀ : Shared} {fs : List Frame} {s : Shared} {env : Env}
noncomputable abbrev forEnd (target : Expr) (it : Value) (body : List Stmt) (env : Env) (f : Flow) : Sem PySem.Fin := match f with
  | .next | .cont => .pure (.again (.forLoop target it body [] env))
  | .brk => .pure (.done .next)
  | .ret v => .pure (.done (.ret v))
noncomputable abbrev forRaise (env : Env) (e : Value) : Sem PySem.Fin := (do noteFrame e env; theTreesLotGoes e : Sem Unit).wrap (fun _ => .raise e) .raise id id
theorem seg_forLoop {target : Expr} {it : Value} {body : List Stmt}
    (h : wpAny (model prog w) (A.over (.forLoop target it body [] env) fs) (pyNext it) (fun r s₁ => match r with
      | none => Seg (model prog w) A R Y n s₀ (.block [] env) (.pure (.done .next)) fs s₁
      | some v => wpAny (model prog w) (A.over (.forLoop target it body [] env) fs) (letOwnedTupleGo target it v) (fun _ s₂ => wpAny (model prog w) (A.over (.forLoop target it body [] env) fs) (assign target env v) (fun _ s₃ =>
          Seg (model prog w) A R Y n s₀ (.forLoop target it body [] env) ((execs body env).wrap (forEnd target it body env) (forRaise env) id id) fs s₃) (fun _ _ => False) s₂) (fun _ _ => False) s₁) (fun _ _ => False) s) :
    Seg (model prog w) A R Y n s₀ (.forLoop target it body [] env) ((model prog w).den (.forLoop target it body [] env)) fs s := by
  show Seg _ A R Y n s₀ _ ((forTurn target it body [] env).onRaise (fun x => do noteFrame x env; theTreesLotGoes x)) fs s
  rw [Sem.onRaise_eq_wrap]
  unfold forTurn
  show Seg _ A R Y n s₀ _ (.at target.pos fun _ => ((pyNext it).onRaise (fun _ => standAt { target.pos with line := 0 }) >>= fun r => _).wrap _ _ _ _) fs s
  refine seg_at ?_
  rw [Sem.bind_eq_wrap', Sem.wrap_wrap]
  refine seg_wrap (wpAny_onRaise (wpAny_mono h (fun r s₁ h₁ => ?_) fun _ _ x => x.elim))
  cases r with
  | none =>
    refine seg_again rfl ?_
    exact h₁
  | some v =>
    show Seg _ A R Y n s₀ _ ((letOwnedTupleGo target it v >>= fun _ => assign target env v >>= fun _ => execs body env >>= fun f => _).wrap _ _ _ _) fs s₁
    rw [Sem.bind_eq_wrap', Sem.wrap_wrap]
    refine seg_wrap (wpAny_mono h₁ (fun _ s₂ h₂ => ?_) fun _ _ x => x.elim)
    rw [Sem.bind_eq_wrap', Sem.wrap_wrap]
    refine seg_wrap (wpAny_mono h₂ (fun _ s₃ h₃ => ?_) fun _ _ x => x.elim)
    rw [Sem.bind_eq_wrap', Sem.wrap_wrap]
    rw [Sem.wrap_congr (execs body env) _ _ (K' := forEnd target it body env) (H' := forRaise env) (fun f => by cases f <;> rfl)
      (fun e => by show (do noteFrame e env; theTreesLotGoes e : Sem Unit).bind (fun _ => .raise e) = _; rw [Sem.bind_eq_wrap])]
    exact h₃
end
end Mine
end

noncomputable section
open PySem PySem.W PyProof.Rows
open Sem (wp)
set_option maxRecDepth 100000
namespace Mine
variable {C : Cx} {k : Nat} {sc : Scope} {ns : List Str} {fn : Str → Bool} {env : Env} {lo : Nat} {S S' S'' : Addr → Prop} {Γ Γ' : List Sl} {s s' s'' : Shared} {A : Around} {Mu : Addr → Prop} {e : Expr} {d d' : PyData}

noncomputable def Old (C : Cx) (s : Shared) (a : Addr) : Prop := C.base ≤ a ∧ ∃ o, s.heap.get? a = some o
noncomputable def KeepFp (fp : List Addr) (s s' : Shared) : Prop := ∀ b ∈ fp, ∀ o, s.heap.get? b = some o → s'.heap.get? b = some o
noncomputable def YG (C : Cx) (fp : List Addr) (L : List PyData) : Protocol := fun m s₀ v s₁ kap =>
  ∃ d, m + 1 ≤ L.length ∧ L[L.length - (m + 1)]? = some d ∧ Rp s₁.heap (Old C s₀) v d ∧ KB C (· ∈ fp) s₀ s₁ ∧ (∀ b ∈ fp, ∃ o, s₁.heap.get? b = some o ∧ ¬ SeqDat o) ∧ ∀ s₂, KeepFp fp s₁ s₂ → Inv C s₂ → kap (.send .none) s₂
noncomputable def EG (C : Cx) (fp : List Addr) : GenEnd := fun n s₀ r s₁ => r = .ok (.ret .none) ∧ (n = 0 ∧ KB C (· ∈ fp) s₀ s₁)

structure ItGen (C : Cx) (A : Around) (S : Addr → Prop) (a : Addr) (g : Nat) (L rem : List PyData) (N0 : Addr → Prop) (s : Shared) : Prop where
  obj : s.heap.IsGen a g
  no : ¬ S a ∧ C.base ≤ a
  drop : rem = L.drop (L.length - rem.length)
  le : rem.length ≤ L.length
  go : ∃ fp gs, s.gens[g]? = some gs ∧ gs.bare = true ∧ (∀ b ∈ fp, ¬ S b ∧ C.base ≤ b ∧ N0 b ∧ ∃ o, s.heap.get? b = some o ∧ ¬ SeqDat o) ∧ a ∉ fp ∧
    ∀ s', KeepFp fp s s' → Inv C s' → ∃ fp', (∀ b ∈ fp', b ∈ fp ∨ (s'.heap.get? b = none ∧ C.base ≤ b)) ∧ gs.Goes (model C.prog C.w) A.in1 (EG C fp') (YG C fp' L) rem.length (.send .none) (s'.setGen g .running)

structure KBG (C : Cx) (g : Nat) (Mu : Addr → Prop) (s s' : Shared) : Prop where
  keep : ∀ b o, s.heap.get? b = some o → ¬ Mu b → ¬ (C.T b ∧ o.cls = .none) → s'.heap.get? b = some o
  tab : TabOk C s.heap → TabOk C s'.heap
  live : ∀ b o, s.heap.get? b = some o → ¬ Mu b → ∃ o', s'.heap.get? b = some o'
  gens : ∀ (g' : Nat) (st : GenState), g' ≠ g → s.gens[g']? = some st → s'.gens[g']? = some st
  gsize : s.gens.size ≤ s'.gens.size
  bare : AllBare s.gens → AllBare s'.gens
  os : s'.os = s.os
  tok : s.toks ≤ s'.toks

theorem setGen_other {g g' : Nat} {x st : GenState} (h : g' ≠ g) (e : s.gens[g']? = some st) : (s.setGen g x).gens[g']? = some st := by
  show (s.gens.setIfInBounds g x)[g']? = _
  rw [Array.getElem?_setIfInBounds_ne (Ne.symm h)]; exact e
theorem setGen_size {g : Nat} {x : GenState} : (s.setGen g x).gens.size = s.gens.size := by show (s.gens.setIfInBounds g x).size = _; exact Array.size_setIfInBounds
theorem setGen_bare {g : Nat} {x : GenState} (h : AllBare s.gens) (hx : x.bare = true) : AllBare (s.setGen g x).gens := fun y hy => by
  have hy : y ∈ s.gens.setIfInBounds g x := hy
  obtain ⟨i, hi, e⟩ := Array.getElem_of_mem hy
  have hi' : i < s.gens.size := by simpa using hi
  rw [Array.getElem_setIfInBounds hi'] at e
  split at e
  · rw [← e]; exact hx
  · rw [← e]; exact h _ (Array.getElem_mem (by simpa using hi))
theorem KBG.of {g : Nat} {x y : GenState} (k : KB C Mu (s.setGen g x) s') (hx : x.bare = true) (hy : y.bare = true) : KBG C g Mu s (s'.setGen g y) :=
  ⟨k.keep, k.tab, k.live, fun g' st hne e => setGen_other hne (k.gens g' st (setGen_other hne e)), by rw [setGen_size]; have := k.gsize; rw [setGen_size] at this; exact this,
    fun h => setGen_bare (k.bare (setGen_bare h hx)) hy, k.os, k.tok⟩
theorem KBG.toKB {g : Nat} (k : KBG C g Mu s s') : ∃ s₁ : Shared, s₁.heap = s'.heap ∧ s₁.toks = s'.toks ∧ KB C Mu s s₁ :=
  ⟨{ s with heap := s'.heap, toks := s'.toks }, rfl, rfl, ⟨k.keep, k.tab, k.live, fun _ _ e => e, Nat.le_refl _, id, rfl, k.tok⟩⟩
theorem Inv.heap {s₁ : Shared} (I : Inv C s₁) (h : s₁.heap = s.heap) (t : s₁.toks ≤ s.toks) : Inv C s := by
  obtain ⟨a, b, c, d, e, f⟩ := I
  rw [h] at a b c d e
  exact ⟨a, b, c, d, e, Nat.le_trans f t⟩
theorem Inv.kbg (W : Wf C) {g : Nat} (I : Inv C s) (k : KBG C g Mu s s') (m : ∀ a, Mu a → C.base ≤ a) : Inv C s' := by
  obtain ⟨s₁, h1, h2, k₁⟩ := k.toKB
  exact (I.kb W k₁ m).heap h1 (Nat.le_of_eq h2)

theorem next_gen {a : Addr} {g n : Nat} {gs : GenState} {P : Nat → Shared → Shared → Prop} {Y : Protocol} {E : Value → Shared → Prop} {Q : Option Value → Shared → Prop} (hh : A.handled = none)
    (hl : s.heap.NoLimit) (hroom : A.depth < recursionLimit) (hg : s.heap.IsGen a g) (hgs : s.gens[g]? = some gs)
    (hgo : gs.Goes (model C.prog C.w) A.in1 (fun n s₀ r s₁ => r = .ok (.ret .none) ∧ P n s₀ s₁) Y n (.send .none) (s.setGen g .running))
    (hY : ∀ v s₁ gs', gs'.bare = true → Y (n - 1) (s.setGen g .running) v s₁ (fun r' s'' => match n with
        | 0 => False
        | m + 1 => gs'.Goes (model C.prog C.w) A.in1 (fun n s₀ r s₁ => r = .ok (.ret .none) ∧ P n s₀ s₁) Y m r' s'') → Q (some v) (s₁.setGen g gs'))
    (hP : ∀ s₁, P n (s.setGen g .running) s₁ → ∀ h', (∀ b o, s₁.heap.get? b = some o → h'.get? b = some o) → Q none { s₁.setGen g .finished with heap := h' }) :
    wpAny (model C.prog C.w) A (pyNext (.ref a)) Q E s := by
  unfold pyNext
  refine wpAny_bind (wpAny_attempt (wpAny_callSpecial?_slot (name := Str.ofString "__next__") hg.typeIs slot_gen_next
    (wpAny_call_entry slot_gen_next hg.typeIs entry_gen_next ?_ (args_gen_next _))))
  show wpAny _ A.in1 (Builtin.Generator.genWake (.ref a) (.send .none)) _ _ s
  unfold Builtin.Generator.genWake
  refine wpAny_bind (wpAny_holding (wpAny_genNumber hg (wpAny_bind (wpAny_genState hgs ?_))))
  cases gs with
  | running => exact hgo.elim
  | finished => exact hgo.elim
  | _ =>
    refine wpAny_bind (wpAny_roomToWake hl hroom ?_)
    show wpAny _ A.in1 (.resume g (.send .none) [] _) _ _ s
    refine wpAny_resumeQ hgs hgo (fun x s₁ hx => ?_) (fun v s₁ gs' hb hv => wpAny_pure ⟨v, rfl, wpAny_pure (hY v s₁ gs' hb hv)⟩)
    obtain ⟨rfl, hp⟩ := hx
    show wpAny _ A.in1 (newExc (.type "StopIteration") [] >>= _) _ _ _
    refine wpAny_bind ?_
    simp only [newExc, newTuple]
    refine wpAny_bind (wpAny_newObj_type ?_ (by size_fits))
    refine wpAny_bind (m := firstArgMember _ _) (wpAny_of_eq (a := Value.none) (by first | rfl | (simp only [firstArgMember]; rfl)) ?_)
    refine wpAny_newObj_type ?_ (by size_fits)
    unfold raiseNew
    refine wpAny_bind (wpAny_bind (wpAny_handled ?_))
    first | rw [show A.in1.handled = none from hh] | rw [hh]
    refine wpAny_throw ?_
    refine wpAny_bind (wpAny_isInstance (T := "StopIteration") (b := true) ⟨_, Heap.get?_push_size _ rfl, rfl⟩ isSubtype_stop ?_)
    exact wpAny_pure (hP s₁ hp _ fun b o hb => Heap.get?_push_of_some _ (Heap.get?_push_of_some _ hb))

theorem KeepFp.refl {fp : List Addr} : KeepFp fp s s := fun _ _ _ e => e
theorem inv_gen {g : Nat} {x : GenState} (I : Inv C s) : Inv C (s.setGen g x) := I.heap (s₁ := s) rfl (Nat.le_refl _)

theorem ItGen.next (W : Wf C) {a : Addr} {g : Nat} {L rem : List PyData} {x : PyData} {N0 : Addr → Prop} (G : ItGen C A S a g L (x :: rem) N0 s) (I : Inv C s) (R : Room A k) (hS : ∀ b, S b → ∃ o, s.heap.get? b = some o) (hSb : ∀ b, S b → C.base ≤ b) (hlive : ∀ b, s.heap.get? b = none → N0 b)
    {Q : Option Value → Shared → Prop} {E : Value → Shared → Prop}
    (q : ∀ (v : Value) (s' : Shared) (fp : List Addr), KBG C g (· ∈ fp) s s' → (∀ b ∈ fp, ¬ S b ∧ C.base ≤ b ∧ N0 b ∧ ∀ o, s.heap.get? b = some o → ¬ SeqDat o) → a ∉ fp → Rp s'.heap S v x → ItGen C A S a g L rem N0 s' → Q (some v) s') : wpAny (model C.prog C.w) A (pyNext (.ref a)) Q E s := by
  obtain ⟨fp, gs, h1, h2, h3, h4, h5⟩ := G.go
  obtain ⟨fp', f1, f2⟩ := h5 s KeepFp.refl I
  have hnew : ∀ b ∈ fp', ¬ S b ∧ C.base ≤ b ∧ N0 b ∧ ∀ o, s.heap.get? b = some o → ¬ SeqDat o := fun b hb => by
    rcases f1 b hb with z | ⟨z, zb⟩
    · obtain ⟨o, e, ns⟩ := (h3 b z).2.2.2
      exact ⟨(h3 b z).1, (h3 b z).2.1, (h3 b z).2.2.1, fun o' e' => by rw [e] at e'; cases e'; exact ns⟩
    · exact ⟨fun y => (by obtain ⟨o, e⟩ := hS b y; rw [z] at e; cases e), zb, hlive b z, fun o e => by rw [z] at e; cases e⟩
  have ha : a ∉ fp' := fun z => by
    rcases f1 a z with y | ⟨y, _⟩
    · exact h4 y
    · obtain ⟨o, _, _, e, _⟩ := G.obj; rw [y] at e; cases e
  refine next_gen R.handled I.lim (by have := R.depth; lia) G.obj h1 f2 (fun v s₁ gs' hb hv => ?_) (fun s₁ hp => ?_)
  · obtain ⟨dd, y1, y2, y3, y4, y5, y6⟩ := hv
    have hx : L[L.length - (rem.length + 1)]? = some x := by
      have := G.drop
      rw [List.length_cons] at this
      have h0 : (L.drop (L.length - (rem.length + 1)))[0]? = some x := by rw [← this]; rfl
      rwa [List.getElem?_drop, Nat.add_zero] at h0
    have y2' : L[L.length - (rem.length + 1)]? = some dd := y2
    rw [hx] at y2'; cases y2'
    have kg : KBG C g (· ∈ fp') s (s₁.setGen g gs') := KBG.of y4 rfl hb
    refine q v _ fp' kg hnew ha (y3.avoid fun b o _ m z => m ⟨hSb b z, hS b z⟩) ⟨?_, G.no, ?_, ?_, fp', gs', ?_, hb, fun b hb' => ⟨(hnew b hb').1, (hnew b hb').2.1, (hnew b hb').2.2.1, y5 b hb'⟩, ha, fun s' hk Is => ⟨fp', fun b hb => .inl hb, y6 (s'.setGen g .running) hk (inv_gen Is)⟩⟩
    · obtain ⟨o, nm, qn, e, c, r⟩ := G.obj
      exact ⟨o, nm, qn, y4.keep a o e ha (fun z => by rw [c] at z; cases z.2), c, r⟩
    · have := G.drop
      rw [List.length_cons] at this
      have h0 := congrArg List.tail this
      rw [List.tail_cons, List.tail_drop] at h0
      rw [h0, List.length_drop]
      congr 1
      have := G.le
      rw [List.length_cons] at this
      lia
    · have := G.le; rw [List.length_cons] at this; lia
    · show (s₁.gens.setIfInBounds g gs')[g]? = _
      have hlt : g < s₁.gens.size := by
        have hz := (Array.getElem?_eq_some_iff.mp h1).1
        have := y4.gsize
        rw [setGen_size] at this; lia
      rw [Array.getElem?_setIfInBounds_self]; simp [hlt]
  · exact absurd hp.1 (by simp)

theorem KBG.grow {g : Nat} {h' : Heap} (k : KBG C g Mu s s') (hk : ∀ b o, s'.heap.get? b = some o → h'.get? b = some o) : KBG C g Mu s { s' with heap := h' } :=
  ⟨fun b o e m t => hk _ _ (k.keep b o e m t), fun q => (k.tab q).keeps hk, fun b o e m => let ⟨o', e'⟩ := k.live b o e m; ⟨o', hk _ _ e'⟩, k.gens, k.gsize, k.bare, k.os, k.tok⟩
theorem ItGen.done (W : Wf C) {a : Addr} {g : Nat} {L : List PyData} {N0 : Addr → Prop} (G : ItGen C A S a g L [] N0 s) (I : Inv C s) (R : Room A k) (hS : ∀ b, S b → ∃ o, s.heap.get? b = some o) (hlive : ∀ b, s.heap.get? b = none → N0 b)
    {Q : Option Value → Shared → Prop} {E : Value → Shared → Prop}
    (q : ∀ (s' : Shared) (fp : List Addr), KBG C g (· ∈ fp) s s' → (∀ b ∈ fp, ¬ S b ∧ C.base ≤ b ∧ N0 b ∧ ∀ o, s.heap.get? b = some o → ¬ SeqDat o) → Q none s') : wpAny (model C.prog C.w) A (pyNext (.ref a)) Q E s := by
  obtain ⟨fp, gs, h1, h2, h3, h4, h5⟩ := G.go
  obtain ⟨fp', f1, f2⟩ := h5 s KeepFp.refl I
  have hnew : ∀ b ∈ fp', ¬ S b ∧ C.base ≤ b ∧ N0 b ∧ ∀ o, s.heap.get? b = some o → ¬ SeqDat o := fun b hb => by
    rcases f1 b hb with z | ⟨z, zb⟩
    · obtain ⟨o, e, ns⟩ := (h3 b z).2.2.2
      exact ⟨(h3 b z).1, (h3 b z).2.1, (h3 b z).2.2.1, fun o' e' => by rw [e] at e'; cases e'; exact ns⟩
    · exact ⟨fun y => (by obtain ⟨o, e⟩ := hS b y; rw [z] at e; cases e), zb, hlive b z, fun o e => by rw [z] at e; cases e⟩
  refine next_gen R.handled I.lim (by have := R.depth; lia) G.obj h1 f2 (fun v s₁ gs' hb hv => ?_) (fun s₁ hp h' hk => ?_)
  · obtain ⟨dd, y1, y2, y3, y4, y5, y6⟩ := hv
    exact (y6 s₁ KeepFp.refl ((inv_gen I).kb W y4 fun b hb => (hnew b hb).2.1)).elim
  · exact q _ fp' ((KBG.of (y := .finished) hp.2 rfl rfl).grow hk) hnew

noncomputable def SrcG (C : Cx) (k : Nat) (sc : Scope) (ns : List Str) (Γ : List Sl) (e : Expr) (L : List PyData) : Prop :=
  ∀ A env fn lo S s, Room A k → Inv C s → FrameOk C sc ns fn env lo S Γ s.heap →
    wpAny (model C.prog C.w) A (eval e env) (fun x s₁ => ∃ a g, x = .ref a ∧ KB C No s s₁ ∧ s.heap.get? a = none ∧ s.gens.size ≤ g ∧ ItGen C A S a g L L (fun b => s.heap.get? b = none) s₁) (fun _ _ => False) s

theorem FrameOk.kbg (W : Wf C) {g : Nat} (F : FrameOk C sc ns fn env lo S Γ s.heap) (I : Inv C s) (k : KBG C g Mu s s') (m : ∀ b, Mu b → ¬ S b ∧ (∀ ob, s.heap.get? b = some ob → ¬ SeqDat ob)) : FrameOk C sc ns fn env lo S Γ s'.heap :=
  F.keepD fun b ob e z => k.keep b ob e (fun q => by
    obtain ⟨m1, m2⟩ := m b q
    rcases z with z | z
    · exact m1 z
    · exact m2 ob e z) fun q => by
    rcases z with z | ⟨xs, n, z⟩
    · exact absurd (W.tlt _ q.1) (Nat.not_lt.mpr (F.bs _ z))
    · rcases I.tab b q.1 with y | ⟨_, y, _⟩ <;> (rw [e] at y; cases y; cases z)

theorem ItGen.kb {a : Addr} {g : Nat} {L rem : List PyData} {N0 : Addr → Prop} (G : ItGen C A S a g L rem N0 s) (k : KB C (MuOf lo S) s s') (e : SExt s.heap lo S S') (W : Wf C) : ItGen C A S' a g L rem N0 s' := by
  obtain ⟨fp, gs, h1, h2, h3, h4, h5⟩ := G.go
  have hno : ∀ b, ¬ S b → (∃ o, s.heap.get? b = some o) → ¬ S' b := fun b m ⟨o, q⟩ z => by
    rcases e.new b z with y | y
    · exact m y
    · rw [q] at y; cases y
  have hk : KeepFp fp s s' := fun b hb o q => k.keep b o q (fun z => (h3 b hb).1 z.1) fun z => absurd (W.tlt _ z.1) (Nat.not_lt.mpr (h3 b hb).2.1)
  obtain ⟨o, nm, qn, ea, ca, ra⟩ := G.obj
  refine ⟨⟨o, nm, qn, k.keep a o ea (fun z => G.no.1 z.1) (fun z => by rw [ca] at z; cases z.2), ca, ra⟩, ⟨hno a G.no.1 ⟨o, ea⟩, G.no.2⟩, G.drop, G.le, fp, gs, k.gens g gs h1, h2, fun b hb => ?_, h4, fun s'' hk2 I2 => h5 s'' (fun b hb o q => hk2 b hb o (hk b hb o q)) I2⟩
  obtain ⟨m1, m2, m3, o, m4, m5⟩ := h3 b hb
  exact ⟨hno b m1 ⟨o, m4⟩, m2, m3, o, hk b hb o m4, m5⟩

theorem letGen {target : Expr} {a : Addr} {g : Nat} {v : Value} (x : s.heap.IsGen a g) {Q : Unit → Shared → Prop} {E : Value → Shared → Prop} (q : Q () s) : wpAny (model C.prog C.w) A (letOwnedTupleGo target (.ref a) v) Q E s := by
  obtain ⟨o, nm, qn, e, c, _⟩ := x
  exact letOwned ⟨o, "generator", e, c, rfl, rfl⟩ q

theorem ItGen.weak {a : Addr} {g : Nat} {L rem : List PyData} {N0 N1 : Addr → Prop} (G : ItGen C A S a g L rem N0 s) (h : ∀ b, N0 b → N1 b) : ItGen C A S a g L rem N1 s := by
  obtain ⟨fp, gs, h1, h2, h3, h4, h5⟩ := G.go
  exact ⟨G.obj, G.no, G.drop, G.le, fp, gs, h1, h2, fun b hb => ⟨(h3 b hb).1, (h3 b hb).2.1, h _ (h3 b hb).2.2.1, (h3 b hb).2.2.2⟩, h4, h5⟩

theorem Ex.forGen (W : Wf C) {target iter : Expr} {body rest : List Stmt} {p : Pos} {L : List PyData} {Q : Out → Prop} (hsrc : SrcG C k sc ns Γ iter L) (J : List PyData → List Sl → Prop) (h0 : J L Γ)
    (turn : ∀ x rem Γ₁, J (x :: rem) Γ₁ → ∃ Γ₂, AsgOk C k allW sc ns target x Γ₁ Γ₂ ∧ Ex C k sc ns Γ₂ body (Loop (J rem) Q))
    (fin : ∀ Γ₁, J [] Γ₁ → Ex C k sc ns Γ₁ rest Q) (hs : ∀ (env : Env) x, foldedSetIterable iter env x = pure x := by intro _ _; rfl) : Ex C k sc ns Γ (.For target iter body [] p :: rest) Q :=
  .cons W fun A env lo S s R I F => wpAny_For (wq (hsrc A env allW lo S s R I F) fun x s₁ h₁ => by
    obtain ⟨a, g, rfl, k₁, ha, hg, G⟩ := h₁
    refine wpAny_pyIter_gen G.obj ?_
    refine codeAny_mono (R := fun r s' => match r with | .ok f => ∃ out, Then C k sc ns rest Q out ∧ KB C (MuOf lo S) s s' ∧ OutOk C sc ns env lo S s.heap s' f out | .error e => False) ?_ (fun r s' h => by cases r with | ok f => exact h | error e => exact h.elim)
    have live : ∀ {s₁ : Shared}, KB C (MuOf lo S) s s₁ → ∀ b, s₁.heap.get? b = none → ∀ o, s.heap.get? b = some o → MuOf lo S b := fun {s₁} k₁ b q o e => by
      by_cases m : MuOf lo S b
      · exact m
      · obtain ⟨o', e'⟩ := k₁.live b o e m
        rw [q] at e'; cases e'
    refine codeAny_forLoop' (I := fun n s₁ => ∃ rem Γ₁ S₁, n = rem.length ∧ J rem Γ₁ ∧ KB C (MuOf lo S) s s₁ ∧ SExt s.heap lo S S₁ ∧ FrameOk C sc ns allW env lo S₁ Γ₁ s₁.heap ∧ Inv C s₁ ∧ ItGen C A S₁ a g L rem (fun b => ∀ o, s.heap.get? b = some o → MuOf lo S b) s₁) ?_ L.length
      ⟨L, Γ, S, rfl, h0, k₁.no, SExt.refl, F.no W k₁, I.no W k₁, G.weak fun b q o e => by rw [q] at e; cases e⟩
    rintro n s₁ ⟨rem, Γ₁, S₁, rfl, hj, k₁, e₁, F₁, I₁, G₁⟩
    have after : ∀ {s₂ : Shared} {fp : List Addr}, KBG C g (· ∈ fp) s₁ s₂ → (∀ b ∈ fp, ¬ S₁ b ∧ C.base ≤ b ∧ (∀ o, s.heap.get? b = some o → MuOf lo S b) ∧ ∀ o, s₁.heap.get? b = some o → ¬ SeqDat o) → KB C (MuOf lo S) s s₂ := fun {s₂ fp} kg hfp =>
      ⟨fun b o e m t => kg.keep b o (k₁.keep b o e m t) (fun z => m ((hfp b z).2.2.1 o e)) t, fun q => kg.tab (k₁.tab q), fun b o e m => let ⟨o', e'⟩ := k₁.live b o e m; kg.live b o' e' fun z => m ((hfp b z).2.2.1 o e),
        fun g' st e => kg.gens g' st (fun z => by
          have hlt : g' < s.gens.size := (Array.getElem?_eq_some_iff.mp e).1
          lia) (k₁.gens g' st e), Nat.le_trans k₁.gsize kg.gsize, fun q => kg.bare (k₁.bare q), kg.os.trans k₁.os, Nat.le_trans k₁.tok kg.tok⟩
    cases rem with
    | nil =>
      refine G₁.done W I₁ R F₁.bd (live k₁) fun s₂ fp kg hfp => ?_
      exact wpAny_execs_nil ⟨.next Γ₁, fin Γ₁ hj, after kg hfp, S₁, e₁, F₁.kbg W I₁ kg fun b hb => ⟨(hfp b hb).1, (hfp b hb).2.2.2⟩⟩
    | cons x rem =>
      obtain ⟨Γ₂, hasg, hbd⟩ := turn x rem Γ₁ hj
      refine G₁.next W I₁ R F₁.bd F₁.bs (live k₁) fun v s₂ fp kg hfp hafp r₂ G₂ => ?_
      have k₂ := after kg hfp
      have F₂ := F₁.kbg W I₁ kg fun b hb => ⟨(hfp b hb).1, (hfp b hb).2.2.2⟩
      have I₂ := I₁.kbg W kg fun b hb => (hfp b hb).2.1
      refine letGen G₂.obj (wq (hasg A env lo S₁ s₂ v R I₂ F₂ r₂) fun _ s₃ ⟨k₃, F₃⟩ => ?_)
      have k₁₃ : KB C (MuOf lo S) s s₃ := k₂.join e₁ k₃
      have I₃ := F₂.inv W I₂ k₃
      have G₃ := G₂.kb k₃ SExt.refl W
      refine wq (hbd A env lo S₁ s₃ R I₃ F₃) fun f s₄ ⟨out, hq, k₄, ho₄⟩ => ?_
      have k₁₄ : KB C (MuOf lo S) s s₄ := k₁₃.join e₁ k₄
      cases f with
      | next =>
        cases out with
        | ret d => exact ho₄.elim
        | next Γ₃ =>
          obtain ⟨S₂, e₂, F₄⟩ := ho₄
          exact ⟨rem.length, by simp, rem, Γ₃, S₂, rfl, hq, k₁₄, e₁.join k₁₃ (fun a z => z.1) e₂, F₄, F₃.inv W I₃ k₄, G₃.kb k₄ e₂ W⟩
      | ret v =>
        cases out with
        | next => exact ho₄.elim
        | ret d => exact ⟨.ret d, hq, k₁₄, Rp.avoid (fun b o q m z => m ⟨e₁.low b z.1 z.2, z.2⟩) ho₄⟩
      | brk => cases out <;> exact ho₄.elim
      | cont => cases out <;> exact ho₄.elim) (hs env)
end Mine
end

noncomputable section
open PySem PySem.W PyProof.Rows
open Sem (wp)
set_option maxRecDepth 100000
namespace Mine
variable {C : Cx} {k : Nat} {sc : Scope} {ns : List Str} {fn : Str → Bool} {env : Env} {lo : Nat} {S S' S'' : Addr → Prop} {Γ Γ' : List Sl} {s s' s'' : Shared} {A : Around} {Mu : Addr → Prop} {e : Expr} {d d' : PyData}

noncomputable def scal : Sl → Bool
  | .v (.int _) | .v (.bool _) | .v (.str _) | .v .none | .un => true
  | _ => false
theorem scal_slot {h h' : Heap} {lo' : Nat} {sl : Sl} {vo : Option Value} (hs : scal sl = true) (x : SlotAt h lo S sl vo) : SlotAt h' lo' S' sl vo := by
  cases sl with
  | un => trivial
  | own => cases hs
  | v d =>
    obtain ⟨v, e, r⟩ := x
    refine ⟨v, e, ?_⟩
    cases r with
    | none => exact .none
    | bool b => exact .bool b
    | int i t => exact .int i t
    | str x t => exact .str x t
    | list => cases hs
    | tuple => cases hs
theorem scal_get {i : Nat} (hΓ : Γ.all scal = true) : scal (Γ.getD i .un) = true := by
  rw [List.getD_eq_getElem?_getD]
  cases h : Γ[i]? with
  | none => rfl
  | some y => exact List.all_eq_true.mp hΓ y (List.mem_of_getElem? h)
structure SFr (C : Cx) (sc : Scope) (ns : List Str) (env : Env) (Γ : List Sl) (h : Heap) : Prop where
  fr : FrameOk C sc ns allW env env.locals (· = env.locals) Γ h
  sc : Γ.all scal = true
theorem SFr.nocell {h : Heap} (F : SFr C sc ns env Γ h) (x : Str) (c : Addr) : env.cells.lookup x ≠ some c := fun z => by
  have e : c = env.locals := F.fr.celS x c z
  obtain ⟨vo, o, eo, dd⟩ := F.fr.celC x c z
  obtain ⟨m, ⟨o', es, n, e', d', _⟩, _⟩ := F.fr.loc
  rw [e, e'] at eo; cases eo
  rw [d'] at dd; cases dd
theorem SFr.at {h h' : Heap} (F : SFr C sc ns env Γ h) (hk : ∀ o, h.get? env.locals = some o → h'.get? env.locals = some o) : SFr C sc ns env Γ h' := by
  obtain ⟨F, hΓ⟩ := F
  have nc := SFr.nocell ⟨F, hΓ⟩
  obtain ⟨m, ⟨o, es, n, e, r⟩, hl⟩ := F.loc
  refine ⟨⟨F.scope, F.kind, F.glob, F.blt, F.nd, ⟨m, ⟨o, es, n, hk _ e, r⟩, fun i x hx hlx => scal_slot (scal_get hΓ) (hl i x hx hlx)⟩, fun i x hx hlx => ?_, fun x y c h1 _ => absurd h1 (nc x c), F.locS, fun x c h => absurd h (nc x c), fun x c h => absurd h (nc x c), fun x c _ h => absurd h (nc x c), fun a z => ⟨o, z ▸ hk _ e⟩, F.bs, F.nofree, F.lob, F.one⟩, hΓ⟩
  obtain ⟨_, c, vo, h2, _⟩ := F.cel i x hx hlx
  exact absurd h2 (nc x c)
theorem SFr.wide {h : Heap} (F : SFr C sc ns env Γ h) (hS : S env.locals) (hb : ∀ a, S a → C.base ≤ a) (hl : Live h S) : FrameOk C sc ns allW env env.locals S Γ h := by
  obtain ⟨F, hΓ⟩ := F
  have nc := SFr.nocell ⟨F, hΓ⟩
  obtain ⟨m, hn, hl'⟩ := F.loc
  refine ⟨F.scope, F.kind, F.glob, F.blt, F.nd, ⟨m, hn, fun i x hx hlx => scal_slot (scal_get hΓ) (hl' i x hx hlx)⟩, fun i x hx hlx => ?_, fun x y c h1 _ => absurd h1 (nc x c), ⟨hS, Nat.le_refl _⟩, fun x c h => absurd h (nc x c), fun x c h => absurd h (nc x c), fun x c _ h => absurd h (nc x c), hl, hb, F.nofree, F.lob, F.one⟩
  obtain ⟨_, c, vo, h2, _⟩ := F.cel i x hx hlx
  exact absurd h2 (nc x c)
theorem SFr.no (W : Wf C) (F : SFr C sc ns env Γ s.heap) (k : KB C No s s') : SFr C sc ns env Γ s'.heap := ⟨F.fr.no W k, F.sc⟩
theorem SFr.base {h : Heap} (F : SFr C sc ns env Γ h) : C.base ≤ env.locals := F.fr.bs _ rfl
theorem kb_loc (k : KB C (MuOf env.locals (· = env.locals)) s s') : KB C (· = env.locals) s s' := k.mono fun a z => z.1

theorem SFr.assign (W : Wf C) {x : Str} {p' p : Pos} {val : Expr} (i : Nat) (F : SFr C sc ns env Γ s.heap) (R : Room A k) (I : Inv C s) (hev : Ev C k sc ns Γ val d) (hd : scal (.v d) = true) {Q : Flow → Shared → Prop} {E : Value → Shared → Prop}
    (q : ∀ s', KB C (· = env.locals) s s' → Inv C s' → SFr C sc ns env (Γ.set i (.v d)) s'.heap → Q .next s') (hx : ns[i]? = some x := by rfl) (hi : i < Γ.length := by exact of_decide_eq_true rfl)
    (hs : ∀ env : Env, swapsWith val (some (.Name x p')) p.line env = pure false := by intro _; rfl) : wpAny (model C.prog C.w) A (exec (.Assign [.Name x p'] val p) env) Q E s :=
  wpAny_Assign_Name (hev.go W R I F.fr fun v s₁ k₁ r₁ I₁ F₁ => frame_storeV W F₁ hx (.inl rfl) hi r₁ fun s₂ k₂ F₂ => q s₂ (k₁.no.trans (kb_loc k₂)) (F₁.inv W I₁ k₂) ⟨F₂, by
    rw [List.all_eq_true]
    intro y hy
    rcases List.mem_or_eq_of_mem_set hy with h | h
    · exact List.all_eq_true.mp F.sc y h
    · rw [h]; exact hd⟩) (hs env)

structure DefG (C : Cx) (fa : Addr) (fd : FuncData) (body : List Stmt) (ps ns : List Str) : Prop where
  at_ : ∃ o, C.fr fa = some o ∧ o.data = .func fd
  body : fd.body = .stmts body
  closure : fd.closure = []
  glob : fd.globals = mainGlobals
  blt : fd.builtins = builtinsNs
  code : ∃ c o vs t, fd.code = .ref c ∧ C.fr c = some o ∧ o.data = .fields vs ∧ vs[1]? = some (.str fd.qualname t)
  bind : ∀ vals : List Value, vals.length = ps.length → bindArgs fd ⟨vals, []⟩ = pure (ps.zip vals)
  kind : fd.scope.kind = .function
  co : fd.scope.isCoroutine = false
  gen : fd.scope.isGenerator = true
  nd : ns.Nodup
  pre : ps = ns.take ps.length
  kinds : ∀ x ∈ ns, fd.scope.names.lookup x = some .local
  nocell : ∀ x ∈ fd.scope.names, x.2 ≠ .cell

theorem cellsFrom_none : ∀ (names : List (Str × NameKind)) (n : Nat) (acc : List (Str × Addr)), (∀ x ∈ names, x.2 ≠ .cell) → cellsFrom n names acc = acc
  | [], _, _, _ => rfl
  | (x, kd) :: r, n, acc, h => by
    unfold cellsFrom
    rw [if_neg (by
      have := h (x, kd) (.head _)
      intro z
      exact this (eq_of_beq z))]
    exact cellsFrom_none r n acc fun y hy => h y (.tail _ hy)

theorem call_gen (W : Wf C) {fa : Addr} {fd : FuncData} {body : List Stmt} {x : Str} {v : Value} {m : Nat} (D : DefG C fa fd body [x] ns) (I : Inv C s) (R : Room A (k + 1)) (hd : scal (.v d) = true) (hv : ∀ h S, Rp h S v d) {RR : Result → Shared → Prop}
    (h : ∀ s₂ : Shared, KB C No s s₂ → s₂.gens = s.gens → s.heap.get? (callEnvC fd s.heap.objs.size fa).locals = none → SFr C fd.scope ns (callEnvC fd s.heap.objs.size fa) (.v d :: List.replicate m .un) s₂.heap →
      RR (.ok (.ret (.ref s₂.heap.objs.size))) { s₂ with gens := s₂.gens.push (.fresh (.func body (callEnvC fd s.heap.objs.size fa))), toks := s₂.toks + 1 + 1, heap := s₂.heap.push { cls := .type "generator", data := .fields #[.int s₂.gens.size 0, .str fd.name s₂.toks, .str fd.qualname (s₂.toks + 1)] } }) :
    codeAny (model C.prog C.w) A (.call (.ref fa) ⟨[v], []⟩) RR s := by
  obtain ⟨o, ho, hdat⟩ := D.at_
  obtain ⟨c, oc, cvs, t, hc1, hc2, hc3, hc4⟩ := D.code
  have hx0 : ns[0]? = some x := by
    have := D.pre
    cases ns with
    | nil => cases this
    | cons y r => simp at this; rw [this]; rfl
  have hxl : fd.scope.names.lookup x = some .local := D.kinds x (List.mem_of_getElem? hx0)
  refine codeAny_call_generator (by have := R.depth; lia) (I.fr _ _ ho) hdat D.co D.gen D.body ⟨c, oc, cvs, t, hc1, I.fr _ _ hc2, hc3, hc4⟩ ?_
  rw [D.bind [v] rfl, D.closure]
  refine wpAny_pure (wpAny_mono (wpAny_toks_of (Nat.le_refl s.toks) (wpAny_newFunctionEnv_cells (E := fun _ _ => False) (Q := fun env s₂ => env = callEnvC fd s.heap.objs.size fa ∧ InCallC s env.locals (bindL env.kindOf [(x, v)] fun _ => .none) env.cells (bindC env.kindOf [(x, v)] fun _ => .none) s₂) D.kind (fun y hy => ?_) fun env he s' X => ⟨he, X⟩)) (fun env s₂ z => ?_) fun _ _ z => z.2.elim)
  · rw [List.mem_singleton.mp hy]; exact .inl hxl
  · obtain ⟨htk, rfl, X⟩ := z
    have X1 := X.toInCall
    obtain ⟨h', tk, es, hk⟩ := X.done
    have kb : KB C No s s₂ := by rw [es] at htk ⊢; exact KB.grow hk htk
    have hcl : (callEnvC fd s.heap.objs.size fa).cells = [] := cellsFrom_none _ _ _ D.nocell
    have hno : ∀ y c, (callEnvC fd s.heap.objs.size fa).cells.lookup y ≠ some c := fun y c z => by rw [hcl] at z; cases z
    refine ⟨(I.no W kb).lim, h s₂ kb (by rw [es]) (get_size _) ⟨?_, ?_⟩⟩
    · refine ⟨rfl, D.kind, D.glob, D.blt, D.nd, ⟨_, X1.ns, fun i y hy hly => ?_⟩, fun i y hy hly => absurd (D.kinds y (List.mem_of_getElem? hy)) hly, fun y z c h1 _ => absurd h1 (hno y c), ⟨rfl, Nat.le_refl _⟩, fun y c h => absurd h (hno y c), fun y c h => absurd h (hno y c), fun y c _ h => absurd h (hno y c), fun a z => ?_, fun a z => ?_, fun y hy _ z => ?_, I.big W, fun i j xs ys h1 h2 => ?_⟩
      · cases i with
        | zero =>
          rw [hx0] at hy; cases hy
          exact ⟨v, bindL_at (kd := (callEnvC fd s.heap.objs.size fa).kindOf) [x] [v] _ 0 x v (by simp) rfl rfl hxl, hv _ _⟩
        | succ i =>
          have : (Sl.v d :: List.replicate m Sl.un).getD (i + 1) .un = .un := by
            rw [List.getD_eq_getElem?_getD, List.getElem?_cons_succ, List.getElem?_replicate]
            split <;> rfl
          rw [this]; trivial
      · obtain ⟨o, _, _, e, _⟩ := X1.ns; exact ⟨o, z ▸ e⟩
      · exact z ▸ I.big W
      · rw [D.kinds y hy] at z; cases z
      · exfalso
        rcases List.mem_cons.mp (List.mem_of_getElem? h1) with w | w
        · cases w
        · cases (List.mem_replicate.mp w).2
    · rw [List.all_cons, hd, Bool.true_and, List.all_eq_true]
      intro y hy; rw [(List.mem_replicate.mp hy).2]; rfl
end Mine
end

noncomputable section
open PySem PySem.W PyProof.Rows
open Sem (wp)
set_option maxRecDepth 100000
namespace Mine
variable {C : Cx} {k : Nat} {sc : Scope} {ns : List Str} {fn : Str → Bool} {env : Env} {lo : Nat} {S S' S'' : Addr → Prop} {Γ Γ' : List Sl} {s s' s'' : Shared} {A : Around} {Mu : Addr → Prop} {e : Expr} {d d' : PyData}

noncomputable def escItems : List Nat → Nat → Bool → List PyData
  | [], i, e => if e then [.tuple [.int ((i : Int) - 1), .str "\\"]] else []
  | c :: cs, i, true => .tuple [.int i, .str ("\\" ++ ⟨#[c]⟩)] :: escItems cs (i + 1) false
  | c :: cs, i, false => if c == 92 then escItems cs (i + 1) true else .tuple [.int i, .str ⟨#[c]⟩] :: escItems cs (i + 1) false
theorem escItems_t {c i : Nat} {cs : List Nat} : escItems (c :: cs) i true = .tuple [.int i, .str ("\\" ++ ⟨#[c]⟩)] :: escItems cs (i + 1) false := rfl
theorem escItems_f {c i : Nat} {cs : List Nat} : escItems (c :: cs) i false = if c == 92 then escItems cs (i + 1) true else .tuple [.int i, .str ⟨#[c]⟩] :: escItems cs (i + 1) false := rfl

noncomputable def EnumSt (x : Str) (t : Tok) (en it : Addr) (i : Nat) (h : Heap) : Prop := (∃ old, IsEnum h en it i old) ∧ h.IsStrIter it (strIterType x) x t i
theorem walk_enum {x : Str} {t : Tok} {en it : Addr} (hh : A.handled = none) (hne : en ≠ it) :
    WalksT C.prog C.w A en [en, it] [en, it] x.cps.size (fun i vals => ∃ tk y, (∃ c u, x.cps[i]? = some c ∧ y = Value.str ⟨#[c]⟩ u) ∧ vals = #[.int i tk, y]) (EnumSt x t en it)
      (fun i T h => (∃ y, IsEnumOut h en it ((i : Int) + 1) y T) ∧ h.IsStrIter it (strIterType x) x t (i + 1) ∧ T ≠ en ∧ T ≠ it) := by
  unfold EnumSt
  have hne' : en ∉ [it] := by simpa using hne
  cases ha : x.cps.all (· < 128)
  · have e1 : strIterType x = "str_iterator" := by simp [strIterType, ha]
    rw [e1]
    exact WalksT.enumerateD (Draws.strWide (A := A.in1) hh it x t) en hne hne' (by simp)
  · have e1 : strIterType x = "str_ascii_iterator" := by simp [strIterType, ha]
    rw [e1]
    exact WalksT.enumerateD (Draws.strAscii (A := A.in1) hh it x t) en hne hne' (by simp)
theorem EnumSt.live {x : Str} {t : Tok} {en it : Addr} {i : Nat} {h : Heap} (E : EnumSt x t en it i h) : (∃ o, h.get? en = some o ∧ ¬ SeqDat o) ∧ (∃ o, h.get? it = some o ∧ ¬ SeqDat o) := by
  obtain ⟨⟨old, e⟩, o, e2, c, dd⟩ := E
  refine ⟨⟨_, e, ?_⟩, o, e2, ?_⟩
  · rintro ⟨xs, n, z⟩; cases z
  · rintro ⟨xs, n, z⟩; rw [dd] at z; cases z

theorem room_func {body : List Stmt} {env : Env} (R : Room A (k + 1)) : Room (A.in1.over (.func body env) []) k := by
  have h1 := R.depth
  have h2 := R.units
  refine ⟨?_, ?_, R.handled⟩
  · have e : (A.in1.over (.func body env) []).depth = A.in1.depth + frameCount [] + Code.weight (.func body env) := rfl
    have e2 : frameCount [] = 0 := rfl
    have e3 : Code.weight (.func body env) = 1 := rfl
    have e4 : A.in1.depth = A.depth := rfl
    lia
  · have e : (A.in1.over (.func body env) []).units = A.in1.units + unitsOf [] + Code.cUnits (.func body env) := rfl
    have e2 : unitsOf [] = 0 := rfl
    have e3 : Code.cUnits (.func body env) = 3 := rfl
    have e4 : A.in1.units ≤ A.units + 4 := by show A.units + _ ≤ A.units + 4; simp
    lia
theorem room_loop {body body' : List Stmt} {env env' : Env} {t : Expr} {it : Value} {K : Flow → Sem PySem.Fin} {H : Value → Sem PySem.Fin} {gd : Bool → Bool} {lv : List Value → List Value} {p : Pos} (R : Room A (k + 1)) : Room (A.in1.over (.forLoop t it body [] env) [forBack K H gd lv env' (.func body' env) p]) k := by
  have h1 := R.depth
  have h2 := R.units
  refine ⟨?_, ?_, R.handled⟩
  · have e : (A.in1.over (.forLoop t it body [] env) [forBack K H gd lv env' (.func body' env) p]).depth = A.in1.depth + frameCount [(.func body' env, p)] + Code.weight (.forLoop t it body [] env) := rfl
    have e2 : frameCount [(.func body' env, p)] = 1 := rfl
    have e3 : Code.weight (.forLoop t it body [] env) = 0 := rfl
    have e4 : A.in1.depth = A.depth := rfl
    lia
  · have e : (A.in1.over (.forLoop t it body [] env) [forBack K H gd lv env' (.func body' env) p]).units = A.in1.units + unitsOf [(.func body' env, p)] + Code.cUnits (.forLoop t it body [] env) := rfl
    have e2 : unitsOf [(.func body' env, p)] = 3 := rfl
    have e3 : Code.cUnits (.forLoop t it body [] env) = 0 := rfl
    have e4 : A.in1.units ≤ A.units + 4 := by show A.units + _ ≤ A.units + 4; simp
    lia

theorem seg_yieldS (W : Wf C) {n : Nat} {s₀ : Shared} {c : Code} {fs : List Frame} {K : Flow → Sem PySem.Fin} {H : Value → Sem PySem.Fin} {gd : Bool → Bool} {lv : List Value → List Value} {ypos pos : Pos} {fp : List Addr} {L : List PyData}
    (hev : Ev C k sc ns Γ e d) (F : SFr C sc ns env Γ s.heap) (I : Inv C s) (R : Room (A.over c fs) k) (kb : KB C (· ∈ fp) s₀ s) (hfp : ∀ b ∈ fp, C.base ≤ b ∧ ∃ o, s.heap.get? b = some o ∧ ¬ SeqDat o) (hloc : env.locals ∈ fp)
    (hL : n + 1 ≤ L.length) (hx : L[L.length - (n + 1)]? = some d) (hfs : splitAtGen fs = none) (hgd : gd false = false) (hfg : fs.any Frame.guarded = false)
    (next : ∀ s₂, Inv C s₂ → (∀ b ∈ fp, ∀ o, s.heap.get? b = some o → s₂.heap.get? b = some o) → Seg (model C.prog C.w) A (EG C fp) (YG C fp L) n s₂ c (K .next) fs s₂) (hco : env.scope.isCoroutine = false) (hi : interactive env = false) :
    Seg (model C.prog C.w) A (EG C fp) (YG C fp L) (n + 1) s₀ c ((exec (.Expr (.Yield (some e) ypos) pos) env).wrap K H gd lv) fs s := by
  have hl : Live s.heap (fun a => Old C s₀ a ∨ a = env.locals) := fun a z => by
    by_cases m : a ∈ fp
    · obtain ⟨_, o, e, _⟩ := hfp a m; exact ⟨o, e⟩
    · rcases z with ⟨_, o, e⟩ | z
      · exact kb.live a o e m
      · exact absurd (z ▸ hloc) m
  have F2 := F.wide (S := fun a => Old C s₀ a ∨ a = env.locals) (.inr rfl) (fun a z => z.elim (fun z => z.1) fun z => z ▸ F.base) hl
  have hkeep : ∀ {s' : Shared}, KB C No s s' → ∀ b ∈ fp, ∀ o, s.heap.get? b = some o → s'.heap.get? b = some o := fun k b hb o e => k.keep b o e (fun z => z) fun z => absurd (W.tlt _ z.1) (Nat.not_lt.mpr (hfp b hb).1)
  refine seg_Expr_Yield hfs hgd hfg (Ev.go W hev R I F2 fun v s' k' r' I' F' => ?_) hco hi
  intro kap hkap
  refine ⟨d, hL, hx, r'.avoid fun b o _ m z => m (.inl z), kb.trans k'.no, fun b hb => ?_, fun s₂ hk I₂ => ?_⟩
  · obtain ⟨_, o, eo, ns⟩ := hfp b hb
    exact ⟨o, hkeep k' b hb o eo, ns⟩
  · exact hkap .none s₂ (next s₂ I₂ fun b hb o eo => hk b hb o (hkeep k' b hb o eo))

theorem strEnd {x : Str} {t : Tok} {it : Addr} {i : Nat} {Q E : Value → Shared → Prop} (hh : A.handled = none) (hit : s.heap.IsStrIter it (strIterType x) x t i) (hx : x.cps[i]? = none)
    (hE : ∀ h' e, Heap.ExtBut it s.heap h' → (∃ o vs, h'.get? it = some o ∧ o.data = .fields vs) → (∃ o, h'.get? e = some o ∧ o.cls = .type "StopIteration") → E (.ref e) { s with heap := h' }) :
    wpAny (model C.prog C.w) A (Builtin.SmallTypes.nextOf (.ref it)) Q E s := by
  have hty : strIterType x = "str_ascii_iterator" ∨ strIterType x = "str_iterator" := by unfold strIterType; split <;> simp
  rcases hty with hty | hty
  all_goals
    rw [hty] at hit
    obtain ⟨o, ho, hc, hd⟩ := id hit
    unfold Builtin.SmallTypes.nextOf
    first
      | refine wpAny_bind (wpAny_callSpecial?_slot (name := Str.ofString "__next__") hit.typeIs F.slot_str_ascii_iterator_next (wpAny_call_entry F.slot_str_ascii_iterator_next hit.typeIs F.entry_str_ascii_iterator_next ?_ (F.args_str_ascii_iterator_next_1 _)))
      | refine wpAny_bind (wpAny_callSpecial?_slot (name := Str.ofString "__next__") hit.typeIs F.slot_str_iterator_next (wpAny_call_entry F.slot_str_iterator_next hit.typeIs F.entry_str_iterator_next ?_ (F.args_str_iterator_next_1 _)))
    show wpAny _ _ (field (.ref it) 0 >>= _) _ _ s
    refine wpAny_bind (wpAny_field ho hd (x := .str x t) rfl ?_)
    show wpAny _ _ (field (.ref it) 1 >>= _) _ _ s
    refine wpAny_bind (wpAny_field ho hd (x := .int i 0) rfl ?_)
    simp only [Int.toNat_natCast, hx]
    refine wpAny_bind (wpAny_rule (wpAny_bind (wpAny_setField ho hd (by simp) (wpAny_bind (wpAny_letGo ?_)))))
    show wpAny _ _ (newExc (.type "StopIteration") [] >>= _) _ _ _
    refine wpAny_bind ?_
    simp only [newExc, newTuple]
    refine wpAny_bind (wpAny_newObj_type ?_ (by size_fits))
    refine wpAny_bind (m := firstArgMember _ _) (wpAny_of_eq (a := Value.none) (by first | rfl | (simp only [firstArgMember]; rfl)) ?_)
    refine wpAny_newObj_type ?_ (by size_fits)
    unfold raiseNew
    refine wpAny_bind (wpAny_handled ?_)
    first | rw [show A.in1.handled = none from hh] | rw [hh]
    refine wpAny_bind (wpAny_pure (wpAny_throw ?_))
    exact hE _ _ (((Heap.SameBut.update ..).extBut.push _).push _) ⟨_, _, Heap.get?_push_of_some _ (Heap.get?_push_of_some _ (Heap.get?_update_self _ ho (Obj.isFreed_of_fields (Obj.data_mapFields hd _)))), Obj.data_mapFields hd _⟩ ⟨_, Heap.get?_push_size _ rfl, rfl⟩
theorem enumEnd {x : Str} {t : Tok} {en it : Addr} {i : Nat} {E : Value → Shared → Prop} {Q : Option Value → Shared → Prop} (hh : A.handled = none) (hne : en ≠ it) (hE : EnumSt x t en it i s.heap) (hx : x.cps[i]? = none)
    (hQ : ∀ h', Heap.ExtBut it s.heap h' → (∃ o, h'.get? en = some o ∧ ¬ SeqDat o) → (∃ o, h'.get? it = some o ∧ ¬ SeqDat o) → Q none { s with heap := h' }) : wpAny (model C.prog C.w) A (pyNext (.ref en)) Q E s := by
  obtain ⟨⟨old, he⟩, hst⟩ := hE
  have hT : s.TypeIs (.ref en) "enumerate" := ⟨_, he, rfl⟩
  unfold pyNext
  refine wpAny_bind (wpAny_attempt (wpAny_callSpecial?_slot (name := Str.ofString "__next__") hT F.slot_enumerate_next
    (wpAny_call_entry F.slot_enumerate_next hT F.entry_enumerate_next ?_ (F.args_enumerate_next_1 _))))
  show wpAny _ _ (field (.ref en) 2 >>= _) _ _ _
  refine wpAny_bind (wpAny_field he rfl (x := .ref it) rfl ?_)
  refine wpAny_bind (strEnd hh hst hx fun h' e k l1 ⟨o, ho, hc⟩ => ?_)
  refine wpAny_bind (wpAny_isInstance (T := "StopIteration") (b := true) ⟨o, ho, hc⟩ isSubtype_stop ?_)
  obtain ⟨o2, vs, l2, l3⟩ := l1
  exact wpAny_pure (hQ _ k ⟨_, k _ _ hne he, by rintro ⟨xs, n, z⟩; cases z⟩ ⟨o2, l2, by rintro ⟨xs, n, z⟩; rw [l3] at z; cases z⟩)
end Mine
end

noncomputable section
open PySem PySem.W PyProof.Rows
open PySem.Builtin PySem.Builtin.Str
namespace Mine

noncomputable def SL (x : Str) : List Nat := x.cps.toList
noncomputable def mkS (l : List Nat) : Str := ⟨l.toArray⟩
theorem SL_mk (l : List Nat) : SL (mkS l) = l := by simp [SL, mkS]
theorem mk_SL (x : Str) : mkS (SL x) = x := by simp [SL, mkS]
theorem SL_inj {x y : Str} (h : SL x = SL y) : x = y := by rw [← mk_SL x, ← mk_SL y, h]
theorem SL_app (x y : Str) : SL (x ++ y) = SL x ++ SL y := by simp [SL, Str.cps_append]
theorem SL_len (x : Str) : (SL x).length = x.length := rfl
theorem mk_app (a b : List Nat) : mkS (a ++ b) = mkS a ++ mkS b := SL_inj (by rw [SL_mk, SL_app, SL_mk, SL_mk])

theorem slice_list {x : Str} {a b : Nat} (hab : a ≤ b) (hb : b ≤ x.length) : SL (Txt.slice x (some (a : Int)) (some (b : Int))) = ((SL x).drop a).take (b - a) := by
  unfold Txt.slice
  split
  · rename_i h
    have e := StrLaws.sliced_plain x hab hb
    have hl : (strSliceIndices (some (a : Int)) (some (b : Int)) 1 x.length).length = x.length := by simpa using h
    rw [StrLaws.strSliceIndices_plain hab hb] at hl
    simp at hl
    have : a = 0 ∧ b = x.length := by lia
    obtain ⟨rfl, rfl⟩ := this
    rw [List.drop_zero, Nat.sub_zero, ← SL_len, List.take_length]
  · show (List.toArray _).toList = _
    exact StrLaws.sliced_plain x hab hb
theorem slice_from {x : Str} {a : Nat} (ha : a ≤ x.length) : SL (Txt.slice x (some (a : Int)) none) = (SL x).drop a := by
  have e : Txt.slice x (some (a : Int)) none = Txt.slice x (some (a : Int)) (some (x.length : Int)) := by
    unfold Txt.slice
    have : strSliceIndices (some (a : Int)) none 1 x.length = strSliceIndices (some (a : Int)) (some (x.length : Int)) 1 x.length := by
      unfold strSliceIndices
      have h1 : ¬ ((x.length : Int) < 0) := by lia
      simp [h1]
    rw [this]
  rw [e, slice_list ha (Nat.le_refl _)]
  rw [← SL_len, ← List.length_drop, List.take_length]
theorem contains_one (x : Str) (c : Nat) : Txt.contains x ⟨#[c]⟩ = decide (c ∈ SL x) := by
  rw [Bool.eq_iff_iff, decide_eq_true_eq]
  unfold Txt.contains
  rw [StrLaws.found_iff]
  constructor
  · rintro ⟨i, h1, h2⟩
    exact List.mem_of_getElem? ((StrLaws.subAt_one x c i).mp ⟨h1, h2⟩)
  · intro h
    obtain ⟨i, hi⟩ := List.mem_iff_getElem?.mp h
    obtain ⟨h1, h2⟩ := (StrLaws.subAt_one x c i).mpr hi
    exact ⟨i, h1, h2⟩

noncomputable def splitL (c : Nat) : List Nat → List (List Nat)
  | [] => [[]]
  | d :: r => if d = c then [] :: splitL c r else match splitL c r with
    | h :: t => (d :: h) :: t
    | [] => [[d]]
theorem splitL_ne (c : Nat) : ∀ l, splitL c l ≠ []
  | [] => List.cons_ne_nil _ _
  | d :: r => by
    show (if d = c then [] :: splitL c r else _) ≠ []
    by_cases h : d = c
    · rw [if_pos h]; exact List.cons_ne_nil _ _
    · rw [if_neg h]
      cases splitL c r with
      | nil => exact List.cons_ne_nil _ _
      | cons a b => exact List.cons_ne_nil _ _
theorem splitL_hit (c : Nat) (r : List Nat) : splitL c (c :: r) = [] :: splitL c r := by
  show (if c = c then _ else _) = _; rw [if_pos rfl]
theorem splitL_miss {c d : Nat} {r h : List Nat} {t : List (List Nat)} (hd : d ≠ c) (e : splitL c r = h :: t) : splitL c (d :: r) = (d :: h) :: t := by
  show (if d = c then _ else match splitL c r with | h :: t => (d :: h) :: t | [] => [[d]]) = _
  rw [if_neg hd, e]
theorem splitL_free {c : Nat} : ∀ {l : List Nat}, c ∉ l → splitL c l = [l]
  | [], _ => rfl
  | d :: r, h => splitL_miss (fun z => h (z ▸ .head _)) (splitL_free (l := r) fun z => h (.tail _ z))
theorem splitL_cons {c : Nat} : ∀ {p : List Nat} {r : List Nat}, c ∉ p → splitL c (p ++ c :: r) = p :: splitL c r
  | [], r, _ => splitL_hit c r
  | d :: p, r, h => splitL_miss (fun z => h (z ▸ .head _)) (splitL_cons (p := p) (r := r) fun z => h (.tail _ z))
theorem splitL_join (c : Nat) : ∀ (parts : List Str), parts ≠ [] → (∀ p ∈ parts, c ∉ SL p) → splitL c (SL (Str.join ⟨#[c]⟩ parts)) = parts.map SL
  | [], h, _ => absurd rfl h
  | [p], _, h => by show splitL c (SL p) = [SL p]; exact splitL_free (h p (.head _))
  | p :: q :: r, _, h => by
    have ih := splitL_join c (q :: r) (by simp) fun z hz => h z (.tail _ hz)
    have e : Str.join ⟨#[c]⟩ (p :: q :: r) = p ++ ⟨#[c]⟩ ++ Str.join ⟨#[c]⟩ (q :: r) := rfl
    rw [e, SL_app, SL_app, List.append_assoc]
    show splitL c (SL p ++ c :: SL (Str.join ⟨#[c]⟩ (q :: r))) = _
    rw [splitL_cons (h p (.head _)), ih]; rfl
theorem split_ne (x y : Str) : Txt.split x y ≠ [] := by
  unfold Txt.split
  split
  · simp
  · split
    · simp
    · rw [StrLaws.partsBetween_eq]
      obtain ⟨p, r, e⟩ := StrLaws.partsFrom_ne x y.length 0 (occurrences x y 0 x.length (x.length + 1))
      rw [e]; simp
theorem split_one (x : Str) (c : Nat) : (Txt.split x ⟨#[c]⟩).map SL = splitL c (SL x) := by
  have h := splitL_join c (Txt.split x ⟨#[c]⟩) (split_ne _ _) (fun p hp => StrLaws.split_free x c p hp)
  rw [StrLaws.join_split] at h
  exact h.symm
theorem split_one' (x : Str) (c : Nat) : Txt.split x ⟨#[c]⟩ = (splitL c (SL x)).map mkS := by
  rw [← split_one, List.map_map]
  have : (mkS ∘ SL) = _root_.id := funext mk_SL
  rw [this, List.map_id]
theorem map_free {c z : Nat} : ∀ {l : List Nat}, c ∉ l → l.map (fun d => if d = c then z else d) = l
  | [], _ => rfl
  | a :: l, h => by rw [List.map_cons, if_neg (fun q => h (by rw [q]; exact .head _)), map_free fun q => h (.tail _ q)]
theorem join_map (c z : Nat) : ∀ (parts : List Str), (∀ p ∈ parts, c ∉ SL p) → SL (Str.join ⟨#[z]⟩ parts) = (SL (Str.join ⟨#[c]⟩ parts)).map fun d => if d = c then z else d
  | [], _ => rfl
  | [p], h => (map_free (h p (.head _))).symm
  | p :: q :: r, h => by
    have ih := join_map c z (q :: r) fun y hy => h y (.tail _ hy)
    have e : ∀ w, Str.join ⟨#[w]⟩ (p :: q :: r) = p ++ ⟨#[w]⟩ ++ Str.join ⟨#[w]⟩ (q :: r) := fun _ => rfl
    rw [e, e, SL_app, SL_app, SL_app, SL_app, List.map_append, List.map_append, ih, map_free (h p (.head _))]
    have : SL (⟨#[c]⟩ : Str) = [c] := rfl
    rw [this, List.map_singleton, if_pos rfl]; rfl
theorem replace_char (x : Str) (c z : Nat) : SL (Txt.replace x ⟨#[c]⟩ ⟨#[z]⟩) = (SL x).map fun d => if d = c then z else d := by
  rw [StrLaws.replace_one, join_map c z _ (fun p hp => StrLaws.split_free x c p hp), StrLaws.join_split]
theorem join_cat' (xs : List Str) : SL (Txt.join ⟨#[]⟩ xs) = (xs.map SL).flatten := by
  have e : Txt.join ⟨#[]⟩ xs = Str.join ⟨#[]⟩ xs := StrLaws.glued_eq_join _ _
  rw [e]
  have : ∀ xs : List Str, SL (Str.join ⟨#[]⟩ xs) = (xs.map SL).flatten := fun xs => by
    induction xs with
    | nil => rfl
    | cons x r ih =>
      cases r with
      | nil => show SL x = _; simp
      | cons y r =>
        have e : Str.join ⟨#[]⟩ (x :: y :: r) = x ++ ⟨#[]⟩ ++ Str.join ⟨#[]⟩ (y :: r) := rfl
        rw [e, SL_app, SL_app, ih]
        have : SL (⟨#[]⟩ : Str) = [] := rfl
        rw [this, List.append_nil]; rfl
  exact this xs
theorem lstrip_one (x : Str) (c : Nat) : SL (Txt.lstripChars x ⟨#[c]⟩) = (SL x).dropWhile (· == c) := by
  unfold Txt.lstripChars Txt.stripBy
  have hgo : (fun d => (⟨#[c]⟩ : Str).cps.contains d) = fun d => d == c := by
    funext d
    show (#[c] : Array Nat).contains d = _
    rw [Bool.eq_iff_iff, Array.contains_iff_mem, beq_iff_eq]
    constructor
    · intro h; exact Array.mem_singleton.mp h
    · intro h; rw [h]; exact Array.mem_singleton.mpr rfl
  have hg2 : ((⟨#[c]⟩ : Str).cps.contains) = fun d => d == c := hgo
  rw [hg2]
  have hlo : stripLo (fun d => d == c) true x = ((SL x).takeWhile (fun d => d == c)).length := rfl
  have hhi : ∀ lo, stripHi (fun d => d == c) false x lo = x.length := fun _ => rfl
  have key : (SL x).drop ((SL x).takeWhile (fun d => d == c)).length = (SL x).dropWhile (fun d => d == c) := by
    have h := List.takeWhile_append_dropWhile (p := fun d => d == c) (l := SL x)
    have h2 := List.drop_left (l₁ := (SL x).takeWhile (fun d => d == c)) (l₂ := (SL x).dropWhile (fun d => d == c))
    rw [h] at h2
    exact h2
  split
  · rename_i h
    unfold stripSame at h
    rw [hlo, hhi, Bool.and_eq_true] at h
    have h0 : ((SL x).takeWhile (fun d => d == c)).length = 0 := by simpa using h.1
    rw [← key, h0, List.drop_zero]
  · unfold PySem.stripped
    rw [hlo, hhi]
    show (strSub x _ _).cps.toList = _
    rw [StrLaws.strSub_toList, ← key]
    exact List.take_of_length_le (by rw [List.length_drop]; exact Nat.le_refl _)
end Mine
end

noncomputable section
open PySem PySem.W PyProof.Rows
namespace Mine

noncomputable def dotL : Bool → List Nat → List Nat
  | _, [] => []
  | b, c :: r => (if (b && c == 46) = true then [46, 46] else [c]) ++ dotL (c == 10) r
noncomputable def eolG : Bool → List Nat → List Nat
  | _, [] => []
  | b, c :: r => if c = 10 then (if b then eolG false r else 13 :: 10 :: eolG false r) else if c = 13 then 13 :: 10 :: eolG true r else c :: eolG false r
noncomputable def eolL (l : List Nat) : List Nat := eolG false l
theorem eolG_c {b : Bool} {c : Nat} {r : List Nat} : eolG b (c :: r) = if c = 10 then (if b then eolG false r else 13 :: 10 :: eolG false r) else if c = 13 then 13 :: 10 :: eolG true r else c :: eolG false r := rfl

theorem dotL_c {b : Bool} {c : Nat} {r : List Nat} : dotL b (c :: r) = (if (b && c == 46) = true then [46, 46] else [c]) ++ dotL (c == 10) r := rfl
theorem nextAt_spec {P : Nat → Bool} : ∀ {f s t : Nat}, nextAt P f s = some t → P t = true ∧ s ≤ t ∧ ∀ u, s ≤ u → u < t → P u = false
  | f + 1, s, t, h => by
    rw [nextAt_s] at h
    cases hp : P s
    · rw [hp, if_neg Bool.false_ne_true] at h
      obtain ⟨h1, h2, h3⟩ := nextAt_spec h
      refine ⟨h1, by lia, fun u hu hut => ?_⟩
      rcases Nat.lt_or_ge s u with q | q
      · exact h3 u q hut
      · rw [Nat.le_antisymm q hu]; exact hp
    · rw [hp, if_pos rfl] at h
      cases h
      exact ⟨hp, Nat.le_refl _, fun u h1 h2 => absurd h1 (by lia)⟩
theorem nextAt_none' {P : Nat → Bool} : ∀ {f s : Nat}, nextAt P f s = none → ∀ u, s ≤ u → u < s + f → P u = false
  | 0, s, _, u, h1, h2 => absurd h1 (by lia)
  | f + 1, s, h, u, h1, h2 => by
    rw [nextAt_s] at h
    cases hp : P s
    · rw [hp, if_neg Bool.false_ne_true] at h
      rcases Nat.lt_or_ge s u with q | q
      · exact nextAt_none' h u q (by lia)
      · rw [Nat.le_antisymm q h1]; exact hp
    · rw [hp, if_pos rfl] at h; cases h

theorem ext_list (T : Array Nat) (a b : Nat) : (T.extract a b).toList = (T.toList.drop a).take (b - a) := by simp
theorem drop_cons' {T : Array Nat} {s : Nat} (h : s < T.size) : T.toList.drop s = T.getD s 0 :: T.toList.drop (s + 1) := by
  rw [List.drop_eq_getElem_cons (by simpa using h)]
  congr 1
  rw [Array.getD_eq_getD_getElem?, Array.getElem?_eq_getElem h]; simp

noncomputable def stAt (T : Array Nat) (p : Nat) : Bool := p == 0 || T.getD (p - 1) 0 == 10
theorem dotL_skip {T : Array Nat} : ∀ (m s : Nat), s + m ≤ T.size → (∀ u, s ≤ u → u < s + m → dotAt T T.size u = false) → dotL (stAt T s) (T.toList.drop s) = (T.toList.drop s).take m ++ dotL (stAt T (s + m)) (T.toList.drop (s + m))
  | 0, s, _, _ => by simp
  | m + 1, s, h, hn => by
    have hs : s < T.size := by lia
    have h0 := hn s (Nat.le_refl _) (by lia)
    unfold dotAt at h0
    rw [decide_eq_true hs, Bool.true_and] at h0
    have ih := dotL_skip m (s + 1) (by lia) fun u h1 h2 => hn u (by lia) (by lia)
    rw [drop_cons' hs, dotL_c]
    have e0 : (stAt T s && T.getD s 0 == 46) = false := h0
    rw [e0, if_neg Bool.false_ne_true, List.take_succ_cons]
    have e1 : stAt T (s + 1) = (T.getD s 0 == 10) := by unfold stAt; rw [Nat.add_sub_cancel]; simp
    rw [← e1, ih, show s + 1 + m = s + (m + 1) by lia]; rfl
theorem sub_dot (T : Array Nat) : ∀ (f done : Nat), T.size - done < f → done ≤ T.size → (catA (subFrom (findDot T) T #[46, 46] f done)).toList = dotL (stAt T done) (T.toList.drop done)
  | 0, done, h, _ => absurd h (Nat.not_lt_zero _)
  | f + 1, done, h, hd => by
    rw [subFrom_s]
    have tail : (∀ v, done ≤ v → v < T.size → dotAt T T.size v = false) → (catA (if done < T.size then [T.extract done T.size] else [])).toList = dotL (stAt T done) (T.toList.drop done) := fun hn => by
      have := dotL_skip (T := T) (T.size - done) done (by lia) fun u h1 h2 => hn u h1 (by lia)
      rw [this, show done + (T.size - done) = T.size by lia]
      have e2 : T.toList.drop T.size = [] := List.drop_eq_nil_of_le (by simp)
      rw [e2, show dotL (stAt T T.size) [] = [] from rfl, List.append_nil]
      by_cases hlt : done < T.size
      · rw [if_pos hlt]; show (T.extract done T.size ++ #[]).toList = _
        rw [Array.append_empty, ext_list]
      · rw [if_neg hlt, show T.size - done = 0 by lia]; rfl
    cases hq : findDot T done with
    | none =>
      refine tail fun v h1 h2 => ?_
      unfold findDot at hq
      cases hn : nextAt (dotAt T T.size) (T.size + 1 - done) done with
      | none => exact nextAt_none' hn v h1 (by lia)
      | some t => rw [hn] at hq; cases hq
    | some ab =>
      obtain ⟨a, b⟩ := ab
      unfold findDot at hq
      cases hn : nextAt (dotAt T T.size) (T.size + 1 - done) done with
      | none => rw [hn] at hq; cases hq
      | some t =>
        rw [hn] at hq; cases hq
        obtain ⟨g1, g2, g3⟩ := nextAt_spec hn
        have g1' := g1
        unfold dotAt at g1'
        rw [Bool.and_eq_true, Bool.and_eq_true] at g1'
        have hts : a < T.size := of_decide_eq_true g1'.1
        have h46 : T.getD a 0 = 46 := eq_of_beq g1'.2.2
        have hst : stAt T a = true := g1'.2.1
        have ih := sub_dot T f (a + 1) (by lia) (by lia)
        dsimp only
        rw [catA_append]
        have e := dotL_skip (T := T) (a - done) done (by lia) fun u h1 h2 => g3 u h1 (by lia)
        rw [e, show done + (a - done) = a by lia, drop_cons' hts, dotL_c, h46, hst]
        have e1 : stAt T (a + 1) = (46 == 10) := by unfold stAt; rw [Nat.add_sub_cancel, h46]; simp
        rw [Array.toList_append]
        congr 1
        · by_cases hlt : done < a
          · rw [if_pos hlt]; show (T.extract done a ++ #[]).toList = _
            rw [Array.append_empty, ext_list]
          · rw [if_neg hlt, show a - done = 0 by lia]; rfl
        · show (#[46, 46] ++ catA _).toList = _
          rw [Array.toList_append, ih, e1]; rfl
theorem quote_list (T : Array Nat) : (catA (subFrom (findDot T) T #[46, 46] (T.size + 1) 0)).toList = dotL true T.toList := by
  rw [sub_dot T (T.size + 1) 0 (by lia) (Nat.zero_le _), List.drop_zero]; rfl

theorem eolL_crlf (r : List Nat) : eolL (13 :: 10 :: r) = 13 :: 10 :: eolL r := rfl
theorem eolL_plain {c : Nat} {r : List Nat} (h1 : c ≠ 10) (h2 : c ≠ 13) : eolL (c :: r) = c :: eolL r := by
  unfold eolL; rw [eolG_c, if_neg h1, if_neg h2]
theorem eolL_lf (r : List Nat) : eolL (10 :: r) = 13 :: 10 :: eolL r := rfl
theorem eolL_cr {r : List Nat} (h : ∀ r', r ≠ 10 :: r') : eolL (13 :: r) = 13 :: 10 :: eolL r := by
  show 13 :: 10 :: eolG true r = 13 :: 10 :: eolG false r
  cases r with
  | nil => rfl
  | cons d r =>
    have hd : d ≠ 10 := fun z => h r (z ▸ rfl)
    rw [eolG_c, eolG_c, if_neg hd, if_neg hd]
theorem eolL_skip {T : Array Nat} : ∀ (m s : Nat), s + m ≤ T.size → (∀ u, s ≤ u → u < s + m → eolAt T T.size u = false) → eolL (T.toList.drop s) = (T.toList.drop s).take m ++ eolL (T.toList.drop (s + m))
  | 0, s, _, _ => by simp
  | m + 1, s, h, hn => by
    have hs : s < T.size := by lia
    have h0 := hn s (Nat.le_refl _) (by lia)
    unfold eolAt at h0
    rw [decide_eq_true hs, Bool.true_and, Bool.or_eq_false_iff] at h0
    have ih := eolL_skip m (s + 1) (by lia) fun u h1 h2 => hn u (by lia) (by lia)
    rw [drop_cons' hs, eolL_plain (by simpa using h0.1) (by simpa using h0.2), List.take_succ_cons, ih, show s + 1 + m = s + (m + 1) by lia]; rfl
theorem sub_eol (T : Array Nat) : ∀ (f done : Nat), T.size - done < f → done ≤ T.size → (catA (subFrom (findEol T) T #[13, 10] f done)).toList = eolL (T.toList.drop done)
  | 0, done, h, _ => absurd h (Nat.not_lt_zero _)
  | f + 1, done, h, hd => by
    rw [subFrom_s]
    cases hq : findEol T done with
    | none =>
      have hn : ∀ v, done ≤ v → v < T.size → eolAt T T.size v = false := fun v h1 h2 => by
        unfold findEol at hq
        cases hn : nextAt (eolAt T T.size) (T.size + 1 - done) done with
        | none => exact nextAt_none' hn v h1 (by lia)
        | some t => rw [hn] at hq; cases hq
      have := eolL_skip (T := T) (T.size - done) done (by lia) fun u h1 h2 => hn u h1 (by lia)
      rw [this, show done + (T.size - done) = T.size by lia]
      have e2 : T.toList.drop T.size = [] := List.drop_eq_nil_of_le (by simp)
      show _ = _ ++ eolL (T.toList.drop T.size)
      rw [e2]; show _ = _ ++ []
      rw [List.append_nil]
      dsimp only
      by_cases hlt : done < T.size
      · rw [if_pos hlt]; show (T.extract done T.size ++ #[]).toList = _
        rw [Array.append_empty, ext_list]
      · rw [if_neg hlt, show T.size - done = 0 by lia]; rfl
    | some ab =>
      obtain ⟨a, b⟩ := ab
      unfold findEol at hq
      cases hn : nextAt (eolAt T T.size) (T.size + 1 - done) done with
      | none => rw [hn] at hq; cases hq
      | some t =>
        rw [hn] at hq; cases hq
        obtain ⟨g1, g2, g3⟩ := nextAt_spec hn
        have g1' := g1
        unfold eolAt at g1'
        rw [Bool.and_eq_true] at g1'
        have hts : a < T.size := of_decide_eq_true g1'.1
        obtain ⟨l1, l2⟩ := eolLen_le hts
        have ih := sub_eol T f (a + eolLen T T.size a) (by lia) l2
        dsimp only
        rw [catA_append]
        have e := eolL_skip (T := T) (a - done) done (by lia) fun u h1 h2 => g3 u h1 (by lia)
        rw [e, show done + (a - done) = a by lia, Array.toList_append]
        congr 1
        · by_cases hlt : done < a
          · rw [if_pos hlt]; show (T.extract done a ++ #[]).toList = _
            rw [Array.append_empty, ext_list]
          · rw [if_neg hlt, show a - done = 0 by lia]; rfl
        · show (#[13, 10] ++ catA _).toList = _
          rw [Array.toList_append, ih, drop_cons' hts]
          show 13 :: 10 :: eolL _ = _
          by_cases h2 : (T.getD a 0 == 13 && (decide (a + 1 < T.size) && T.getD (a + 1) 0 == 10)) = true
          · have el : eolLen T T.size a = 2 := by unfold eolLen; rw [if_pos h2]
            rw [Bool.and_eq_true, Bool.and_eq_true] at h2
            have h3 : a + 1 < T.size := of_decide_eq_true h2.2.1
            rw [el, drop_cons' h3, eq_of_beq h2.1, eq_of_beq h2.2.2, eolL_crlf]
          · have el : eolLen T T.size a = 1 := by unfold eolLen; rw [if_neg h2]
            rw [el]
            by_cases h13 : T.getD a 0 = 13
            · rw [h13, eolL_cr]
              intro r' hr
              apply h2
              have h3 : a + 1 < T.size := by
                rcases Nat.lt_or_ge (a + 1) T.size with q | q
                · exact q
                · rw [List.drop_eq_nil_of_le (by simpa using q)] at hr; cases hr
              rw [drop_cons' h3] at hr
              rw [h13, (List.cons.inj hr).1, decide_eq_true h3]; rfl
            · have h10 : T.getD a 0 = 10 := by
                have := g1'.2
                rw [Bool.or_eq_true, beq_iff_eq, beq_iff_eq] at this
                exact this.resolve_right h13
              rw [h10, eolL_lf]
theorem eol_list (T : Array Nat) : (catA (subFrom (findEol T) T #[13, 10] (T.size + 1) 0)).toList = eolL T.toList := by
  rw [sub_eol T (T.size + 1) 0 (by lia) (Nat.zero_le _), List.drop_zero]
end Mine
end

noncomputable section
open PySem PySem.W PyProof.Rows
namespace Mine
variable {C : Cx} {k : Nat} {sc : Scope} {ns : List Str} {Γ : List Sl} {e : Expr}

theorem splitL_length (c : Nat) : ∀ l, (splitL c l).length = l.count c + 1
  | [] => rfl
  | d :: r => by
    have ih := splitL_length c r
    by_cases h : d = c
    · subst h; rw [splitL_hit, List.length_cons, ih, List.count_cons_self]
    · obtain ⟨y, t, e⟩ : ∃ y t, splitL c r = y :: t := by
        cases q : splitL c r with
        | nil => exact absurd q (splitL_ne c r)
        | cons y t => exact ⟨y, t, rfl⟩
      rw [splitL_miss h e, List.length_cons, List.count_cons_of_ne h]
      rw [e, List.length_cons] at ih; exact ih
theorem count_one (x : Str) (c : Nat) : Txt.count x ⟨#[c]⟩ = ((SL x).count c : Nat) := by
  have h1 : ((Txt.split x ⟨#[c]⟩).length : Int) = 1 + Spec.countIn (.str ⟨#[c]⟩) ((SL x).map fun n => PyData.str ⟨#[n]⟩) := split_len x c
  have h2 := congrArg List.length (split_one x c)
  rw [List.length_map, splitL_length] at h2
  have h3 : Txt.count x ⟨#[c]⟩ = Spec.countIn (.str ⟨#[c]⟩) ((SL x).map fun n => PyData.str ⟨#[n]⟩) := count_is x c
  rw [h3]; lia

noncomputable def way (c m : Int) : Nat := ((c.fdiv m).fmod 4).toNat
theorem way_eq (c m : Int) : ((c.fdiv m).fmod 4) = (way c m : Nat) := by
  unfold way
  rw [Int.toNat_of_nonneg (Int.fmod_nonneg_of_pos _ (by decide))]
theorem way_lt (c m : Int) : way c m < 4 := by
  have := way_eq c m
  have h2 := Int.fmod_lt_of_pos (c.fdiv m) (show (0 : Int) < 4 by decide)
  lia
theorem noPy {a b : Int} (h : b.natAbs < 2 ^ 100) : Builtin.divisionGoesByPylong a b = false :=
  PyProof.noPylong_of_log2 (by
    rcases Nat.eq_zero_or_pos b.natAbs with z | z
    · rw [z]; decide
    · exact Nat.lt_of_lt_of_le ((Nat.log2_lt (by lia)).mpr h) (by decide))
theorem Ev.way (W : Wf C) {c : Int} {m : Nat} {k1 k2 : Nat} {p1 p2 p3 p4 : Pos} (hc : Ev C k sc ns Γ e (.int c)) (hm : 0 < m) (hm2 : m < 2 ^ 100) : Ev C k sc ns Γ (.BinOp (.BinOp e .FloorDiv (.Constant (.int m) k1 p1) p2) .Mod (.Constant (.int 4) k2 p3) p4) (.int (Mine.way c m : Nat)) :=
  (Ev.bin W (Ev.bin W hc Ev.int (BinOk.fdiv (by lia) (noPy (by rw [Int.natAbs_natCast]; exact hm2)))) Ev.int (BinOk.fmod (by decide))).cast (int2 (way_eq c m))
noncomputable def bit (c m : Int) : Nat := ((c.fdiv m).fmod 2).toNat
theorem bit_eq (c m : Int) : ((c.fdiv m).fmod 2) = (bit c m : Nat) := by
  unfold bit
  rw [Int.toNat_of_nonneg (Int.fmod_nonneg_of_pos _ (by decide))]
theorem Ev.bit (W : Wf C) {c : Int} {m : Nat} {k1 k2 : Nat} {p1 p2 p3 p4 : Pos} (hc : Ev C k sc ns Γ e (.int c)) (hm : 0 < m) (hm2 : m < 2 ^ 100) : Ev C k sc ns Γ (.BinOp (.BinOp e .FloorDiv (.Constant (.int m) k1 p1) p2) .Mod (.Constant (.int 2) k2 p3) p4) (.int (Mine.bit c m : Nat)) :=
  (Ev.bin W (Ev.bin W hc Ev.int (BinOk.fdiv (by lia) (noPy (by rw [Int.natAbs_natCast]; exact hm2)))) Ev.int (BinOk.fmod (by decide))).cast (int2 (bit_eq c m))
end Mine
end

noncomputable section
open PySem PySem.W PyProof.Rows
namespace Mine
variable {C : Cx} {k : Nat} {sc : Scope} {ns : List Str} {Γ : List Sl} {e : Expr}

theorem foldl_cat (x : Array Nat) : ∀ (n : Nat) (acc : Array Nat), ((List.replicate n x).foldl (· ++ ·) acc).toList = acc.toList ++ (List.replicate n x.toList).flatten
  | 0, acc => by simp
  | n + 1, acc => by
    rw [List.replicate_succ, List.foldl_cons, foldl_cat x n, Array.toList_append, List.replicate_succ, List.flatten_cons, List.append_assoc]
theorem mul_list (x : Str) (n : Nat) : SL (Txt.mul x (n : Int)) = (List.replicate n (SL x)).flatten := by
  unfold Txt.mul
  by_cases h : (n : Int) < 1
  · have : n = 0 := by lia
    subst this
    rw [if_pos h]; rfl
  · rw [if_neg h]
    by_cases h1 : ((n : Int) == 1 || x.length == 0) = true
    · rw [if_pos h1]
      rw [Bool.or_eq_true, beq_iff_eq, beq_iff_eq] at h1
      rcases h1 with h1 | h1
      · have : n = 1 := by lia
        subst this; simp
      · have : SL x = [] := List.eq_nil_of_length_eq_zero (by rw [SL_len]; exact h1)
        rw [this]; simp
    · rw [if_neg h1]
      show ((List.replicate ((n : Int).toNat) x.cps).foldl (· ++ ·) #[]).toList = _
      rw [foldl_cat, Int.toNat_natCast]; rfl
theorem mul_ok {x : Str} {n : Nat} (h : x.length * n ≤ sizeLine) (hn : n ≤ 2 ^ 24) : MulOk x (n : Int) := by
  have hs := sizeLine_eq
  refine ⟨?_, fun h1 h2 h3 => ?_, fun h1 h2 => ?_⟩
  · rw [Bool.or_eq_false_iff, decide_eq_false_iff_not, decide_eq_false_iff_not]; lia
  · have h4 : x.length * n ≤ 2 ^ 24 := by lia
    have h5 : (x.length : Int) * n ≤ 2 ^ 24 := by exact_mod_cast h4
    have h6 : (2 ^ 63 - 1) / (n : Int) < x.length := h3
    have h7 := (Int.ediv_lt_iff_lt_mul (by lia : (0 : Int) < n)).mp h6
    lia
  · unfold Builtin.Str.tooLong
    rw [decide_eq_false_iff_not, Int.toNat_natCast]; lia
end Mine
end

noncomputable section
open PySem PySem.W PyProof.Rows
open PySem.Builtin PySem.Builtin.Str
namespace Mine
variable {C : Cx} {k : Nat} {sc : Scope} {ns : List Str} {Γ : List Sl} {e : Expr}

theorem split_size {x : Str} {c : Nat} (h : x.length < sizeLine) : (Builtin.Str.partsBetween x (Builtin.Str.occurrences x ⟨#[c]⟩ 0 x.length (x.length + 1)) (⟨#[c]⟩ : Str).length).length ≤ sizeLine := by
  rw [length_partsBetween]
  have h1 := count_one x c
  have h2 : Txt.count x ⟨#[c]⟩ = ((Builtin.Str.occurrences x ⟨#[c]⟩ 0 x.length (x.length + 1)).length : Nat) := rfl
  rw [h2] at h1
  have h3 : (SL x).count c ≤ (SL x).length := List.count_le_length
  rw [SL_len] at h3
  lia
theorem Bi.split1 {x : Str} {c : Nat} (hx : x.length < sizeLine) : Bi C k (.builtin "str.split") [.str x, .str ⟨#[c]⟩] (.list (((splitL c (SL x)).map mkS).map .str)) := by
  have h := Bi.split (C := C) (k := k) (x := x) (y := ⟨#[c]⟩) rfl (by lia) (split_size hx)
  rw [split_one'] at h
  exact h
theorem take_one (x : Str) : SL (Txt.slice x none (some 1)) = (SL x).take 1 := by
  have e : Txt.slice x none (some 1) = Txt.slice x (some ((0 : Nat) : Int)) (some ((min 1 x.length : Nat) : Int)) := by
    unfold Txt.slice
    have : strSliceIndices none (some 1) 1 x.length = strSliceIndices (some ((0 : Nat) : Int)) (some ((min 1 x.length : Nat) : Int)) 1 x.length := by
      unfold strSliceIndices
      have h1 : ¬ ((x.length : Int) < 0) := by lia
      rcases Nat.eq_zero_or_pos x.length with z | z
      · rw [z]; rfl
      · have : min 1 x.length = 1 := by lia
        rw [this]
        simp
        rw [show min (0 : Int) (x.length : Int) = 0 by lia]; rfl
    rw [this]
  rw [e, slice_list (Nat.zero_le _) (Nat.min_le_right _ _), List.drop_zero, Nat.sub_zero, ← SL_len]
  rcases Nat.eq_zero_or_pos (SL x).length with z | z
  · rw [List.eq_nil_of_length_eq_zero z]; rfl
  · rw [show min 1 (SL x).length = 1 by lia]
theorem str_eq (x y : Str) : (x == y) = (SL x == SL y) := by
  rw [Bool.eq_iff_iff, beq_iff_eq, beq_iff_eq]
  exact ⟨fun h => h ▸ rfl, SL_inj⟩
noncomputable def linesL (l : List Nat) : List (List Nat) := splitL 10 (l.map fun d => if d = 13 then 10 else d)
noncomputable def dotted (r : List Nat) : Bool := r.take 1 == [46]
noncomputable def ledDots (r : List Nat) : Int := (r.length : Int) - (r.dropWhile (· == 46)).length
theorem lf_str : ("\n" : Str) = ⟨#[10]⟩ := by decide +kernel
theorem cr_str : ("\r" : Str) = ⟨#[13]⟩ := by decide +kernel
theorem dot_chr : ("." : Str) = ⟨#[46]⟩ := by decide +kernel
theorem Ev.lines (W : Wf C) {l : List Nat} {a1 a2 a3 a4 a5 a6 a7 : Pos} {k1 k2 k3 : Nat} (he : Ev C k sc ns Γ e (.str (mkS l))) (hl : 2 * l.length + 10 ≤ sizeLine) (h1 : (a1.endLine == a4.line) = true) (h2 : (a5.endLine == a7.line) = true) (hb : ∀ env : Env, attributeBase e "replace" env (eval e env) = eval e env)
    (hb2 : ∀ env : Env, attributeBase (.Call (.Attribute e "replace" a1) [.Constant (.str "\r") k1 a2, .Constant (.str "\n") k2 a3] [] a4) "split" env (eval (.Call (.Attribute e "replace" a1) [.Constant (.str "\r") k1 a2, .Constant (.str "\n") k2 a3] [] a4) env) = eval (.Call (.Attribute e "replace" a1) [.Constant (.str "\r") k1 a2, .Constant (.str "\n") k2 a3] [] a4) env) :
    Ev C k sc ns Γ (.Call (.Attribute (.Call (.Attribute e "replace" a1) [.Constant (.str "\r") k1 a2, .Constant (.str "\n") k2 a3] [] a4) "split" a5) [.Constant (.str "\n") k3 a6] [] a7) (.list ((linesL l).map fun r => .str (mkS r))) := by
  have hs := sizeLine_eq
  have hn : ("\n" : Str).length = 1 := by decide +kernel
  have hm : (mkS l).length = l.length := by show l.toArray.size = _; rw [List.size_toArray]
  have er : SL (Txt.replace (mkS l) "\r" "\n") = l.map fun d => if d = 13 then 10 else d := by
    rw [cr_str, lf_str, replace_char, SL_mk]
  have hr := Ev.replace (k1 := k1) (k2 := k2) (p1 := a2) (p2 := a3) (apos := a1) (pos := a4) W he (y := "\r") (z := "\n") (by decide +kernel) (by rw [hn, hm]; lia) h1 hb
  have hlen : (Txt.replace (mkS l) "\r" "\n").length < sizeLine := by rw [← SL_len, er, List.length_map]; lia
  have hsp := Bi.split1 (C := C) (k := k) (c := 10) hlen
  rw [er] at hsp
  rw [← lf_str, List.map_map] at hsp
  exact Ev.methS W hr (.cons Ev.str .nil) F.slot_str_split F.type_str_split hsp (hline := h2) (hbase := hb2)
end Mine
end

noncomputable section
open PySem PySem.W PyProof.Rows
open PySem.Builtin PySem.Builtin.Str
namespace Mine
end Mine
end

noncomputable section
open PySem PySem.W PyProof.Rows
namespace Mine
theorem strOk_mk {l : List Nat} (h : ∀ c ∈ l, c < 128) : PyData.strOk (mkS l) = true := by
  unfold PyData.strOk mkS
  rw [Array.all_eq_true']
  intro c hc
  have := h c (by simpa using hc)
  exact decide_eq_true (by lia)
theorem canLay_strs : ∀ {xs : List Str}, (∀ x ∈ xs, PyData.strOk x = true) → PyData.canLayAll0 (xs.map .str) = true
  | [], _ => rfl
  | x :: xs, h => by
    show (PyData.strOk x && PyData.canLayAll0 (xs.map .str)) = true
    rw [h x (.head _), canLay_strs fun y hy => h y (.tail _ hy)]; rfl
theorem depth_strs : ∀ {xs : List Str}, PyData.depthAll (xs.map .str) = 0
  | [] => rfl
  | x :: xs => by
    show max 0 (PyData.depthAll (xs.map .str)) = 0
    rw [depth_strs]; rfl
theorem shaped_strs {xs : List Str} (h : ∀ x ∈ xs, PyData.strOk x = true) : SeqAt.shaped (.list (xs.map .str)) = true := by
  show (PyData.canLayAll0 (xs.map .str) && decide (PyData.depthAll (xs.map .str) + 1 ≤ 64)) = true
  rw [canLay_strs h, depth_strs]; rfl
theorem eqv_strs {xs : List Str} (h : ∀ x ∈ xs, PyData.strOk x = true) : PyData.eqv (.list (xs.map .str)) (.list (xs.map .str)) = true :=
  PySem.SeqAt.eqv_refl _ (canLay_strs h)
end Mine
end

noncomputable section
open PySem PySem.W PyProof.Rows
namespace Mine
variable {C : Cx} {k : Nat} {A : Around} {s : Shared}

end Mine
end

noncomputable section
open PySem PySem.W PyProof.Rows
namespace Mine
variable {C : Cx} {k : Nat} {sc : Scope} {ns : List Str} {fn : Str → Bool} {env : Env} {lo : Nat} {S S' S'' : Addr → Prop} {Γ Γ' : List Sl} {s s' s'' : Shared} {A : Around} {Mu : Addr → Prop} {e : Expr} {d d' : PyData}

end Mine
end

noncomputable section
open PySem PySem.W PyProof.Rows
namespace Mine

noncomputable def mkC (p : Program) (w : World) (mg mb : Str → Option Value) (K : Frag) (bm : Nat) (ob : Obj) (t1 t2 : Nat) (q1 q2 : Int × Int × Str) (m : Nat) : Cx where
  prog := p
  w := w
  mg := mg
  mb := mb
  fr := fun (a : Nat) => if a = t1 then none else if a = t2 then none else match K.lookup a with
    | some o => some o
    | none => if a = bm then some ob else none
  T := fun (a : Nat) => a = t1 ∨ a = t2
  tq := fun (a : Nat) => if a = t1 then q1 else q2
  base := max m bm + 1
variable {p : Program} {w : World} {mg mb : Str → Option Value} {K : Frag} {bm : Nat} {ob : Obj} {t1 t2 : Nat} {q1 q2 : Int × Int × Str} {m : Nat}

theorem lk_mem : ∀ {K : Frag} {a : Nat} {o : Obj}, K.lookup a = some o → (a, o) ∈ K
  | [], a, o, h => by cases h
  | (b, y) :: K, a, o, h => by
    rw [List.lookup_cons] at h
    split at h
    · rename_i q
      have := eq_of_beq q
      cases h
      rw [this]; exact .head _
    · exact .tail _ (lk_mem h)
theorem lookup_le {K : Frag} {m a : Nat} {o : Obj} (h : (K.all fun x => decide (x.1 ≤ m)) = true) (e : K.lookup a = some o) : a ≤ m := by
  have := List.all_eq_true.mp h (a, o) (lk_mem e)
  exact of_decide_eq_true this
theorem mkC_fr {a : Nat} {o : Obj} (h1 : a ≠ t1) (h2 : a ≠ t2) (e : K.lookup a = some o) : (mkC p w mg mb K bm ob t1 t2 q1 q2 m).fr a = some o := by
  show (if a = t1 then none else if a = t2 then none else match K.lookup a with
    | some o => some o
    | none => if a = bm then some ob else none) = some o
  rw [if_neg h1, if_neg h2, e]
theorem mkC_bm (h1 : bm ≠ t1) (h2 : bm ≠ t2) (hb : ∀ o, K.lookup bm = some o → o = ob) : (mkC p w mg mb K bm ob t1 t2 q1 q2 m).fr bm = some ob := by
  show (if bm = t1 then none else if bm = t2 then none else match K.lookup bm with
    | some o => some o
    | none => if bm = bm then some ob else none) = some ob
  rw [if_neg h1, if_neg h2]
  cases q : K.lookup bm with
  | none => exact if_pos rfl
  | some o => rw [hb o q]
theorem mkC_wf {o : Obj} (hm : (K.all fun x => decide (x.1 ≤ m)) = true) (hl : K.lookup m = some o) (ht1 : 3 < t1) (ht2 : 3 < t2) (hm1 : t1 < m) (hm2 : t2 < m) (h1 : bm ≠ t1) (h2 : bm ≠ t2) (hb : ∀ o, K.lookup bm = some o → o = ob) :
    Wf (mkC p w mg mb K bm ob t1 t2 q1 q2 m) where
  fr := fun (a : Nat) x e => by
    have e : (if a = t1 then none else if a = t2 then none else match K.lookup a with
      | some o => some o
      | none => if a = bm then some ob else none) = some x := e
    by_cases z1 : a = t1
    · rw [if_pos z1] at e; cases e
    rw [if_neg z1] at e
    by_cases z2 : a = t2
    · rw [if_pos z2] at e; cases e
    rw [if_neg z2] at e
    refine ⟨?_, fun z => z.elim z1 z2⟩
    show a < max m bm + 1
    cases q : K.lookup a with
    | none =>
      rw [q] at e
      by_cases z3 : a = bm
      · have := Nat.le_max_right m bm; lia
      · rw [show (match (none : Option Obj) with | some o => some o | none => if a = bm then some ob else none) = none from if_neg z3] at e; cases e
    | some y => have := lookup_le hm q; have := Nat.le_max_left m bm; lia
  tlt := fun (a : Nat) z => by
    have z : a = t1 ∨ a = t2 := z
    show a < max m bm + 1
    have := Nat.le_max_left m bm
    rcases z with z | z <;> lia
  low := by
    show 3 < max m bm + 1
    have := Nat.le_max_left m bm; lia
  last := by
    show ∃ o, (mkC p w mg mb K bm ob t1 t2 q1 q2 m).fr (max m bm + 1 - 1) = some o
    rw [Nat.add_sub_cancel]
    rcases Nat.le_total m bm with z | z
    · rw [Nat.max_eq_right z]; exact ⟨ob, mkC_bm h1 h2 hb⟩
    · rw [Nat.max_eq_left z]; exact ⟨o, mkC_fr (by lia) (by lia) hl⟩
  t0 := fun z => by
    have z : 0 = t1 ∨ 0 = t2 := z
    lia
  t2 := fun z => by
    have z : 2 = t1 ∨ 2 = t2 := z
    lia
  t3 := fun z => by
    have z : 3 = t1 ∨ 3 = t2 := z
    lia
theorem mkC_inv {s : Shared} (X : K.In s.heap) (hg : s.heap.Ns mainGlobals mg) (hb : s.heap.Ns builtinsNs mb) (hl : s.heap.NoLimit) (hbm : s.heap.get? bm = some ob) (ht : ∀ a, a = t1 ∨ a = t2 → s.heap.get? a = some (tabObj #[])) :
    Inv (mkC p w mg mb K bm ob t1 t2 q1 q2 m) { s with toks := s.toks + 1 } where
  g := hg
  b := hb
  lim := hl
  fr := fun (a : Nat) o e => by
    have e : (if a = t1 then none else if a = t2 then none else match K.lookup a with
      | some o => some o
      | none => if a = bm then some ob else none) = some o := e
    by_cases z1 : a = t1
    · rw [if_pos z1] at e; cases e
    rw [if_neg z1] at e
    by_cases z2 : a = t2
    · rw [if_pos z2] at e; cases e
    rw [if_neg z2] at e
    cases q : K.lookup a with
    | none =>
      rw [q] at e
      by_cases z3 : a = bm
      · rw [show (match (none : Option Obj) with | some o => some o | none => if a = bm then some ob else none) = some ob from if_pos z3] at e
        cases e; exact z3 ▸ hbm
      · rw [show (match (none : Option Obj) with | some o => some o | none => if a = bm then some ob else none) = none from if_neg z3] at e; cases e
    | some y => rw [q] at e; cases e; exact X _ _ q
  tab := fun P hP => .inl (ht P hP)
  tok := Nat.le_add_left 1 s.toks

theorem rp_ints {P : Params} {h : Heap} : ∀ {vs : List Value} {l : List Int}, WellAll P h vs (ofPys (l.map .int)) → RpAll h (fun _ => False) vs (l.map .int)
  | _, [], x => by cases x; exact .nil
  | _, i :: l, x => by
    cases x with
    | cons x1 x2 =>
      cases x1
      exact .cons (.int _ _) (rp_ints x2)
theorem rp_script {P : Params} {h : Heap} {v : Value} {l : List Int} (x : Well P h v (ofPy (.list (l.map .int)))) : Rp h (fun _ => False) v (.list (l.map .int)) := by
  cases x with
  | @list a vs _ hg hw => exact .list ⟨_, hg⟩ (fun z => z) (rp_ints hw)

theorem df_of {C : Cx} {P : Program} {i : Nat} {x : Str} {ps ns : List Str} {f c : Addr} {fd : FuncData} {vs : Array Value} {t : Tok} {d1 d2 : Option Addr} {k1 k2 : Value} {sl1 sl2 : Array (Option Value)}
    (hglob : C.mg x = some (.ref f)) (hf : C.fr f = some ⟨k1, d1, .func fd, sl1⟩) (hcode : fd.code = .ref c) (hc : C.fr c = some ⟨k2, d2, .fields vs, sl2⟩) (hq : vs[1]? = some (.str fd.qualname t))
    (hb : fd.body = .stmts (bodyAt P i)) (hs : fd.scope = scopeAt P i) (hcl : fd.closure = []) (hgl : fd.globals = mainGlobals) (hbl : fd.builtins = builtinsNs)
    (hbind : ∀ vals : List Value, vals.length = ps.length → bindArgs fd ⟨vals, []⟩ = pure (ps.zip vals)) (hk : (scopeAt P i).kind = .function) (hco : (scopeAt P i).isCoroutine = false) (hge : (scopeAt P i).isGenerator = false)
    (nd : ns.Nodup) (pre : ps = ns.take ps.length) (kinds : ∀ x ∈ ns, (scopeAt P i).names.lookup x = some .local ∨ (scopeAt P i).names.lookup x = some .cell) : Df C P i x ps ns f :=
  ⟨hglob, fd, ⟨⟨_, hf, rfl⟩, hb, hcl, hgl, hbl, ⟨c, _, vs, t, hcode, hc, rfl, hq⟩, hbind, hs ▸ hk, hs ▸ hco, hs ▸ hge, nd, pre, hs ▸ kinds⟩, hs⟩

theorem top_good {c : ClaimW} {cl : Str → Option Addr} {mean : ExcName → Option Value} {args : List WData} {s s' : Shared} {C : Cx} {r : Result} (hn : ∀ cls, c.raises args cls = false) (hp : c.post args (.bool true) args = true)
    (ht : ∀ a, C.T a → isCodeTable s.heap a ∧ s.heap.get? a = some (tabObj #[])) (hbare : AllBare s.gens) (htab : TabOk C s.heap)
    (g : ∃ v, r = .ok (.ret v) ∧ KB C No s s' ∧ Rp s'.heap (fun _ => False) v (.bool true)) : GoodWG c cl mean args s r s' := by
  obtain ⟨v, rfl, kb, hv⟩ := g
  cases hv
  refine ⟨.inl ⟨_, .bool true, [], rfl, hn, .bool true, hp, fun _ => ⟨List.nodup_nil, fun a z => nomatch z⟩⟩, ⟨fun b o e => ?_, fun b o e => kb.live b o e fun z => z⟩, kb.os, kb.bare hbare⟩
  by_cases z : C.T b ∧ o.cls = .none
  · obtain ⟨h1, h2⟩ := ht b z.1
    rw [h2] at e
    cases e
    rcases kb.tab htab b z.1 with q | ⟨c', q, _⟩
    · exact .inl q
    · exact .inr (.inl ⟨h1, rfl, #[], #[.int (C.tq b).1 0, .int (C.tq b).2.1 0, .ref c'], rfl, by rw [Array.empty_append]; exact q⟩)
  · exact .inl (kb.keep b o e (fun z => z) z)
end Mine
end

noncomputable section
open PySem PySem.W PyProof.Rows
namespace Mine

noncomputable def DefIn (K : Frag) (bd : List Stmt) (sc : Scope) (x : Str) (ps : List Str) (f c : Nat) : Prop :=
  ∃ (fd : FuncData) (vs : Array Value) (t : Tok) (d1 d2 : Option Addr) (k1 k2 : Value) (sl1 sl2 : Array (Option Value)), nsIn K mainGlobals x = some (some (.ref f)) ∧ K.lookup f = some ⟨k1, d1, .func fd, sl1⟩ ∧ fd.code = .ref c ∧ K.lookup c = some ⟨k2, d2, .fields vs, sl2⟩ ∧ vs[1]? = some (.str fd.qualname t) ∧
    fd.body = .stmts bd ∧ fd.scope = sc ∧ fd.closure = [] ∧ fd.globals = mainGlobals ∧ fd.builtins = builtinsNs ∧ fd.qualname = x ∧ (∀ vals : List Value, vals.length = ps.length → bindArgs fd ⟨vals, []⟩ = pure (ps.zip vals))
variable {p : Program} {w : World} {mg mb : Str → Option Value} {K : Frag} {bm : Nat} {ob : Obj} {t1 t2 : Nat} {q1 q2 : Int × Int × Str} {m : Nat} {h : Heap}
noncomputable def nsOk (sc : Scope) (ns ps : List Str) : Bool := decide ns.Nodup && decide (ps = ns.take ps.length) && ns.all fun x => sc.names.lookup x == some .local || sc.names.lookup x == some .cell
theorem nsOk_of {sc : Scope} {ns ps : List Str} (h : nsOk sc ns ps = true) : ns.Nodup ∧ ps = ns.take ps.length ∧ ∀ x ∈ ns, sc.names.lookup x = some .local ∨ sc.names.lookup x = some .cell := by
  unfold nsOk at h
  rw [Bool.and_eq_true, Bool.and_eq_true] at h
  refine ⟨of_decide_eq_true h.1.1, of_decide_eq_true h.1.2, fun x hx => ?_⟩
  have := List.all_eq_true.mp h.2 x hx
  rw [Bool.or_eq_true, beq_iff_eq, beq_iff_eq] at this
  exact this
theorem df_in {P : Program} {i : Nat} {x : Str} {ps : List Str} (ns : List Str) {f c : Nat} (D : DefIn K (bodyAt P i) (scopeAt P i) x ps f c) (X : K.In h) (hg : h.Ns mainGlobals mg) (hk : (scopeAt P i).kind = .function) (hco : (scopeAt P i).isCoroutine = false) (hge : (scopeAt P i).isGenerator = false) (hn : nsOk (scopeAt P i) ns ps = true)
    (z1 : f ≠ t1) (z2 : f ≠ t2) (z3 : c ≠ t1) (z4 : c ≠ t2) : Df (mkC p w mg mb K bm ob t1 t2 q1 q2 m) P i x ps ns f := by
  obtain ⟨fd, vs, t, d1, d2, k1, k2, sl1, sl2, e1, e2, e3, e4, e5, e6, e7, e8, e9, e10, e11, e12⟩ := D
  obtain ⟨n1, n2, n3⟩ := nsOk_of hn
  exact df_of (mg_of X hg e1) (mkC_fr z1 z2 e2) e3 (mkC_fr z3 z4 e4) e5 e6 e7 e8 e9 e10 e12 hk hco hge n1 n2 n3
theorem dg_in {bd : List Stmt} {sc : Scope} {x : Str} {ps : List Str} (ns : List Str) {f c : Nat} (D : DefIn K bd sc x ps f c) (X : K.In h) (hg : h.Ns mainGlobals mg) (hk : sc.kind = .function) (hco : sc.isCoroutine = false) (hge : sc.isGenerator = true) (nd : ns.Nodup) (pre : ps = ns.take ps.length)
    (kinds : ∀ x ∈ ns, sc.names.lookup x = some .local) (nocell : ∀ x ∈ sc.names, x.2 ≠ .cell) (z1 : f ≠ t1) (z2 : f ≠ t2) (z3 : c ≠ t1) (z4 : c ≠ t2) :
    mg x = some (.ref f) ∧ isFn ((mkC p w mg mb K bm ob t1 t2 q1 q2 m).fr f) = true ∧ ∃ fd, DefG (mkC p w mg mb K bm ob t1 t2 q1 q2 m) f fd bd ps ns ∧ fd.scope = sc := by
  obtain ⟨fd, vs, t, d1, d2, k1, k2, sl1, sl2, e1, e2, e3, e4, e5, e6, e7, e8, e9, e10, e11, e12⟩ := D
  have hf := mkC_fr (p := p) (w := w) (mg := mg) (mb := mb) (bm := bm) (ob := ob) (q1 := q1) (q2 := q2) (m := m) z1 z2 e2
  refine ⟨mg_of X hg e1, by rw [hf]; rfl, fd, ⟨⟨_, hf, rfl⟩, e6, e8, e9, e10, ⟨c, _, vs, t, e3, mkC_fr z3 z4 e4, rfl, e5⟩, e12, e7 ▸ hk, e7 ▸ hco, e7 ▸ hge, nd, pre, e7 ▸ kinds, e7 ▸ nocell⟩, e7⟩
theorem inv_in {s : Shared} (n1 : K.lookup t1 = none) (n2 : K.lookup t2 = none) (I : Inv (mkC p w mg mb K bm ob t1 t2 q1 q2 m) s) : K.In s.heap := fun (a : Nat) o e => by
  have z1 : a ≠ t1 := fun z => by rw [z, n1] at e; cases e
  have z2 : a ≠ t2 := fun z => by rw [z, n2] at e; cases e
  exact I.fr a o (mkC_fr z1 z2 e)
structure BmOk (mg : Str → Option Value) (K : Frag) (bm : Nat) (ob : Obj) (t1 t2 : Nat) : Prop where
  glob : mg "__builtins__" = some (.ref bm)
  ne0 : bm ≠ builtinsNs
  ne3 : bm ≠ mainGlobals
  n1 : bm ≠ t1
  n2 : bm ≠ t2
  cls : ob.cls = .type "module"
  dict : ob.dict = some builtinsNs
  data : ob.data = .plain
  same : ∀ o, K.lookup bm = some o → o = ob
theorem nest_in {c P : Nat} {pos : Pos} {q : Str} (hP : P = t1 ∨ P = t2) (B : BmOk mg K bm ob t1 t2) (n1 : K.lookup t1 = none) (n2 : K.lookup t2 = none) (hc : codeHdIn K c P = true) (hq : (mkC p w mg mb K bm ob t1 t2 q1 q2 m).tq P = ((pos.line : Int), (pos.col : Int), q)) :
    Nest (mkC p w mg mb K bm ob t1 t2 q1 q2 m) c P pos q where
  hd := fun s I => codeHd_of_K (inv_in n1 n2 I) hc
  bl := fun s I => ⟨bm, ob, B.glob, B.ne0, B.ne3, fun z => by rcases hP with e | e <;> (rw [e] at z; first | exact B.n1 z | exact B.n2 z), I.fr _ _ (mkC_bm B.n1 B.n2 B.same), B.cls, B.dict, B.data⟩
  t := hP
  q := hq
theorem parts_in {P : Program} {i : Nat} {x : Str} {ps : List Str} (ns : List Str) {f c : Nat} (D : DefIn K (bodyAt P i) (scopeAt P i) x ps f c) (X : K.In h) (hg : h.Ns mainGlobals mg) (hk : (scopeAt P i).kind = .function) (hco : (scopeAt P i).isCoroutine = false) (hge : (scopeAt P i).isGenerator = false) (hn : nsOk (scopeAt P i) ns ps = true)
    (z1 : f ≠ t1) (z2 : f ≠ t2) (z3 : c ≠ t1) (z4 : c ≠ t2) : mg x = some (.ref f) ∧ ∃ fd, DefOk (mkC p w mg mb K bm ob t1 t2 q1 q2 m) f fd (bodyAt P i) ps ns ∧ fd.scope = scopeAt P i ∧ fd.code = .ref c ∧ fd.qualname = x := by
  obtain ⟨fd, vs, t, d1, d2, k1, k2, sl1, sl2, e1, e2, e3, e4, e5, e6, e7, e8, e9, e10, e11, e12⟩ := D
  obtain ⟨n1, n2, n3⟩ := nsOk_of hn
  exact ⟨mg_of X hg e1, fd, ⟨⟨_, mkC_fr z1 z2 e2, rfl⟩, e6, e8, e9, e10, ⟨c, _, vs, t, e3, mkC_fr z3 z4 e4, rfl, e5⟩, e12, e7 ▸ hk, e7 ▸ hco, e7 ▸ hge, n1, n2, e7 ▸ n3⟩, e7, e3, e11⟩
noncomputable def PatIn (K : Frag) (a c : Nat) (code : Array Nat) (kind : Nat) : Prop :=
  ∃ (vs items : Array Value) (n : Nat) (k2 : Value) (d2 : Option Addr) (s1 s2 : Array (Option Value)), K.lookup a = some ⟨.type "re.Pattern", none, .fields vs, s1⟩ ∧ vs.getD 5 .none = .ref c ∧ Builtin.Re.reRawNat (vs.getD 6 .none) = kind ∧ Builtin.Re.reRawNat (vs.getD 2 .none) = 0 ∧
    K.lookup c = some ⟨k2, d2, .seq items n, s2⟩ ∧ (items.map Builtin.Re.reRawOf).map (·.toNat) = code
theorem pat_in {a c : Nat} {code : Array Nat} {kind : Nat} (D : PatIn K a c code kind) (z1 : a ≠ t1) (z2 : a ≠ t2) (z3 : c ≠ t1) (z4 : c ≠ t2) : PatOk (mkC p w mg mb K bm ob t1 t2 q1 q2 m) a code kind := by
  obtain ⟨vs, items, n, k2, d2, s1, s2, e1, e2, e3, e4, e5, e6⟩ := D
  exact ⟨_, vs, c, _, items, n, mkC_fr z1 z2 e1, rfl, rfl, rfl, e2, e3, e4, mkC_fr z3 z4 e5, rfl, e6⟩
theorem tab_in {c P : Nat} {s : Heap} (X : K.In s) (hc : codeHdIn K c P = true) : isCodeTable s P := by
  obtain ⟨o, vs, _, _, _, _, _, _, _, h1, h2, h3, h4, _⟩ := codeHd_of_K X hc
  exact ⟨c, o, vs, h1, h2, h3, h4⟩
theorem len_cons {n : Nat} {l : List Value} (h : l.length = n + 1) : ∃ a t, l = a :: t ∧ t.length = n := by
  cases l with
  | nil => cases h
  | cons a t => exact ⟨a, t, rfl, Nat.succ.inj h⟩
theorem bind1 {fd : FuncData} {ps : List Str} (hl : ps.length = 1) (h : ∀ a, bindArgs fd ⟨[a], []⟩ = pure (ps.zip [a])) (vals : List Value) (q : vals.length = ps.length) : bindArgs fd ⟨vals, []⟩ = pure (ps.zip vals) := by
  have q0 := q.trans hl
  clear q
  obtain ⟨a, l0, rfl, q1⟩ := len_cons q0
  cases List.eq_nil_of_length_eq_zero q1
  exact h a
theorem bind2 {fd : FuncData} {ps : List Str} (hl : ps.length = 2) (h : ∀ a b, bindArgs fd ⟨[a, b], []⟩ = pure (ps.zip [a, b])) (vals : List Value) (q : vals.length = ps.length) : bindArgs fd ⟨vals, []⟩ = pure (ps.zip vals) := by
  have q0 := q.trans hl
  clear q
  obtain ⟨a, l0, rfl, q1⟩ := len_cons q0
  obtain ⟨b, l1, rfl, q2⟩ := len_cons q1
  cases List.eq_nil_of_length_eq_zero q2
  exact h a b
theorem bind3 {fd : FuncData} {ps : List Str} (hl : ps.length = 3) (h : ∀ a b c, bindArgs fd ⟨[a, b, c], []⟩ = pure (ps.zip [a, b, c])) (vals : List Value) (q : vals.length = ps.length) : bindArgs fd ⟨vals, []⟩ = pure (ps.zip vals) := by
  have q0 := q.trans hl
  clear q
  obtain ⟨a, l0, rfl, q1⟩ := len_cons q0
  obtain ⟨b, l1, rfl, q2⟩ := len_cons q1
  obtain ⟨c, l2, rfl, q3⟩ := len_cons q2
  cases List.eq_nil_of_length_eq_zero q3
  exact h a b c
theorem bind6 {fd : FuncData} {ps : List Str} (hl : ps.length = 6) (h : ∀ a b c d e f, bindArgs fd ⟨[a, b, c, d, e, f], []⟩ = pure (ps.zip [a, b, c, d, e, f])) (vals : List Value) (q : vals.length = ps.length) : bindArgs fd ⟨vals, []⟩ = pure (ps.zip vals) := by
  have q0 := q.trans hl
  clear q
  obtain ⟨a, l0, rfl, q1⟩ := len_cons q0
  obtain ⟨b, l1, rfl, q2⟩ := len_cons q1
  obtain ⟨c, l2, rfl, q3⟩ := len_cons q2
  obtain ⟨d, l3, rfl, q4⟩ := len_cons q3
  obtain ⟨e, l4, rfl, q5⟩ := len_cons q4
  obtain ⟨f, l5, rfl, q6⟩ := len_cons q5
  cases List.eq_nil_of_length_eq_zero q6
  exact h a b c d e f
theorem DefIn.glob {bd : List Stmt} {sc : Scope} {x : Str} {ps : List Str} {f c : Nat} (D : DefIn K bd sc x ps f c) : nsIn K mainGlobals x = some (some (.ref f)) := by
  obtain ⟨fd, vs, t, d1, d2, k1, k2, sl1, sl2, e1, _⟩ := D
  exact e1
theorem DefIn.there {bd : List Stmt} {sc : Scope} {x : Str} {ps : List Str} {f c : Nat} (D : DefIn K bd sc x ps f c) : ∃ o, K.lookup f = some o := by
  obtain ⟨fd, vs, t, d1, d2, k1, k2, sl1, sl2, e1, e2, _⟩ := D
  exact ⟨_, e2⟩
theorem defIn_of {bd : List Stmt} {sc : Scope} {x : Str} {ps : List Str} {f c : Nat} {fd : FuncData} {vs : Array Value} {t : Tok} {d1 d2 : Option Addr} {k1 k2 : Value} {sl1 sl2 : Array (Option Value)} (e1 : nsIn K mainGlobals x = some (some (.ref f))) (e2 : K.lookup f = some ⟨k1, d1, .func fd, sl1⟩) (e3 : fd.code = .ref c) (e4 : K.lookup c = some ⟨k2, d2, .fields vs, sl2⟩) (e5 : vs[1]? = some (.str fd.qualname t)) (e6 : fd.body = .stmts bd) (e7 : fd.scope = sc) (e8 : fd.closure = []) (e9 : fd.globals = mainGlobals) (e10 : fd.builtins = builtinsNs) (e11 : fd.qualname = x) (e12 : ∀ vals : List Value, vals.length = ps.length → bindArgs fd ⟨vals, []⟩ = pure (ps.zip vals)) : DefIn K bd sc x ps f c :=
  ⟨fd, vs, t, d1, d2, k1, k2, sl1, sl2, e1, e2, e3, e4, e5, e6, e7, e8, e9, e10, e11, e12⟩
theorem patIn_of {a c : Nat} {code : Array Nat} {kind : Nat} {vs items : Array Value} {n : Nat} {k2 : Value} {d2 : Option Addr} {s1 s2 : Array (Option Value)} (e1 : K.lookup a = some ⟨.type "re.Pattern", none, .fields vs, s1⟩) (e2 : vs.getD 5 .none = .ref c) (e3 : Builtin.Re.reRawNat (vs.getD 6 .none) = kind) (e4 : Builtin.Re.reRawNat (vs.getD 2 .none) = 0) (e5 : K.lookup c = some ⟨k2, d2, .seq items n, s2⟩) (e6 : (items.map Builtin.Re.reRawOf).map (·.toNat) = code) : PatIn K a c code kind :=
  ⟨vs, items, n, k2, d2, s1, s2, e1, e2, e3, e4, e5, e6⟩
noncomputable def chkD (sc : Scope) (ns ps : List Str) (f c t1 t2 : Nat) : Bool := decide (sc.kind = .function) && (!sc.isCoroutine) && (!sc.isGenerator) && nsOk sc ns ps && decide (f ≠ t1) && decide (f ≠ t2) && decide (c ≠ t1) && decide (c ≠ t2)
theorem df_chk {P : Program} {i : Nat} {x : Str} {ps : List Str} (ns : List Str) {f c : Nat} (D : DefIn K (bodyAt P i) (scopeAt P i) x ps f c) (X : K.In h) (hg : h.Ns mainGlobals mg) (z : chkD (scopeAt P i) ns ps f c t1 t2 = true) : Df (mkC p w mg mb K bm ob t1 t2 q1 q2 m) P i x ps ns f := by
  unfold chkD at z
  simp only [Bool.and_eq_true, decide_eq_true_eq, Bool.not_eq_true'] at z
  exact df_in ns D X hg z.1.1.1.1.1.1.1 z.1.1.1.1.1.1.2 z.1.1.1.1.1.2 z.1.1.1.1.2 z.1.1.1.2 z.1.1.2 z.1.2 z.2
theorem parts_chk {P : Program} {i : Nat} {x : Str} {ps : List Str} (ns : List Str) {f c : Nat} (D : DefIn K (bodyAt P i) (scopeAt P i) x ps f c) (X : K.In h) (hg : h.Ns mainGlobals mg) (z : chkD (scopeAt P i) ns ps f c t1 t2 = true) : mg x = some (.ref f) ∧ ∃ fd, DefOk (mkC p w mg mb K bm ob t1 t2 q1 q2 m) f fd (bodyAt P i) ps ns ∧ fd.scope = scopeAt P i ∧ fd.code = .ref c ∧ fd.qualname = x := by
  unfold chkD at z
  simp only [Bool.and_eq_true, decide_eq_true_eq, Bool.not_eq_true'] at z
  exact parts_in ns D X hg z.1.1.1.1.1.1.1 z.1.1.1.1.1.1.2 z.1.1.1.1.1.2 z.1.1.1.1.2 z.1.1.1.2 z.1.1.2 z.1.2 z.2
end Mine
end

noncomputable section
open PySem PySem.W PyProof.Rows
namespace Mine
variable {C : Cx} {k : Nat} {sc : Scope} {ns : List Str} {Γ : List Sl} {d : PyData}

theorem Ex.assignS (W : Wf C) {x : Str} {p' p : Pos} {val : Expr} {rest : List Stmt} {Q : Out → Prop} (i : Nat) (hev : Ev C k sc ns Γ val d) (hr : Ex C k sc ns (Γ.set i (.v d)) rest Q) (hs : ∀ env : Env, env.scope = sc → swapsWith val (some (.Name x p')) p.line env = pure false) (hx : ns[i]? = some x := by rfl) (hi : i < Γ.length := by exact of_decide_eq_true rfl) :
    Ex C k sc ns Γ (.Assign [.Name x p'] val p :: rest) Q :=
  .cons W fun A env lo S s R I F => wpAny_Assign_Name (hev.go W R I F fun v s₁ k₁ r₁ I₁ F₁ => frame_storeV W F₁ hx (.inl rfl) hi r₁ fun s₂ k₂ F₂ => ⟨.next (Γ.set i (.v d)), hr, k₁.no.trans k₂, S, SExt.refl, F₂⟩) (hs env F.scope)
end Mine
end

noncomputable section
open PySem PySem.W PyProof.Rows
namespace Mine

theorem filter_run {α : Type} (xs : List α) : ∀ (n a : Nat), a + n ≤ xs.length → ((List.range' a n).filterMap (xs[·]?)) = (xs.drop a).take n
  | 0, a, h => by simp
  | n + 1, a, h => by
    have h1 : a < xs.length := by lia
    rw [List.range'_succ, List.filterMap_cons, List.getElem?_eq_getElem h1, List.drop_eq_getElem_cons h1, List.take_succ_cons, filter_run xs n (a + 1) (by lia)]
theorem lslice_nat {xs : List PyData} {lo hi : Option Int} {a b : Nat} (e : sliceBounds lo hi none xs.length = ((a : Int), (b : Int), 1)) (hb : b ≤ xs.length) (ha : a ≤ b) : lslice xs lo hi none = (xs.drop a).take (b - a) := by
  unfold lslice
  rw [e, ← filter_run xs (b - a) a (by lia)]
  show List.filterMap _ (sliceRange (a : Int) (b : Int) 1) = _
  rw [sliceRange_one, List.range'_eq_map_range]
theorem lslice_from {xs : List PyData} {a : Nat} (h : a ≤ xs.length) : lslice xs (some (a : Int)) none none = xs.drop a := by
  have e : sliceBounds (some (a : Int)) none none xs.length = ((a : Int), ((xs.length : Nat) : Int), 1) := by
    simp only [sliceBounds, Option.getD_none, show (1 : Int) > 0 by decide, if_true, if_neg (show ¬ ((a : Int) < 0) by lia)]
    congr 1
    lia
  rw [lslice_nat e (Nat.le_refl _) h, List.take_of_length_le (by rw [List.length_drop]; lia)]
theorem lslice_to {xs : List PyData} {b : Nat} (h : b ≤ xs.length) : lslice xs none (some (b : Int)) none = xs.take b := by
  have e : sliceBounds none (some (b : Int)) none xs.length = (((0 : Nat) : Int), (b : Int), 1) := by
    simp only [sliceBounds, Option.getD_none, show (1 : Int) > 0 by decide, if_true, if_neg (show ¬ ((b : Int) < 0) by lia)]
    congr 1
    congr 1
    lia
  rw [lslice_nat e h (Nat.zero_le _), List.drop_zero, Nat.sub_zero]
theorem swaps_cell {t : Str} {pos : Pos} {e : Expr} {ln : Nat} {env : Env} {sc : Scope} (h : env.scope = sc) (hk : (sc.names.lookup t == some .local) = false) : swapsWith e (some (.Name t pos)) ln env = pure false := by
  unfold swapsWith
  split
  · have : (env.kindOf t == some .local) = false := by unfold Env.kindOf; rw [h]; exact hk
    show (pure _ : Sem Bool) = _
    rw [this]; simp
  · rfl
end Mine
end

noncomputable section
open PySem PySem.W PyProof.Rows
namespace Mine
variable {C : Cx} {k : Nat} {sc : Scope} {ns : List Str} {fn : Str → Bool} {env : Env} {lo : Nat} {S S' S'' : Addr → Prop} {Γ Γ' : List Sl} {s s' s'' : Shared} {A : Around} {Mu : Addr → Prop} {e : Expr} {d : PyData}

section
variable {prog : Program} {w : World} {A : Around} {E : Value → Shared → Prop} {s : Shared} {elt : Expr} {gens : List Comprehension} {scope : Scope} {pos : Pos} {depth : Nat} {it acc : Value} {env : Env} {g : Comprehension} {Q : Fin → Shared → Prop}
theorem wp_compTurnMore {g' : Comprehension} (hg : gens[depth]? = some g) (ha : g.is_async = 0) (hl : gens[depth + 1]? = .some g') (ha' : g'.is_async = 0) (hs : ∀ x, foldedSetIterable g'.iter env x = pure x)
    (h : wpAny (model prog w) A (pyNext it) (fun r s₁ => match r with
      | .none => Q (.done .next) s₁
      | .some v => wpAny (model prog w) A (letOwnedTupleGo g.target it v) (fun _ s₂ => wpAny (model prog w) A (assign g.target env v) (fun _ s₃ =>
        wpAny (model prog w) A (forIn g.ifs true fun c r => if r = true then do let ok ← isTrue c env (eval c env); pure (ForInStep.yield ok) else pure (ForInStep.yield r)) (fun ok s₄ =>
          if ok = true then wpAny (model prog w) A (eval g'.iter env) (fun x s₅ => wpAny (model prog w) A (pyIter x) (fun i s₆ =>
            codeAny (model prog w) A (.compStart (.ListComp elt gens scope pos) (depth + 1) i acc env) (fun r s₇ => r = .ok .next ∧ Q (.again (.compLoop (.ListComp elt gens scope pos) depth it acc env)) s₇) s₆) E s₅) E s₄
          else Q (.again (.compLoop (.ListComp elt gens scope pos) depth it acc env)) s₄) E s₃) E s₂) E s₁) E s) :
    wpAny (model prog w) A (compTurn (.ListComp elt gens scope pos) depth it acc env) Q E s := by
  refine wp_compTurn hg ha _ (fun z => by rw [hl]) (wpAny_mono h (fun r s₁ h₁ => ?_) fun _ _ z => z)
  cases r with
  | none => exact h₁
  | some v =>
    refine wpAny_mono h₁ (fun _ s₂ h₂ => wpAny_mono h₂ (fun _ s₃ h₃ => wpAny_mono h₃ (fun ok s₄ h₄ => ?_) fun _ _ z => z) fun _ _ z => z) fun _ _ z => z
    cases ok with
    | false => exact h₄
    | true =>
      rw [if_pos rfl] at h₄ ⊢
      have e : (g'.is_async != 0) = false := by rw [ha']; rfl
      refine wpAny_bind (wpAny_mono h₄ (fun x s₅ h₅ => wpAny_bind (wpAny_standAt ?_)) fun _ _ z => z)
      rw [e, if_neg Bool.false_ne_true]
      refine wpAny_bind (wpAny_of_eq (hs x) (wpAny_bind (wpAny_holding ?_)))
      rw [if_neg Bool.false_ne_true]
      refine wpAny_mono h₅ (fun i s₆ h₆ => wpAny_bind (wpAny_runOwn (codeAny_mono h₆ fun r s₇ h₇ => ?_))) fun _ _ z => z
      obtain ⟨rfl, h₇⟩ := h₇
      exact wpAny_pure h₇
end
theorem loop2 (W : Wf C) {elt : Expr} {gens : List Comprehension} {scope : Scope} {pos : Pos} {fs : List Sl} {depth : Nat} {g g' : Comprehension} {J : List Sl → Prop} (hg : gens[depth]? = some g) (hasy : g.is_async = 0) (hg1 : gens[depth + 1]? = some g') (hasy' : g'.is_async = 0) (hfold : ∀ (env : Env) x, foldedSetIterable g'.iter env x = pure x) {xs : List PyData} {yss : List (List PyData)}
    (hall : All2 (fun x ys => ∀ ts : List Sl, J ts → ∃ ts₂ : List Sl, AsgOk C k fn sc ns g.target x (ts ++ fs) (ts₂ ++ fs) ∧ IfsOk C k sc ns (ts₂ ++ fs) g.ifs true ∧ ∃ (J' : List Sl → Prop) (xs' : List PyData), J' ts₂ ∧ (∀ ts, J' ts → J ts) ∧ Src C k sc ns (ts₂ ++ fs) g'.iter xs' ∧ GenOk C k fn sc ns fs (.ListComp elt gens scope pos) (depth + 1) J' xs' ys) xs yss) :
    GenOk C k fn sc ns fs (.ListComp elt gens scope pos) depth J xs yss.flatten := by
  induction hall with
  | nil => exact comp_none W hg hasy
  | @cons x ys xs yss hx hrest ih =>
    intro A env lo S acc it s ts out P hJ X hsz
    obtain ⟨ts₂, hasg, hifs, J', xs', hJ', hJJ, hsrc, hin⟩ := hx ts hJ
    rw [List.flatten_cons, List.length_append] at hsz
    refine comp_code (wp_compTurnMore hg hasy hg1 hasy' (hfold env) (comp_turn W P X hasg hifs fun s₃ k₃ X₃ => ?_))
    rw [if_pos rfl]
    refine wq (hsrc A env fn lo S s₃ P.R X₃.at_.inv X₃.at_.fr) fun xv s₄ h₄ => wq h₄ fun iv s₅ h₅ => ?_
    obtain ⟨it', rfl, k₅, hit', hb', ho'⟩ := h₅
    have X₅ := X₃.at_.no W k₅
    have hS' : ¬ S it' := fun z => by obtain ⟨o, e⟩ := X₃.at_.fr.bd _ z; rw [hit'] at e; cases e
    have inner := hin A env lo S acc it' s₅ ts₂ out ⟨P.R, P.sa, P.la, P.ba, hS', hb'⟩ hJ' ⟨X₅, ho'⟩ (by lia)
    refine codeAny_mono (comp_start hg1 hasy' inner (ho'.self inner)) fun r s₆ h₆ => ⟨h₆.res, rfl, ?_⟩
    obtain ⟨ts₃, hJ₃, X₆⟩ := h₆.at_
    have k₃₆ : KB C (MuC it acc lo S) s₃ s₆ := KB.drop (x := it') hit' ((k₅.no (Mu := MuC it' acc lo S)).trans h₆.kb) fun a z => by
      rcases z with z | z
      · exact .inr z
      · exact .inl (.inr z)
    have ho₆ : ItOk C A S it xs s₆.heap := (((X₃.it.both (S' := (· = it')) fun b z => .inr (z ▸ hit')).kb k₅ fun a z => False.elim z).kb h₆.kb fun a z => by
      rcases z with z | z | z
      · exact .inr z
      · exact .inl (z ▸ P.sa)
      · exact .inl z.1).avoid fun b m z => m (.inl z)
    exact codeAny_mono (ih A env lo S acc it s₆ ts₃ (out ++ ys) P (hJJ _ hJ₃) ⟨X₆, ho₆⟩ (by rw [List.length_append]; lia)) fun r s' h => h.after (k₃.trans k₃₆)
theorem GenOk.cast {fs : List Sl} {depth : Nat} {J : List Sl → Prop} {xs ys zs : List PyData} (h : GenOk C k fn sc ns fs e depth J xs ys) (q : ys = zs) : GenOk C k fn sc ns fs e depth J xs zs := q ▸ h
theorem Ex.assignG (W : Wf C) {x : Str} {p' p : Pos} {cs : Scope} {elt t iter : Expr} {ifs : List Expr} {rest : List Comprehension} {pos : Pos} {st : List Stmt} {Q : Out → Prop} (i : Nat) (tns fns : List Str) {xs ys : List PyData} (hc : CompOk sc ns cs tns fns)
    (hsrc : Src C k sc ns Γ iter xs)
    {J : List Sl → Prop} (hJ : J (List.replicate tns.length .un)) (hgen : GenOk C k (fun x => tns.contains x) (relab cs sc) (tns ++ fns) (fns.map (pickS ns Γ)) (.ListComp elt (⟨t, iter, ifs, 0⟩ :: rest) cs pos) 0 J xs ys) (hsz : ys.length ≤ sizeLine)
    (hr : Ex C k sc ns (Γ.set i (.v (.list ys))) st Q)
    (hx : ns[i]? = some x := by rfl) (hi : i < Γ.length := by exact of_decide_eq_true rfl) (hl : sc.names.lookup x = some .local := by rfl) (hln : (p'.line == pos.line) = true := by rfl) (hnt : (cs.names.any fun (n, k) => n == x && (k == .local || k == .cell)) = false := by decide)
    (hs : ∀ (env : Env) x, foldedSetIterable iter env x = pure x := by intro _ _; rfl) : Ex C k sc ns Γ (.Assign [.Name x p'] (.ListComp elt (⟨t, iter, ifs, 0⟩ :: rest) cs pos) p :: st) Q :=
  .cons W ((Ex1.assignG W i tns fns hc hsrc hJ hgen hsz hx hi hl hln hnt hs).mono fun o h => h ▸ hr)
end Mine
end

noncomputable section
open PySem PySem.W PyProof.Rows
namespace Mine
variable {C : Cx} {k : Nat} {sc : Scope} {ns : List Str} {fn : Str → Bool} {env : Env} {lo : Nat} {S S' S'' : Addr → Prop} {Γ Γ' : List Sl} {s s' s'' : Shared} {A : Around} {Mu : Addr → Prop} {e : Expr} {d d' : PyData}

theorem top_list (W : Wf C) {fa : Addr} {fd : FuncData} {body rest : List Stmt} {x0 x : Str} {v0 : Value} {d0 : PyData} {m i kk : Nat} {i0 : Int} {es : List Expr} {ds : List PyData} {p0 p1 p2 p3 : Pos} (D : DefOk C fa fd body [x0] ns)
    (hb : body = .Assign [.Name x p1] (.List (.Constant (.int i0) kk p0 :: es) p2) p3 :: rest) (hes : EvAll C k fd.scope ns ([d0].map .v ++ List.replicate m .un) es ds) (hsz : ds.length < 1000) (hx : ns[i]? = some x) (hi : i < 1 + m)
    (h : Ex C k fd.scope ns (([d0].map Sl.v ++ List.replicate m Sl.un).set i (.v (.list (.int i0 :: ds)))) rest (fun o => o = .ret d)) (R : Room A (k + 1)) (I : Inv C { s with toks := s.toks + 1 }) (hS : Live s.heap S) (hB : ∀ a, S a → C.base ≤ a) (r : RpAll s.heap S [v0] [d0]) :
    codeAny (model C.prog C.w) A (.call (.ref fa) ⟨[v0], []⟩) (fun r s' => ∃ v, r = .ok (.ret v) ∧ KB C No s s' ∧ Rp s'.heap S v d) s := by
  refine call_frame W m D rfl (by have := R.depth; lia) I hS hB r fun S₁ s₁ kb h1 h2 F => ex_ret (sc := fd.scope) (ns := ns) hS h1 kb ?_
  have k1 : KB C No s₁ { s₁ with toks := s₁.toks + 1 } := KB.toks0
  have I₁ : Inv C { s₁ with toks := s₁.toks + 1 } := I.no W ⟨kb.keep, kb.tab, kb.live, kb.gens, kb.gsize, kb.bare, kb.os, Nat.succ_le_succ kb.tok⟩
  have hsl := sizeLine_eq
  rw [hb]
  refine wpAny_execs_cons (wpAny_Assign_Name (List_ ?_) rfl)
  rw [starEach_cons rfl, backTo_cons]
  refine Calls.spliced_cons (wpAny_Constant_int (hes.go W (R.deeper _) I₁ (F.no W k1) fun vs s₂ k₂ r₂ I₂ F₂ => ?_))
  refine wpAny_newObj_type ?_ (by show (_ :: vs).toArray.size ≤ sizeLine; rw [List.size_toArray, List.length_cons, r₂.length]; lia)
  have k3 : KB C No s₂ { s₂ with heap := s₂.heap.push { cls := .type "list", data := .seq (Value.int i0 s₁.toks :: vs).toArray } } := KB.push
  refine frame_storeV W (F₂.no W k3) hx (.inl rfl) (by rw [List.length_append, List.length_map, List.length_replicate]; exact hi) (.list ⟨_, Heap.get?_push_size _ rfl⟩ F₂.bd.fresh (.cons (.int _ _) r₂.push)) fun s₄ k₄ F₄ => ?_
  have k14 : KB C (MuOf s.heap.objs.size S₁) s₁ s₄ := ((k1.trans k₂).trans k3).no.trans k₄
  refine wq (h _ _ _ S₁ s₄ (R.deeper _) ((F₂.no W k3).inv W (I₂.no W k3) k₄) F₄) fun f s' q => ?_
  obtain ⟨out, hq, k₅, ho⟩ := q
  exact ⟨out, hq, k14.trans k₅, ho.join k14 (fun a z => z.1) SExt.refl⟩
end Mine
end

noncomputable section
open PySem PySem.W PyProof.Rows
namespace Mine
variable {C : Cx} {k : Nat} {sc : Scope} {ns : List Str} {fn : Str → Bool} {env : Env} {lo : Nat} {S S' S'' : Addr → Prop} {Γ Γ' : List Sl} {s s' s'' : Shared} {A : Around} {Mu : Addr → Prop} {e : Expr} {d d' : PyData}

noncomputable abbrev P2 := PySem.Challenge.pw_rs0094_02
noncomputable abbrev ns_div2 : List Str := ["a", "b", "n", "pad", "half_n", "mask", "b1", "b2", "q1", "r", "q2"]
noncomputable abbrev ns_div3 : List Str := ["a12", "a3", "b", "b1", "b2", "n", "q", "r"]

structure GDiv (C : Cx) (P : Program) (i2 i3 : Nat) (a2 a3 : Addr) : Prop where
  W : Wf C
  lim : ∃ t, C.mg "_DIV_LIMIT" = some (.int 4000 t)
  dm0 : C.mg "divmod" = .none
  dm1 : C.mb "divmod" = some (.builtin "divmod")
  d2 : Df C P i2 "_div2n1n" ["a", "b", "n"] ns_div2 a2
  d3 : Df C P i3 "_div3n2n" ["a12", "a3", "b", "b1", "b2", "n"] ns_div3 a3

theorem lt_pow_of {a b n m : Nat} (h : a < 2 ^ n) (hm : n ≤ m) : a < 2 ^ m := Nat.lt_of_lt_of_le h (Nat.pow_le_pow_right (by decide) hm)

theorem ex_div2_small {a2 a3 : Addr} (G : GDiv C P2 3 4 a2 a3) {a b n : Nat} (hb : 0 < b) (h9 : b < 2 ^ 9000) (hs : (nbits a : Int) - n ≤ 4000) :
    Ex C k (scopeAt P2 3) ns_div2 ([PyData.int a, .int b, .int n].map .v ++ List.replicate 8 .un) (bodyAt P2 3) (fun o => o = .ret (.tuple [.int (a / b : Nat), .int (a % b : Nat)])) := by
  have W := G.W
  obtain ⟨t, hlim⟩ := G.lim
  refine Ex.ite W (b := true) ((Ts.cmp W (Ev.bin W (Ev.methI W (Ev.loc 0) .nil F.slot_int_bit_length F.type_int_bit_length Bi.bits) (Ev.loc 2) BinOk.sub) (Ev.globInt rfl hlim) CmpOk.le).cast (decide_eq_true hs)) (fun _ => ?_) (fun z => nomatch z)
  exact Ex.ret W (Ev.callB W rfl G.dm0 G.dm1 (.cons (Ev.loc 0) (.cons (Ev.loc 1) .nil)) (Bi.divmodN hb h9)) rfl

theorem divmod_of {A b : Nat} {q r : Int} (h0 : 0 ≤ r) (h1 : r < b) (e : r = A - q * b) (hq : 0 ≤ q) : q = ((A / b : Nat) : Int) ∧ r = ((A % b : Nat) : Int) := by
  obtain ⟨q', rfl⟩ := Int.eq_ofNat_of_zero_le hq
  obtain ⟨r', rfl⟩ := Int.eq_ofNat_of_zero_le h0
  have hb : 0 < b := by lia
  have e2 : A = b * q' + r' := by
    have : (A : Int) = ((b * q' + r' : Nat) : Int) := by push_cast; rw [Int.mul_comm]; lia
    exact_mod_cast this
  have h1' : r' < b := by lia
  constructor
  · rw [e2, Nat.mul_add_div hb, Nat.div_eq_of_lt h1', Nat.add_zero]
  · rw [e2, Nat.mul_add_mod, Nat.mod_eq_of_lt h1']

noncomputable def divJ (a12 a3 b b1 b2 n : Nat) (m : Nat) (Γ : List Sl) : Prop := ∃ q r : Int, Γ = [.v (.int a12), .v (.int a3), .v (.int b), .v (.int b1), .v (.int b2), .v (.int n), .v (.int q), .v (.int r)] ∧ 0 ≤ q ∧ m = q.toNat ∧ r = ((a12 * 2 ^ n + a3 : Nat) : Int) - q * (b : Int) ∧ r < b
theorem ex_div3_tail {a2 a3' : Addr} (G : GDiv C P2 3 4 a2 a3') {a12 a3 b b1 b2 n q r : Nat} (hb : b = b1 * 2 ^ n + b2) (hb0 : 0 < b) (h3 : a3 < 2 ^ n) (hr : nbits r + n ≤ 2 ^ 27) (hq : nbits q + nbits b2 ≤ 2 ^ 27)
    (hqr : (r : Int) = a12 - q * b1) (hlt : (a12 * 2 ^ n + a3 : Int) - q * b < b) :
    Ex C k (scopeAt P2 4) ns_div3 [.v (.int a12), .v (.int a3), .v (.int b), .v (.int b1), .v (.int b2), .v (.int n), .v (.int q), .v (.int r)] ((bodyAt P2 4).drop 1)
      (fun o => o = .ret (.tuple [.int ((a12 * 2 ^ n + a3) / b : Nat), .int ((a12 * 2 ^ n + a3) % b : Nat)])) := by
  have W := G.W
  refine Ex.assign W 7 (Ev.bin W (Ev.bin W (Ev.bin W (Ev.loc 7) (Ev.loc 5) (BinOk.shlN hr)) (Ev.loc 1) (BinOk.orN h3)) (Ev.bin W (Ev.loc 6) (Ev.loc 4) (BinOk.mulN hq)) BinOk.sub) ?_
  have e0 : ((r * 2 ^ n + a3 : Nat) : Int) - ((q * b2 : Nat) : Int) = ((a12 * 2 ^ n + a3 : Nat) : Int) - (q : Int) * (b : Int) := by
    subst hb
    push_cast
    rw [hqr]
    have : ((a12 : Int) - q * b1) * 2 ^ n = a12 * 2 ^ n - q * (b1 * 2 ^ n) := by rw [Int.sub_mul, Int.mul_assoc]
    rw [this, Int.mul_add]; lia
  rw [e0]
  refine Ex.while W (divJ a12 a3 b b1 b2 n) q ⟨q, _, rfl, Int.natCast_nonneg _, rfl, rfl, by push_cast; push_cast at hlt; exact hlt⟩ ?_
  rintro m Γ₁ ⟨q, r, rfl, hq0, hm, hr, hlt⟩
  refine ⟨_, Ts.cmp W (Ev.loc 7) Ev.int CmpOk.lt, fun hneg => ?_, fun hneg => ?_⟩
  · have hneg : r < 0 := of_decide_eq_true hneg
    have hq1 : 0 < q := by
      rcases Int.lt_or_le 0 q with h | h
      · exact h
      · have : q = 0 := by lia
        subst this
        rw [Int.zero_mul] at hr; lia
    refine Ex.aug W 6 Ev.int InpOk.sub (Ex.aug W 7 (Ev.loc 2) InpOk.add (Ex.nil ⟨q.toNat - 1, by lia, q - 1, r + b, rfl, by lia, by lia, ?_, by lia⟩))
    rw [Int.sub_mul, Int.one_mul]; lia
  · have hneg : 0 ≤ r := by have := of_decide_eq_false hneg; lia
    obtain ⟨e1, e2⟩ := divmod_of hneg hlt hr hq0
    refine Ex.ret W (Ev.tuple W (.cons (Ev.loc 6) (.cons (Ev.loc 7) .nil))) ?_
    rw [e1, e2]

theorem nbits_two_pow_sub (n : Nat) : nbits (2 ^ n - 1) ≤ n := nbits_le (by have := Nat.one_le_two_pow (n := n); lia)

theorem fn_div3 {a2 a3' : Addr} (G : GDiv C P2 3 4 a2 a3') {a12 a3 b b1 b2 n : Nat} (hb : b = b1 * 2 ^ n + b2) (hb0 : 0 < b) (h3 : a3 < 2 ^ n) (hn : n ≤ 100000) (hb2 : b2 < 2 ^ n) (hb1 : b1 < 2 ^ n) (hA : a12 * 2 ^ n + a3 < b * 2 ^ n)
    (H : ∀ a : Nat, a < b1 * 2 ^ n → 0 < b1 → Fn C k a2 [.int a, .int b1, .int n] (.tuple [.int (a / b1 : Nat), .int (a % b1 : Nat)])) :
    Fn C (k + 1) a3' [.int a12, .int a3, .int b, .int b1, .int b2, .int n] (.tuple [.int ((a12 * 2 ^ n + a3) / b : Nat), .int ((a12 * 2 ^ n + a3) % b : Nat)]) := by
  have W := G.W
  refine G.d3.toFn W 2 rfl ?_
  have p0 : 0 < 2 ^ n := Nat.two_pow_pos n
  have ha12 : a12 < b := by
    rcases Nat.lt_or_ge a12 b with h | h
    · exact h
    · have := Nat.mul_le_mul_right (2 ^ n) h; lia
  have hbb : b < 2 ^ n * 2 ^ n := by
    subst hb
    calc b1 * 2 ^ n + b2 < b1 * 2 ^ n + 2 ^ n := by lia
      _ = (b1 + 1) * 2 ^ n := by rw [Nat.add_mul, Nat.one_mul]
      _ ≤ 2 ^ n * 2 ^ n := Nat.mul_le_mul_right _ hb1
  have hd : a12 / 2 ^ n ≤ b1 := by
    have h1 : a12 / 2 ^ n ≤ b / 2 ^ n := Nat.div_le_div_right (Nat.le_of_lt ha12)
    have h2 : b / 2 ^ n = b1 := by rw [hb, Nat.mul_comm, Nat.mul_add_div p0, Nat.div_eq_of_lt hb2, Nat.add_zero]
    lia
  have hdm := Nat.div_add_mod a12 (2 ^ n)
  have hml := Nat.mod_lt a12 p0
  have nb2 : nbits b2 ≤ n := nbits_le hb2
  refine Ex.ite W (Ts.cmp W (Ev.bin W (Ev.loc 0) (Ev.loc 5) BinOk.shrN) (Ev.loc 3) CmpOk.eqi) (fun ht => ?_) (fun ht => ?_)
  · have he : a12 / 2 ^ n = b1 := by have := eq_of_beq ht; exact_mod_cast this
    rw [he] at hdm
    have hdm' : b1 * 2 ^ n ≤ a12 := by rw [Nat.mul_comm]; lia
    have hr0 : a12 - b1 * 2 ^ n < 2 ^ n := by rw [Nat.mul_comm]; lia
    have nb1 : nbits b1 ≤ n := nbits_le hb1
    have hp1 := Nat.one_le_two_pow (n := n)
    refine Ex.tupSwap (names := ["q", "r"]) (is := [6, 7]) W (Ev.tuple W (.cons (Ev.bin W (Ev.bin W (Ev.int) (Ev.loc 5) ((BinOk.shlN (a := 1) (n := n) (by have : nbits 1 ≤ 1 := nbits_le (by decide); lia)).cast (d' := .int ((2 ^ n : Nat) : Int)) (int2 (by rw [Nat.one_mul])))) Ev.int ((BinOk.subN (a := 2 ^ n) (b := 1) hp1)))
      (.cons (Ev.bin W (Ev.bin W (Ev.loc 0) (Ev.bin W (Ev.loc 3) (Ev.loc 5) (BinOk.shlN (by lia))) (BinOk.subN hdm')) (Ev.loc 3) BinOk.addN) .nil))) ?_ ?_ (hw := fun env he => ?_)
    · refine Ex.nil ?_
      refine ex_div3_tail G hb hb0 h3 ?_ ?_ ?_ ?_
      · have : nbits (a12 - b1 * 2 ^ n + b1) ≤ n + 1 := nbits_le (by rw [Nat.pow_succ]; lia)
        lia
      · have := nbits_two_pow_sub n; lia
      · push_cast [hdm', hp1]; rw [Int.sub_mul, Int.one_mul, Int.mul_comm (2 ^ n : Int) (b1 : Int)]; lia
      · push_cast [hp1]
        have e1 : ((2 : Int) ^ n - 1) * b = b * 2 ^ n - b := by rw [Int.sub_mul, Int.one_mul, Int.mul_comm]
        rw [e1]
        have := hA
        have h' : (a12 : Int) * 2 ^ n + a3 < b * 2 ^ n := by exact_mod_cast hA
        lia
    · intro j; rcases j with _ | _ | j <;> rfl
    · cases env; simp only at he; subst he; rfl
  · have hne : a12 / 2 ^ n ≠ b1 := fun h => by rw [h] at ht; simp at ht
    have hlt : a12 / 2 ^ n < b1 := Nat.lt_of_le_of_ne hd hne
    have hb10 : 0 < b1 := Nat.lt_of_le_of_lt (Nat.zero_le _) hlt
    have hal : a12 < b1 * 2 ^ n := (Nat.div_lt_iff_lt_mul p0).mp hlt
    refine Ex.tup W (.cons 6 (.cons 7 .nil)) (G.d2.call W rfl (.cons (Ev.loc 0) (.cons (Ev.loc 3) (.cons (Ev.loc 5) .nil))) (H a12 hal hb10)) (Ex.nil ?_)
    have hq : a12 / b1 < 2 ^ n := (Nat.div_lt_iff_lt_mul hb10).mpr (by rw [Nat.mul_comm]; exact hal)
    have hrl := Nat.mod_lt a12 hb10
    refine ex_div3_tail G hb hb0 h3 ?_ ?_ ?_ ?_
    · have : nbits (a12 % b1) ≤ n := nbits_le (by lia)
      lia
    · have : nbits (a12 / b1) ≤ n := nbits_le hq
      lia
    · have := Nat.div_add_mod a12 b1
      have h' : (a12 : Int) = ((a12 / b1 : Nat) : Int) * b1 + (a12 % b1 : Nat) := by rw [Int.mul_comm]; exact_mod_cast this.symm
      generalize ((a12 / b1 : Nat) : Int) * b1 = X at h' ⊢
      generalize ((a12 % b1 : Nat) : Int) = Y at h' ⊢
      lia
    · have := Nat.div_add_mod a12 b1
      have key : a12 * 2 ^ n + a3 < b + (a12 / b1) * b := by
        calc a12 * 2 ^ n + a3 < a12 * 2 ^ n + 2 ^ n := by lia
          _ = (b1 * (a12 / b1) + (a12 % b1) + 1) * 2 ^ n := by rw [this, Nat.add_mul, Nat.one_mul]
          _ ≤ (b1 * (a12 / b1) + b1) * 2 ^ n := Nat.mul_le_mul_right _ (by lia)
          _ = (a12 / b1) * (b1 * 2 ^ n) + b1 * 2 ^ n := by rw [Nat.add_mul, Nat.mul_comm b1 (a12 / b1), Nat.mul_assoc]
          _ ≤ (a12 / b1) * b + b := Nat.add_le_add (Nat.mul_le_mul_left _ (by lia)) (by lia)
          _ = b + (a12 / b1) * b := by rw [Nat.add_comm]
      have h' : (a12 : Int) * 2 ^ n + a3 < b + ((a12 / b1 : Nat) : Int) * b := by exact_mod_cast key
      lia

theorem split_div {a b h : Nat} (hb : 0 < b) :
    let A1 := a / 2 ^ h
    let A2 := (A1 % b) * 2 ^ h + a % 2 ^ h
    A2 / b < 2 ^ h ∧ a / b = (A1 / b) * 2 ^ h + A2 / b ∧ a % b = A2 % b := by
  intro A1 A2
  have p0 : 0 < 2 ^ h := Nat.two_pow_pos h
  have h1 := Nat.div_add_mod a (2 ^ h)
  have h2 := Nat.div_add_mod A1 b
  have hr := Nat.mod_lt A1 hb
  have hm := Nat.mod_lt a p0
  have hA2 : A2 < b * 2 ^ h := by
    calc A2 < (A1 % b) * 2 ^ h + 2 ^ h := by lia
      _ = (A1 % b + 1) * 2 ^ h := by rw [Nat.add_mul, Nat.one_mul]
      _ ≤ b * 2 ^ h := Nat.mul_le_mul_right _ hr
  have e : a = b * ((A1 / b) * 2 ^ h) + A2 := by
    have : a = A1 * 2 ^ h + a % 2 ^ h := by rw [Nat.mul_comm]; exact h1.symm
    calc a = A1 * 2 ^ h + a % 2 ^ h := this
      _ = (b * (A1 / b) + A1 % b) * 2 ^ h + a % 2 ^ h := by rw [h2]
      _ = b * ((A1 / b) * 2 ^ h) + A2 := by rw [Nat.add_mul, Nat.mul_assoc, Nat.add_assoc]
  refine ⟨(Nat.div_lt_iff_lt_mul hb).mpr (by rw [Nat.mul_comm]; exact hA2), ?_, ?_⟩
  · conv => lhs; rw [e]
    rw [Nat.mul_add_div hb]
  · conv => lhs; rw [e]
    rw [Nat.mul_add_mod]

theorem ex_div2_tail {a2 a3' : Addr} (G : GDiv C P2 3 4 a2 a3') {a b h pad : Nat} (hb : 0 < b) (hbn : b < 2 ^ h * 2 ^ h) (ha : a < b * (2 ^ h * 2 ^ h)) (hh : h ≤ 100000)
    (H : ∀ a b1 : Nat, a < b1 * 2 ^ h → 0 < b1 → b1 < 2 ^ h → Fn C k a2 [.int a, .int b1, .int h] (.tuple [.int (a / b1 : Nat), .int (a % b1 : Nat)])) :
    Ex C (k + 1) (scopeAt P2 3) ns_div2 [.v (.int a), .v (.int b), .v (.int (2 * h : Nat)), .v (.int pad), .un, .un, .un, .un, .un, .un, .un] ((bodyAt P2 3).drop 3)
      (fun o => o = .ret (.tuple [.int (a / b : Nat), .int ((if pad = 0 then a % b else a % b / 2 : Nat))])) := by
  have W := G.W
  have p0 : 0 < 2 ^ h := Nat.two_pow_pos h
  have hp1 := Nat.one_le_two_pow (n := h)
  have n1 : nbits 1 ≤ 1 := nbits_le (by decide)
  have hb1 : b / 2 ^ h < 2 ^ h := (Nat.div_lt_iff_lt_mul p0).mpr hbn
  have hb2 := Nat.mod_lt b p0
  have hbe : b = b / 2 ^ h * 2 ^ h + b % 2 ^ h := by rw [Nat.mul_comm]; exact (Nat.div_add_mod b _).symm
  have h22 : 2 ^ (2 * h) = 2 ^ h * 2 ^ h := by rw [Nat.two_mul, Nat.pow_add]
  have hA1 : a / (2 ^ h * 2 ^ h) * 2 ^ h + a / 2 ^ h % 2 ^ h = a / 2 ^ h := by
    rw [← Nat.div_div_eq_div_mul, Nat.mul_comm]; exact Nat.div_add_mod _ _
  have hA1l : a / 2 ^ h < b * 2 ^ h := (Nat.div_lt_iff_lt_mul p0).mpr (by rw [Nat.mul_assoc]; exact ha)
  obtain ⟨hq2, e1, e2⟩ := split_div (a := a) (b := b) (h := h) hb
  refine Ex.assign W 4 (Ev.bin W (Ev.loc 2) Ev.int ((BinOk.shrN (a := 2 * h) (n := 1)).cast (d' := .int (h : Nat)) (int2 (by rw [Nat.pow_one, Nat.mul_div_cancel_left h (by decide)])))) ?_
  refine Ex.assign W 5 (Ev.bin W (Ev.bin W (Ev.int) (Ev.loc 4) ((BinOk.shlN (a := 1) (n := h) (by lia)).cast (d' := .int ((2 ^ h : Nat) : Int)) (int2 (by rw [Nat.one_mul])))) Ev.int ((BinOk.subN (a := 2 ^ h) (b := 1) hp1))) ?_
  refine Ex.tupSwap (names := ["b1", "b2"]) (is := [6, 7]) W (Ev.tuple W (.cons (Ev.bin W (Ev.loc 1) (Ev.loc 4) BinOk.shrN) (.cons (Ev.bin W (Ev.loc 1) (Ev.loc 5) BinOk.maskN) .nil))) ?_ (by intro j; rcases j with _ | _ | j <;> rfl) (hw := fun env he => by cases env; simp only at he; subst he; rfl)
  refine Ex.tup W (.cons 8 (.cons 9 .nil)) (G.d3.call W rfl (.cons (Ev.bin W (Ev.loc 0) (Ev.loc 2) ((BinOk.shrN (n := 2 * h)).cast (int2 (by rw [h22])))) (.cons (Ev.bin W (Ev.bin W (Ev.loc 0) (Ev.loc 4) BinOk.shrN) (Ev.loc 5) BinOk.maskN) (.cons (Ev.loc 1) (.cons (Ev.loc 6) (.cons (Ev.loc 7) (.cons (Ev.loc 4) .nil))))))
    (fn_div3 (a12 := a / (2 ^ h * 2 ^ h)) (a3 := a / 2 ^ h % 2 ^ h) G hbe hb (Nat.mod_lt _ p0) hh hb2 hb1 (by rw [hA1]; exact hA1l) fun x hx hx0 => H x _ hx hx0 hb1)) ?_
  rw [hA1]
  refine Ex.tup W (.cons 10 (.cons 9 .nil)) (G.d3.call W rfl (.cons (Ev.loc 9) (.cons (Ev.bin W (Ev.loc 0) (Ev.loc 5) BinOk.maskN) (.cons (Ev.loc 1) (.cons (Ev.loc 6) (.cons (Ev.loc 7) (.cons (Ev.loc 4) .nil))))))
    (fn_div3 (a12 := a / 2 ^ h % b) (a3 := a % 2 ^ h) G hbe hb (Nat.mod_lt _ p0) hh hb2 hb1 ?_ fun x hx hx0 => H x _ hx hx0 hb1)) ?_
  · have hr := Nat.mod_lt (a / 2 ^ h) hb
    have hm := Nat.mod_lt a p0
    calc a / 2 ^ h % b * 2 ^ h + a % 2 ^ h < (a / 2 ^ h % b) * 2 ^ h + 2 ^ h := by lia
      _ = (a / 2 ^ h % b + 1) * 2 ^ h := by rw [Nat.add_mul, Nat.one_mul]
      _ ≤ b * 2 ^ h := Nat.mul_le_mul_right _ hr
  have hq1 : nbits (a / 2 ^ h / b) ≤ h := nbits_le ((Nat.div_lt_iff_lt_mul hb).mpr (by rw [Nat.mul_comm]; exact hA1l))
  have fin : ∀ r : Nat, r = (if pad = 0 then a % b else a % b / 2) → Ex C (k + 1) (scopeAt P2 3) ns_div2 [.v (.int a), .v (.int b), .v (.int (2 * h : Nat)), .v (.int pad), .v (.int h), .v (.int (2 ^ h - 1 : Nat)), .v (.int (b / 2 ^ h : Nat)), .v (.int (b % 2 ^ h : Nat)), .v (.int (a / 2 ^ h / b : Nat)), .v (.int r),
      .v (.int ((a / 2 ^ h % b * 2 ^ h + a % 2 ^ h) / b : Nat))] ((bodyAt P2 3).drop 9) (fun o => o = .ret (.tuple [.int (a / b : Nat), .int ((if pad = 0 then a % b else a % b / 2 : Nat))])) := fun r hr => by
    refine Ex.ret W (Ev.tuple W (.cons (Ev.bin W (Ev.bin W (Ev.loc 8) (Ev.loc 4) (BinOk.shlN (by lia))) (Ev.loc 10) (BinOk.orN hq2)) (.cons (Ev.loc 9) .nil))) ?_
    rw [← e1, hr]
  refine Ex.ite W (Ts.int W (Ev.loc 3)) (fun hp => ?_) (fun hp => ?_)
  · have hp : pad ≠ 0 := by intro z; subst z; exact absurd hp (by decide)
    refine Ex.aug W 9 Ev.int ((InpOk.shrN (n := 1)).cast (int2 (by rw [Nat.pow_one]))) (Ex.nil (fin _ ?_))
    rw [if_neg hp, e2]
  · have hp : pad = 0 := by
      have := hp
      simp at this
      exact this
    refine Ex.nil (fin _ ?_)
    rw [if_pos hp, e2]

theorem fn_div2 {a2 a3' : Addr} (G : GDiv C P2 3 4 a2 a3') : ∀ (j : Nat) (a b n : Nat), 0 < b → b < 2 ^ n → a < b * 2 ^ n → n ≤ 4000 * 2 ^ j → n ≤ 8999 → Fn C (2 * j + 1) a2 [.int a, .int b, .int n] (.tuple [.int (a / b : Nat), .int (a % b : Nat)]) := by
  intro j
  induction j with
  | zero =>
    intro a b n hb hbn ha hn h9
    refine G.d2.toFn G.W 8 rfl (ex_div2_small G hb (lt_pow_of (b := 0) hbn (by lia)) ?_)
    have : nbits a ≤ n + n := nbits_le (by rw [Nat.pow_add]; exact Nat.lt_of_lt_of_le ha (Nat.mul_le_mul_right _ (Nat.le_of_lt hbn)))
    lia
  | succ j ih =>
    intro a b n hb hbn ha hn h9
    have W := G.W
    by_cases hs : (nbits a : Int) - n ≤ 4000
    · exact G.d2.toFn W 8 rfl (ex_div2_small G hb (lt_pow_of (b := 0) hbn (by lia)) hs)
    · show Fn C (2 * j + 1 + 1 + 1) a2 _ _
      refine G.d2.toFn W 8 rfl ?_
      obtain ⟨t, hlim⟩ := G.lim
      refine Ex.ite W (b := false) ((Ts.cmp W (Ev.bin W (Ev.methI W (Ev.loc 0) .nil F.slot_int_bit_length F.type_int_bit_length Bi.bits) (Ev.loc 2) BinOk.sub) (Ev.globInt rfl hlim) CmpOk.le).cast (decide_eq_false hs)) (fun z => nomatch z) (fun _ => Ex.nil ?_)
      refine Ex.assign W 3 (Ev.bin W (Ev.loc 2) Ev.int BinOk.andOneN) ?_
      have na : nbits a ≤ n + n := nbits_le (by rw [Nat.pow_add]; exact Nat.lt_of_lt_of_le ha (Nat.mul_le_mul_right _ (Nat.le_of_lt hbn)))
      have nb : nbits b ≤ n := nbits_le hbn
      refine Ex.ite W (Ts.int W (Ev.loc 3)) (fun hp => ?_) (fun hp => ?_)
      · have hp : n % 2 = 1 := by
          have : n % 2 ≠ 0 := by intro z; rw [z] at hp; exact absurd hp (by decide)
          lia
        refine Ex.aug W 0 Ev.int (InpOk.shlN (a := a) (n := 1) (by lia)) (Ex.aug W 1 Ev.int (InpOk.shlN (a := b) (n := 1) (by lia)) (Ex.aug W 2 Ev.int (InpOk.addN (a := n) (b := 1)) (Ex.nil ?_)))
        obtain ⟨h, hh⟩ : ∃ h, n + 1 = 2 * h := ⟨(n + 1) / 2, by lia⟩
        have hpp : 2 ^ h * 2 ^ h = 2 * 2 ^ n := by rw [← Nat.pow_add, ← Nat.two_mul, ← hh, Nat.pow_succ, Nat.mul_comm]
        have T := ex_div2_tail (k := 2 * j + 1) (pad := n % 2) G (a := a * 2 ^ 1) (b := b * 2 ^ 1) (h := h) (by lia) (by rw [hpp]; lia) (by
          rw [hpp, Nat.pow_one]
          calc a * 2 < b * 2 ^ n * 2 := by lia
            _ ≤ b * 2 ^ n * 4 := by lia
            _ = b * 2 * (2 * 2 ^ n) := by rw [Nat.mul_assoc, Nat.mul_assoc, Nat.mul_comm (2 ^ n) 4, ← Nat.mul_assoc 2 2]) (by lia) (fun x b1 h1 h2 h3 => ih x b1 h h2 h3 h1 (by rw [Nat.pow_succ] at hn; lia) (by lia))
        rw [← hh, hp, if_neg (by decide)] at T
        rw [hp]
        have e1 : a * 2 ^ 1 / (b * 2 ^ 1) = a / b := Nat.mul_div_mul_right _ _ (by decide)
        have e2 : a * 2 ^ 1 % (b * 2 ^ 1) / 2 = a % b := by rw [Nat.mul_mod_mul_right, Nat.pow_one, Nat.mul_div_cancel _ (by decide)]
        rw [e1, e2] at T
        exact T
      · have hp : n % 2 = 0 := by simp at hp; lia
        refine Ex.nil ?_
        obtain ⟨h, rfl⟩ : ∃ h, n = 2 * h := ⟨n / 2, by lia⟩
        have hpp : 2 ^ h * 2 ^ h = 2 ^ (2 * h) := by rw [← Nat.pow_add, ← Nat.two_mul]
        have T := ex_div2_tail (k := 2 * j + 1) (pad := 2 * h % 2) G (a := a) (b := b) (h := h) hb (by rw [hpp]; exact hbn) (by rw [hpp]; exact ha) (by lia) (fun x b1 h1 h2 h3 => ih x b1 h h2 h3 h1 (by rw [Nat.pow_succ] at hn; lia) (by lia))
        rw [hp, if_pos rfl] at T
        rw [hp]
        exact T
end Mine
end

noncomputable section
open PySem PySem.W PyProof.Rows
namespace Mine
variable {C : Cx} {k : Nat} {sc : Scope} {ns : List Str} {fn : Str → Bool} {env : Env} {lo : Nat} {S S' S'' : Addr → Prop} {Γ Γ' : List Sl} {s s' s'' : Shared} {A : Around} {Mu : Addr → Prop} {e : Expr} {d d' : PyData}

noncomputable def dval (n : Nat) : List Int → Int
  | [] => 0
  | x :: r => x + dval n r * 2 ^ n
theorem dval_c {n : Nat} {x : Int} {r : List Int} : dval n (x :: r) = x + dval n r * 2 ^ n := rfl
theorem dval_append (n : Nat) : ∀ (a b : List Int), dval n (a ++ b) = dval n a + dval n b * 2 ^ (n * a.length)
  | [], b => by show dval n b = 0 + dval n b * 2 ^ (n * 0); rw [Nat.mul_zero, Int.pow_zero, Int.mul_one, Int.zero_add]
  | x :: a, b => by
    rw [List.cons_append, dval_c, dval_c, dval_append n a b, List.length_cons, Int.add_mul, Int.mul_assoc, ← Int.pow_add, Nat.mul_succ]
    lia
noncomputable def innerD : Stmt := (bodyAt P2 6).headD (.Pass ⟨0, 0, 0, 0⟩)
noncomputable abbrev lsD : List Str := ["L", "R", "mid", "shift"]
noncomputable abbrev fnsD : List Str := ["digits", "inner", "n"]
noncomputable abbrev qualD : Str := "_digits2int.<locals>.inner"
noncomputable abbrev fsD (n : Nat) (ds : List Int) : List Sl := [.v (.list (ds.map .int)), .un, .v (.int n)]

theorem ints_at {ds : List Int} {i : Nat} (h : i < ds.length) : (ds.map PyData.int)[i]? = some (.int ds[i]) := by rw [List.getElem?_map, List.getElem?_eq_getElem h]; rfl

noncomputable def D2Post (C : Cx) (s : Shared) (S : Addr → Prop) (d : Int) (r : Result) (s' : Shared) : Prop := ∃ v, r = .ok (.ret v) ∧ KB C No s s' ∧ Rp s'.heap S v (.int d)
noncomputable def D2Ok (C : Cx) (n : Nat) (ds : List Int) (cl : List (Str × Addr)) (f : Addr) (m : Nat) : Prop :=
  ∀ (L : Nat) (A : Around) (S : Addr → Prop) (s : Shared) (vals : List Value), L + m ≤ ds.length → Room A m → Inv C s → NestAt C S innerD "inner" qualD cl fnsD (fsD n ds) f s → RpAll s.heap S vals [.int L, .int (L + m : Nat)] →
    codeAny (model C.prog C.w) A (.call (.ref f) ⟨vals, []⟩) (D2Post C s S (dval n ((ds.drop L).take m))) s
variable {n : Nat} {ds : List Int} {cl : List (Str × Addr)} {f : Addr}
theorem d2i_eval (W : Wf C) {h L : Nat} {es : List Expr} {p1 p2 : Pos} (ih : D2Ok C n ds cl f h) (hk : h ≤ k) (h1 : L + h ≤ ds.length) (hc : env.cells = cl) (R : Room A k) (I : Inv C s) (N : NestAt C S innerD "inner" qualD cl fnsD (fsD n ds) f s) (F : FrameOk C (stScope innerD) (lsD ++ fnsD) fn env lo S Γ s.heap)
    (ha : EvAll C k (stScope innerD) (lsD ++ fnsD) Γ es [.int L, .int (L + h : Nat)]) {Q : Value → Shared → Prop} {E : Value → Shared → Prop} (q : ∀ v s', KB C No s s' → Rp s'.heap S v (.int (dval n ((ds.drop L).take h))) → Q v s') :
    wpAny (model C.prog C.w) A (eval (.Call (.Name "inner" p1) es [] p2) env) Q E s :=
  call_inner W N R I F (by rw [hc]) (.inl rfl) ha fun vs s₁ k₁ r₁ I₁ F₁ N₁ => codeAny_mono (ih L A S s₁ vs h1 (R.le hk) I₁ N₁ r₁) fun r s₂ g => Exists.elim g fun v g => ⟨v, g.1, q v s₂ (k₁.trans g.2.1) g.2.2⟩
theorem dval_split {L h m : Nat} (hh2 : h < m) (hL : L + m ≤ ds.length) : dval n ((ds.drop L).take m) = dval n ((ds.drop (L + h)).take (m - h)) * 2 ^ ((h * n : Nat) : Int).toNat + dval n ((ds.drop L).take h) := by
  have hs : (ds.drop L).take m = (ds.drop L).take h ++ (ds.drop (L + h)).take (m - h) := by
    rw [← List.drop_drop, ← List.take_add]
    congr 1; lia
  have hl : ((ds.drop L).take h).length = h := by rw [List.length_take, List.length_drop]; lia
  rw [hs, dval_append, hl, Int.toNat_natCast, Nat.mul_comm n h]
  lia
theorem d2i_nums (W : Wf C) {L h R0 : Nat} (hn : n < 2 ^ 20) (hh : (L + R0) / 2 = L + h) (hh1 : h ≤ 1000) (R : Room A k) (I : Inv C s)
    (F : FrameOk C (stScope innerD) (lsD ++ fnsD) fn env lo S ([.v (.int L), .v (.int (R0 : Nat)), .un, .un] ++ fsD n ds) s.heap) {Q : Flow → Shared → Prop}
    (q : ∀ s', KB C (MuOf lo S) s s' → Inv C s' → FrameOk C (stScope innerD) (lsD ++ fnsD) fn env lo S ([.v (.int L), .v (.int (R0 : Nat)), .v (.int (L + h : Nat)), .v (.int (h * n : Nat))] ++ fsD n ds) s'.heap → wpAny (model C.prog C.w) A (execs ((stBody innerD).drop 3) env) Q (fun _ _ => False) s') :
    wpAny (model C.prog C.w) A (execs ((stBody innerD).drop 1) env) Q (fun _ _ => False) s := by
  have nh : nbits h ≤ 20 := nbits_le (Nat.lt_of_lt_of_le (show h < 2 ^ 10 by lia) (by decide))
  have nn : nbits n ≤ 20 := nbits_le hn
  refine wpAny_execs_cons (wpAny_Assign_Name (Ev.go W (Ev.bin W (Ev.bin W (Ev.loc 0) (Ev.loc 1) BinOk.addN) Ev.int ((BinOk.shrN (n := 1)).cast (d' := .int (L + h : Nat)) (int2 (by rw [Nat.pow_one, hh])))) R I F fun v s₃ k₃ r₃ I₃ F₃ =>
    frame_storeV W F₃ (i := 2) rfl (.inr rfl) (by exact of_decide_eq_true rfl) r₃ fun s₄ k₄ F₄ => ?_) rfl)
  have I₄ := F₃.inv W I₃ k₄
  refine wpAny_execs_cons (wpAny_Assign_Name (Ev.go W (Ev.bin W (Ev.bin W (Ev.loc 2) (Ev.loc 0) ((BinOk.subN (by lia)).cast (d' := .int (h : Nat)) (int2 (by lia)))) (Ev.loc 6) (BinOk.mulN (by lia))) R I₄ F₄ fun v s₅ k₅ r₅ I₅ F₅ =>
    frame_storeV W F₅ (i := 3) rfl (.inr rfl) (by exact of_decide_eq_true rfl) r₅ fun s₆ k₆ F₆ => ?_) rfl)
  exact q s₆ ((k₃.no.trans k₄).trans (k₅.no.trans k₆)) (F₅.inv W I₅ k₆) F₆
theorem d2i_sum (W : Wf C) {L h m : Nat} (hh1 : 0 < h) (hh2 : h < m) (hL : L + m ≤ ds.length) (hb : (Builtin.Int.intBits (dval n ((ds.drop (L + h)).take (m - h))) : Int) + n * ds.length ≤ 2 ^ 27) (i1 : D2Ok C n ds cl f h) (i2 : D2Ok C n ds cl f (m - h)) (hk : m ≤ k + 1) (hc : env.cells = cl) (R : Room A k) (I : Inv C s) (N : NestAt C S innerD "inner" qualD cl fnsD (fsD n ds) f s)
    (F : FrameOk C (stScope innerD) (lsD ++ fnsD) fn env lo S ([.v (.int L), .v (.int (L + m : Nat)), .v (.int (L + h : Nat)), .v (.int (h * n : Nat))] ++ fsD n ds) s.heap) {Q : Flow → Shared → Prop}
    (q : ∀ v s', KB C No s s' → Rp s'.heap S v (.int (dval n ((ds.drop L).take m))) → Q (.ret v) s') : wpAny (model C.prog C.w) A (execs ((stBody innerD).drop 3) env) Q (fun _ _ => False) s := by
  have hm2 : L + h + (m - h) = L + m := by lia
  refine wpAny_execs_cons (wpAny_Return_some (wpAny_BinOp (wpAny_BinOp (d2i_eval (L := L + h) W i2 (by lia) (by lia) hc R I N F (.cons (Ev.loc 2) (.cons (by rw [hm2]; exact Ev.loc 1) .nil)) fun v₈ s₈ k₈ r₈ => ?_))))
  refine Ev.go W (Ev.loc 3) R (I.no W k₈) (F.no W k₈) fun v₉ s₉ k₉ r₉ I₉ F₉ => ?_
  refine wq (BinOk.shl (k := k) (Int.natCast_nonneg (h * n)) (by
    have h2 : h * n ≤ n * ds.length := by rw [Nat.mul_comm]; exact Nat.mul_le_mul_left _ (by lia)
    have h3 : ((h * n : Nat) : Int) ≤ (n : Int) * ds.length := by exact_mod_cast h2
    lia) _ S s₉ v₈ v₉ R I₉ (r₈.no k₉) r₉ F₉.bd) fun v₁₀ s₁₀ g => ?_
  have k₀ := (k₈.trans k₉).trans g.1
  refine d2i_eval (L := L) W i1 (by lia) (by lia) hc R (I₉.no W g.1) (N.no W k₀) (F₉.no W g.1) (.cons (Ev.loc 0) (.cons (Ev.loc 2) .nil)) fun v₁₂ s₁₂ k₁₂ r₁₂ => ?_
  refine wq (BinOk.add (k := k) _ S s₁₂ v₁₀ v₁₂ R ((I₉.no W g.1).no W k₁₂) (g.2.no k₁₂) r₁₂ ((F₉.no W g.1).no W k₁₂).bd) fun v₁₃ s₁₃ g' => q v₁₃ s₁₃ ((k₀.trans k₁₂).trans g'.1) ?_
  rw [dval_split hh2 hL]
  exact g'.2
theorem d2i_turn (W : Wf C) (hlen : ds.length ≤ 1000) (hbits : ∀ L m : Nat, L + m ≤ ds.length → (Builtin.Int.intBits (dval n ((ds.drop L).take m)) : Int) + n * ds.length ≤ 2 ^ 27) (hn : n < 2 ^ 20) {m L : Nat} (hm : 0 < m) (ih : ∀ h, 0 < h → h < m → D2Ok C n ds cl f h) (hL : L + m ≤ ds.length) (hc : env.cells = cl) (hk : m ≤ k + 1) (R : Room A k) (I : Inv C s) {s0 : Shared} (k0 : KB C No s0 s) (hlo : lo = s0.heap.objs.size) {S0 : Addr → Prop} (N0 : NestAt C S0 innerD "inner" qualD cl fnsD (fsD n ds) f s0)
    (F : FrameOk C (stScope innerD) (lsD ++ fnsD) fn env lo S ([.v (.int L), .v (.int (L + m : Nat)), .un, .un] ++ fsD n ds) s.heap) {Q : Flow → Shared → Prop}
    (q : ∀ v s', KB C No s0 s' → Rp s'.heap S v (.int (dval n ((ds.drop L).take m))) → Q (.ret v) s') : wpAny (model C.prog C.w) A (execs (stBody innerD) env) Q (fun _ _ => False) s := by
  refine wpAny_execs_cons (wpAny_If ((Ts.cmp W (Ev.bin W (Ev.loc 0) Ev.int BinOk.add) (Ev.loc 1) CmpOk.eqi).go W R I F fun s₂ k₂ I₂ F₂ => ?_))
  have k₀₂ := k0.trans k₂
  by_cases hone : m = 1
  · have ht : ((L : Int) + 1 == ((L + m : Nat) : Int)) = true := by rw [hone]; simp
    rw [ht, if_pos rfl]
    have hLl : L < ds.length := by lia
    refine wpAny_execs_cons (wpAny_Return_some (Ev.go W (Ev.item (d := .int ds[L]) W (Ev.loc 4) (Ev.loc 0) (Int.natCast_nonneg _) (by lia) (by rw [Int.toNat_natCast]; exact ints_at hLl)) R I₂ F₂ fun v s₃ k₃ r₃ I₃ F₃ => q v s₃ (k₀₂.trans k₃) ?_))
    have e1 : dval n ((ds.drop L).take m) = ds[L] := by
      rw [hone, List.drop_eq_getElem_cons hLl, List.take_succ_cons, List.take_zero, dval_c, show dval n [] = 0 from rfl, Int.zero_mul, Int.add_zero]
    rw [e1]; exact r₃
  · have ht : ((L : Int) + 1 == ((L + m : Nat) : Int)) = false := by rw [beq_eq_false_iff_ne]; lia
    rw [ht, if_neg Bool.false_ne_true]
    refine wpAny_execs_nil ?_
    obtain ⟨h, hh, hh1, hh2⟩ : ∃ h, (L + (L + m)) / 2 = L + h ∧ 0 < h ∧ h < m := ⟨(L + (L + m)) / 2 - L, by lia, by lia, by lia⟩
    refine d2i_nums W hn hh (by lia) R I₂ F₂ fun s₃ k₃ I₃ F₃ => ?_
    have k₀₃ : KB C No s0 s₃ := KB.above (S := S) (hlo ▸ (k₀₂.no.trans k₃))
    exact d2i_sum W hh1 hh2 hL (hbits _ _ (by lia)) (ih h hh1 hh2) (ih (m - h) (by lia) (by lia)) hk hc R I₃ ((N0.no W k₀₃).inFrame W F₃ hc rfl (by decide +kernel)) F₃ fun v s' k r => q v s' (k₀₃.trans k) r
theorem code_inner (W : Wf C) (hlen : ds.length ≤ 1000) (hbits : ∀ L m : Nat, L + m ≤ ds.length → (Builtin.Int.intBits (dval n ((ds.drop L).take m)) : Int) + n * ds.length ≤ 2 ^ 27) (hn : n < 2 ^ 20) : ∀ (m : Nat), 0 < m → D2Ok C n ds cl f m := by
  intro m
  induction m using Nat.strongRecOn with
  | ind m ih =>
  intro hm L A S s vals hL R I N r
  obtain ⟨m', rfl⟩ : ∃ m', m = m' + 1 := ⟨m - 1, by lia⟩
  obtain ⟨doc, pm, c', ctv, hf, hco⟩ := N.at_
  obtain ⟨v1, v2, rfl, _⟩ := r.two
  exact call_nested (ps := ["L", "R"]) (ls := ["mid", "shift"]) W I hf hco R N.live N.low r rfl rfl (by decide +kernel) N.cok fun s₁ env S₁ k₁ hc F hS1 hS2 R' =>
    d2i_turn W hlen hbits hn hm (fun h h1 h2 => ih h h2 h1) hL hc (Nat.le_refl _) R' (I.no W k₁) k₁ rfl N F fun v s' k h => ⟨v, rfl, k, h.avoid fun b o _ mm z => mm (hS1 b z)⟩

structure Maker (C : Cx) (P : Program) (i : Nat) (x : Str) (ps ns : List Str) (fa : Addr) (q : Str) (pos : Pos) : Prop where
  glob : C.mg x = some (.ref fa)
  ok : ∃ fd c T, DefOk C fa fd (bodyAt P i) ps ns ∧ fd.scope = scopeAt P i ∧ fd.code = .ref c ∧ fd.qualname = x ∧ Nest C c T pos q
theorem Maker.isFn {P : Program} {i : Nat} {x q : Str} {ps : List Str} {fa : Addr} {pos : Pos} (D : Maker C P i x ps ns fa q pos) : isFn (C.fr fa) = true := by
  obtain ⟨fd, _, _, h, _⟩ := D.ok
  obtain ⟨o, e, q⟩ := h.at_
  obtain ⟨a, b, c, dd⟩ := o
  subst q
  rw [e]; rfl

noncomputable abbrev nsD : List Str := ["digits", "n", "inner"]
theorem d2i_env {h : Heap} (F : FrameOk C (scopeAt P2 6) nsD allW env lo S Γ h) {x : Str} (hx : x ∈ fnsD) : ∃ (c : Addr) (vo : Option Value) (i : Nat), nsD[i]? = some x ∧ env.cells.lookup x = some c ∧ (clFor env.cells (stScope innerD).names []).lookup x = some c ∧ h.IsCell c vo ∧ SlotAt h lo S (Γ.getD i .un) vo := by
  have key : ∃ i : Nat, nsD[i]? = some x ∧ (scopeAt P2 6).names.lookup x ≠ some .local := by
    simp only [List.mem_cons, List.not_mem_nil, or_false] at hx
    rcases hx with rfl | rfl | rfl
    · exact ⟨0, rfl, by decide +kernel⟩
    · exact ⟨2, rfl, by decide +kernel⟩
    · exact ⟨1, rfl, by decide +kernel⟩
  obtain ⟨i, hi, hl⟩ := key
  obtain ⟨_, c, vo, h2, h3, h4⟩ := F.cel i x hi hl
  refine ⟨c, vo, i, hi, h2, ?_, h3, h4⟩
  have ecl : clFor env.cells (stScope innerD).names [] = [(("n" : Str), (env.cells.lookup ("n" : Str)).getD 0), (("inner" : Str), (env.cells.lookup ("inner" : Str)).getD 0), (("digits" : Str), (env.cells.lookup ("digits" : Str)).getD 0)] := rfl
  rw [ecl]
  simp only [List.mem_cons, List.not_mem_nil, or_false] at hx
  rcases hx with rfl | rfl | rfl <;> (rw [h2]; rfl)
theorem d2i_dom {cells : List (Str × Addr)} {x : Str} {c : Addr} (h : (clFor cells (stScope innerD).names []).lookup x = some c) : x ∈ fnsD := by
  have ecl : clFor cells (stScope innerD).names [] = [(("n" : Str), (cells.lookup ("n" : Str)).getD 0), (("inner" : Str), (cells.lookup ("inner" : Str)).getD 0), (("digits" : Str), (cells.lookup ("digits" : Str)).getD 0)] := rfl
  have := mem_of_lookup h
  rw [ecl] at this
  simp only [List.mem_cons, List.not_mem_nil, or_false] at this
  rcases this with e | e | e <;> (cases e; decide +kernel)
theorem d2i_look {h : Heap} (F : FrameOk C (scopeAt P2 6) nsD allW env lo S Γ h) {x : Str} {c : Addr} (e : (clFor env.cells (stScope innerD).names []).lookup x = some c) : env.cells.lookup x = some c := by
  obtain ⟨c', _, _, _, h1, h2, _⟩ := d2i_env F (d2i_dom e)
  rw [h1, ← h2, e]
theorem d2i_clok {h : Heap} (F : FrameOk C (scopeAt P2 6) nsD allW env lo S [.v (.list (ds.map .int)), .v (.int n), .un] h) : ClOk S h (clFor env.cells (stScope innerD).names []) fnsD (fsD n ds) where
  slot := fun i x hx => by
    obtain ⟨c, vo, j, hj, _, h2, h3, h4⟩ := d2i_env F (List.mem_of_getElem? hx)
    refine ⟨c, vo, h2, h3, fun d hd => ?_⟩
    have hlt := (List.getElem?_eq_some_iff.mp hx).1
    have hi : i = 0 ∨ i = 1 ∨ i = 2 := by have : i < 3 := hlt; lia
    rcases hi with rfl | rfl | rfl
    · have : j = 0 := (nd_ne F.nd hj (show nsD[0]? = some ("digits" : Str) from rfl)).mpr (Option.some.inj hx).symm
      rw [this] at h4
      rw [← Sl.v.inj hd]; exact h4
    · cases hd
    · have : j = 1 := (nd_ne F.nd hj (show nsD[1]? = some ("n" : Str) from rfl)).mpr (Option.some.inj hx).symm
      rw [this] at h4
      rw [← Sl.v.inj hd]; exact h4
  noOwn := fun i xs q => by
    have := List.mem_of_getElem? q
    simp at this
  apart := fun x y c h1 h2 => F.apart x y c (d2i_look F h1) (d2i_look F h2)
  celS := fun x c h1 => F.celS x c (d2i_look F h1)
  celC := fun x c h1 => F.celC x c (d2i_look F h1)
  dom := fun x c h1 => d2i_dom h1
theorem d2i_qual {fd : FuncData} {fa : Addr} {s : Shared} (hsc : fd.scope = scopeAt P2 6) (hqn : fd.qualname = "_digits2int") : qualnameIn (callEnvC fd s.heap.objs.size fa) "inner" "inner" = qualD := by
  unfold qualnameIn
  have e1 : (callEnvC fd s.heap.objs.size fa).kindOf "inner" = some .cell := by unfold Env.kindOf; show fd.scope.names.lookup _ = _; rw [hsc]; rfl
  rw [e1, if_neg (by decide)]
  show fd.qualname ++ ".<locals>." ++ "inner" = _
  rw [hqn]; decide +kernel
theorem d2i_free : ∀ x ∈ (stScope innerD).names, x.2 = .free → x.1 ∈ fnsD := by
  intro x hx hk
  have hx' : x ∈ ([("L", .local), ("R", .local), ("mid", .local), ("shift", .local), ("digits", .free), ("inner", .free), ("n", .free)] : List (Str × NameKind)) := hx
  simp only [List.mem_cons, List.not_mem_nil, or_false] at hx'
  rcases hx' with rfl | rfl | rfl | rfl | rfl | rfl | rfl <;> first | exact absurd hk (by decide) | decide +kernel
theorem d2i_tail (W : Wf C) (l0 : C.mg "len" = .none) (l1 : C.mb "len" = some (.builtin "len")) (hlen : ds.length ≤ 1000) (hbits : ∀ L m : Nat, L + m ≤ ds.length → (Builtin.Int.intBits (dval n ((ds.drop L).take m)) : Int) + n * ds.length ≤ 2 ^ 27) (hn : n < 2 ^ 20) (R : Room A ds.length) (I : Inv C s)
    (F : FrameOk C (scopeAt P2 6) nsD allW env lo S [.v (.list (ds.map .int)), .v (.int n), .un] s.heap) (N : NestAt C S innerD "inner" qualD (clFor env.cells (stScope innerD).names []) fnsD (fsD n ds) f s) {Q : Flow → Shared → Prop}
    (q : ∀ v s', KB C No s s' → Rp s'.heap S v (.int (dval n ds)) → Q (.ret v) s') : wpAny (model C.prog C.w) A (execs ((bodyAt P2 6).drop 1) env) Q (fun _ _ => False) s := by
  refine wpAny_execs_cons (wpAny_Return_some (wpAny_IfExp (Ts.go W (Ts.list W (Ev.loc 0) (by rw [List.length_map]; lia)) R I F fun s₃ k₃ I₃ F₃ => ?_)))
  rcases Nat.eq_zero_or_pos ds.length with z | z
  · have e : ds = [] := List.eq_nil_of_length_eq_zero z
    have e1 : (!(ds.map PyData.int).isEmpty) = false := by rw [e]; rfl
    rw [e1]
    refine Ev.go W Ev.int R I₃ F₃ fun v s₄ k₄ r₄ I₄ F₄ => q v s₄ (k₃.trans k₄) ?_
    rw [e]; exact r₄
  · have e1 : (!(ds.map PyData.int).isEmpty) = true := by
      cases ds with
      | nil => cases z
      | cons x xs => rfl
    rw [e1]
    obtain ⟨ci, _, _, _, hi1, hi2, _⟩ := d2i_env F₃ (x := "inner") (by decide +kernel)
    refine call_inner W (N.no W k₃) R I₃ F₃ (hi1.trans hi2.symm) (.inr rfl) (.cons (Ev.int (i := ((0 : Nat) : Int))) (.cons (Ev.callB W rfl l0 l1 (.cons (Ev.loc 0) .nil) (Bi.lenL (by rw [List.length_map]; lia))) .nil)) fun vs s₄ k₄ r₄ I₄ F₄ N₄ => ?_
    refine codeAny_mono (code_inner W hlen hbits hn ds.length z 0 _ S s₄ vs (by lia) R I₄ N₄ ?_) fun r s₅ hr => ?_
    · rw [Nat.zero_add]
      rw [List.length_map] at r₄
      exact r₄
    · obtain ⟨v, rfl, k₅, r₅⟩ := hr
      rw [List.drop_zero, List.take_length] at r₅
      exact ⟨v, rfl, q v s₅ ((k₃.trans k₄).trans k₅) r₅⟩
theorem fn_d2i (W : Wf C) {fa : Addr} (D : Maker C P2 6 "_digits2int" ["digits", "n"] nsD fa qualD (stPos innerD)) (l0 : C.mg "len" = .none) (l1 : C.mb "len" = some (.builtin "len")) (hlen : ds.length ≤ 1000)
    (hbits : ∀ L m : Nat, L + m ≤ ds.length → (Builtin.Int.intBits (dval n ((ds.drop L).take m)) : Int) + n * ds.length ≤ 2 ^ 27) (hn : n < 2 ^ 20) :
    Fn C (ds.length + 1) fa [.list (ds.map .int), .int n] (.int (dval n ds)) := by
  obtain ⟨fd, c, T, hD, hsc, hcd, hqn, hN⟩ := D.ok
  refine fn_frame W 1 hD rfl fun A S s S₁ s₁ R I₁ k₁ hS1 hS2 F => ?_
  rw [hsc] at F
  obtain ⟨ci, _, _, _, hi1, hi2, _⟩ := d2i_env F (x := "inner") (by decide +kernel)
  refine wpAny_execs_cons (def_inner (st := innerD) (i := 2) (fns := fnsD) (fs := fsD n ds) W hN I₁ F hcd (d2i_qual hsc hqn) rfl rfl rfl (fun _ => rfl) (fun x hx hk => ?_) (fun z => by cases z) rfl rfl (by decide +kernel) rfl (hi2.trans hi1.symm) (fun h Fh => d2i_clok Fh) fun f s₂ k₂ F₂ N₂ _ => ?_)
  · obtain ⟨_, _, _, _, h1, _⟩ := d2i_env F (d2i_free x hx hk)
    rw [h1]; rfl
  · exact d2i_tail W l0 l1 hlen hbits hn R (F.inv W I₁ k₂) F₂ N₂ fun v s' k h => ⟨v, rfl, (KB.above (S := S₁) (k₁.no.trans k₂)).trans k, h.avoid fun b o _ mm z => mm (hS1 b z)⟩
end Mine
end

noncomputable section
open PySem PySem.W PyProof.Rows
namespace Mine
variable {C : Cx} {k : Nat} {sc : Scope} {ns : List Str} {fn : Str → Bool} {env : Env} {lo : Nat} {S S' S'' : Addr → Prop} {Γ Γ' : List Sl} {s s' s'' : Shared} {A : Around} {Mu : Addr → Prop} {e : Expr} {d d' : PyData}

noncomputable def digs (n : Nat) : Nat → Nat → List Nat
  | 0, _ => []
  | 1, x => [x]
  | m + 2, x => x % 2 ^ n :: digs n (m + 1) (x / 2 ^ n)
theorem digs_s {n m x : Nat} : digs n (m + 2) x = x % 2 ^ n :: digs n (m + 1) (x / 2 ^ n) := rfl
theorem digs_length (n : Nat) : ∀ m x, (digs n m x).length = m
  | 0, _ => rfl
  | 1, _ => rfl
  | m + 2, x => by rw [digs_s, List.length_cons, digs_length n (m + 1)]
theorem digs_split (n : Nat) : ∀ h j x, 0 < h → 0 < j → digs n (h + j) x = digs n h (x % 2 ^ (h * n)) ++ digs n j (x / 2 ^ (h * n))
  | 1, j + 1, x, _, _ => by
    rw [show 1 + (j + 1) = j + 2 by lia, digs_s, Nat.one_mul]; rfl
  | h + 2, j + 1, x, _, _ => by
    rw [show h + 2 + (j + 1) = (h + j + 1) + 2 by lia, digs_s, show h + j + 1 + 1 = h + 1 + (j + 1) by lia, digs_split n (h + 1) (j + 1) (x / 2 ^ n) (by lia) (by lia), digs_s]
    have e : 2 ^ ((h + 2) * n) = 2 ^ n * 2 ^ ((h + 1) * n) := by rw [← Nat.pow_add, show h + 2 = (h + 1) + 1 by lia, Nat.add_mul (h + 1) 1 n, Nat.one_mul, Nat.add_comm]
    rw [e, Nat.mod_mul_right_mod, Nat.mod_mul_right_div_self, Nat.div_div_eq_div_mul]; rfl

noncomputable def innerI : Stmt := (bodyAt P2 5).getD 1 (.Pass ⟨0, 0, 0, 0⟩)
noncomputable abbrev lsI : List Str := ["x", "L", "R", "mid", "shift", "upper", "lower"]
noncomputable abbrev fnsI : List Str := ["a_digits", "inner", "n"]
noncomputable abbrev qualI : Str := "_int2digits.<locals>.inner"
noncomputable abbrev fsI (n : Nat) : List Sl := [.un, .un, .v (.int n)]
noncomputable abbrev natInts (l : List Nat) : List Int := l.map Int.ofNat

theorem ints_set : ∀ {vs : List Value} {cur : List Int} {L : Nat} {x : Int} {t : Tok}, IntsAre vs cur → IntsAre (vs.set L (.int x t)) (cur.set L x)
  | _, _, _, _, _, .nil => .nil
  | _, _, 0, x, t, .cons n u r => .cons x t r
  | _, _, L + 1, x, t, .cons n u r => .cons n u (ints_set r)
theorem set_mid {cur : List Int} {L : Nat} {x : Int} (h : L < cur.length) : cur.set L x = cur.take L ++ [x] ++ cur.drop (L + 1) := by
  rw [List.set_eq_take_append_cons_drop, if_pos h]; simp

theorem drop_add {α : Type} : ∀ (a b : List α) (j : Nat), (a ++ b).drop (a.length + j) = b.drop j
  | [], b, j => by simp
  | x :: a, b, j => by rw [List.cons_append, List.length_cons, show a.length + 1 + j = (a.length + j) + 1 by lia, List.drop_succ_cons]; exact drop_add a b j

noncomputable def I2Post (C : Cx) (D : Addr) (s : Shared) (out : List Int) (r : Result) (s' : Shared) : Prop := r = .ok (.ret .none) ∧ KB C (· = D) s s' ∧ ∃ vs, s'.heap.PlainList D vs ∧ IntsAre vs.toList out
structure I2Pre (C : Cx) (n : Nat) (cl : List (Str × Addr)) (f D cD : Addr) (S : Addr → Prop) (cur : List Int) (s : Shared) : Prop where
  I : Inv C s
  N : NestAt C S innerI "inner" qualI cl fnsI (fsI n) f s
  sd : S D
  look : cl.lookup ("a_digits" : Str) = some cD
  cell : s.heap.IsCell cD (some (.ref D))
  list : ∃ vs, s.heap.PlainList D vs ∧ IntsAre vs.toList cur
noncomputable def I2Ok (C : Cx) (n B N0 : Nat) (cl : List (Str × Addr)) (f D cD : Addr) (m : Nat) : Prop :=
  ∀ (L x : Nat) (A : Around) (S : Addr → Prop) (s : Shared) (vals : List Value) (cur : List Int), L + m ≤ cur.length → cur.length ≤ N0 → nbits x ≤ B → Room A m → I2Pre C n cl f D cD S cur s → RpAll s.heap S vals [.int x, .int L, .int (L + m : Nat)] →
    codeAny (model C.prog C.w) A (.call (.ref f) ⟨vals, []⟩) (I2Post C D s (cur.take L ++ natInts (digs n m x) ++ cur.drop (L + m))) s
variable {n B N0 : Nat} {cl : List (Str × Addr)} {f D cD : Addr} {cur : List Int}
theorem I2Pre.db (P : I2Pre C n cl f D cD S cur s) : C.base ≤ D := P.N.low D P.sd
theorem I2Pre.cb (P : I2Pre C n cl f D cD S cur s) : C.base ≤ cD := P.N.low _ (P.N.cok.celS _ _ P.look)
theorem I2Pre.no (W : Wf C) (P : I2Pre C n cl f D cD S cur s) (k : KB C No s s') : I2Pre C n cl f D cD S cur s' :=
  ⟨P.I.no W k, P.N.no W k, P.sd, P.look, IsCell.no P.cell k W P.cb, Exists.elim P.list fun vs h => ⟨vs, h.1.at (fun o e => k.keep _ _ e (fun z => z) (fun z => Exists.elim h.1 fun n e' => by rw [e] at e'; cases e'; cases z.2)), h.2⟩⟩
theorem I2Pre.upd (W : Wf C) {cur' : List Int} {vs : Array Value} (P : I2Pre C n cl f D cD S cur s) (k : KB C (· = D) s s') (h1 : s'.heap.PlainList D vs) (h2 : IntsAre vs.toList cur') : I2Pre C n cl f D cD S cur' s' := by
  obtain ⟨vs0, hp, _⟩ := P.list
  refine ⟨P.I.kb W k fun a z => z ▸ P.db, P.N.kbAt W P.sd hp k (Exists.elim h1 fun _ e => ⟨_, e⟩), P.sd, P.look, ?_, vs, h1, h2⟩
  obtain ⟨o, eo, dd⟩ := P.cell
  obtain ⟨nn, eD⟩ := hp
  exact ⟨o, k.keep _ _ eo (fun z => by rw [z, eD] at eo; cases eo; cases dd) (fun z => absurd (W.tlt _ z.1) (Nat.not_lt.mpr P.cb)), dd⟩
noncomputable def ifB : Stmt → List Stmt
  | .If _ b _ _ => b
  | _ => []
noncomputable def oneI : List Stmt := ifB ((stBody innerI).headD (.Pass ⟨0, 0, 0, 0⟩))
theorem i2d_one (W : Wf C) {x L : Nat} (R : Room A k) (F : FrameOk C (stScope innerI) (lsI ++ fnsI) fn env lo S Γ s.heap) (g0 : Γ[0]? = some (.v (.int (x : Nat)))) (g1 : Γ[1]? = some (.v (.int (L : Nat)))) (hc : env.cells = cl) (P : I2Pre C n cl f D cD S cur s) (hL : L < cur.length) (hN0 : cur.length ≤ 1000) {Q : Flow → Shared → Prop}
    (q : ∀ s' vs, KB C (· = D) s s' → s'.heap.PlainList D vs → IntsAre vs.toList (cur.take L ++ [(x : Int)] ++ cur.drop (L + 1)) → Q (.ret .none) s') : wpAny (model C.prog C.w) A (execs oneI env) Q (fun _ _ => False) s := by
  refine wpAny_execs_cons (wpAny_Assign_Subscript (Ev.go W (Ev.loc 0 rfl g0) R P.I F fun v s₃ k₃ r₃ I₃ F₃ => ?_))
  have hfk : env.scope.kind = .function := by rw [F.scope]; exact F.kind
  have hkk : env.kindOf "a_digits" = some .free := by unfold Env.kindOf; rw [F.scope]; rfl
  refine wpAny_Name (wpAny_loadName_free hfk hkk (by rw [hc]; exact P.look) (P.no W k₃).cell ?_ (by decide)) rfl
  refine Ev.go W (Ev.loc 1 rfl g1) R I₃ F₃ fun v' s₄ k₄ r₄ I₄ F₄ => ?_
  obtain ⟨tL, rfl⟩ := r₄.int_inv
  obtain ⟨tx, rfl⟩ := r₃.int_inv
  have k₀₄ := k₃.trans k₄
  obtain ⟨vsD, hp₄, hiD⟩ := (P.no W k₀₄).list
  have hsz : vsD.size = cur.length := by have := IntsAre.length hiD; rw [Array.length_toList] at this; exact this
  refine setItem_plain hp₄ (Int.natCast_nonneg _) (by lia) (by lia) fun h' hp' hs => ?_
  refine wpAny_execs_cons (wpAny_Return_none (q _ _ ?_ hp' ?_))
  · obtain ⟨n, e⟩ := hp₄
    exact k₀₄.no.trans (KB.upd (t := s₄.toks) hs.extBut e (loose_seq rfl) rfl)
  · rw [Int.toNat_natCast, Array.toList_setIfInBounds]
    have := ints_set (L := L) (x := (x : Int)) (t := tx) hiD
    rw [set_mid hL] at this
    exact this
theorem i2d_nums (W : Wf C) {x L h R0 : Nat} (hn : n < 2 ^ 20) (hB : B ≤ 2 ^ 26) (hh : (L + R0) / 2 = L + h) (hh1 : h ≤ 1000) (hhn : h * n ≤ 2 ^ 26) (hx : nbits (x / 2 ^ (h * n)) ≤ B) (R : Room A k) (I : Inv C s)
    (F : FrameOk C (stScope innerI) (lsI ++ fnsI) fn env lo S ([.v (.int x), .v (.int L), .v (.int (R0 : Nat)), .un, .un, .un, .un] ++ fsI n) s.heap) {Q : Flow → Shared → Prop}
    (q : ∀ s', KB C (MuOf lo S) s s' → Inv C s' → FrameOk C (stScope innerI) (lsI ++ fnsI) fn env lo S ([.v (.int x), .v (.int L), .v (.int (R0 : Nat)), .v (.int (L + h : Nat)), .v (.int (h * n : Nat)), .v (.int (x / 2 ^ (h * n) : Nat)), .v (.int (x % 2 ^ (h * n) : Nat))] ++ fsI n) s'.heap → wpAny (model C.prog C.w) A (execs ((stBody innerI).drop 5) env) Q (fun _ _ => False) s') :
    wpAny (model C.prog C.w) A (execs ((stBody innerI).drop 1) env) Q (fun _ _ => False) s := by
  have nh : nbits h ≤ 20 := nbits_le (Nat.lt_of_lt_of_le (show h < 2 ^ 10 by lia) (by decide))
  have nn : nbits n ≤ 20 := nbits_le hn
  refine wpAny_execs_cons (wpAny_Assign_Name (Ev.go W (Ev.bin W (Ev.bin W (Ev.loc 1) (Ev.loc 2) BinOk.addN) Ev.int ((BinOk.shrN (n := 1)).cast (d' := .int (L + h : Nat)) (int2 (by rw [Nat.pow_one, hh])))) R I F fun v s₃ k₃ r₃ I₃ F₃ =>
    frame_storeV W F₃ (i := 3) rfl (.inr rfl) (by exact of_decide_eq_true rfl) r₃ fun s₄ k₄ F₄ => ?_) rfl)
  have I₄ := F₃.inv W I₃ k₄
  refine wpAny_execs_cons (wpAny_Assign_Name (Ev.go W (Ev.bin W (Ev.bin W (Ev.loc 3) (Ev.loc 1) ((BinOk.subN (by lia)).cast (d' := .int (h : Nat)) (int2 (by lia)))) (Ev.loc 9) (BinOk.mulN (by lia))) R I₄ F₄ fun v s₅ k₅ r₅ I₅ F₅ =>
    frame_storeV W F₅ (i := 4) rfl (.inr rfl) (by exact of_decide_eq_true rfl) r₅ fun s₆ k₆ F₆ => ?_) rfl)
  have I₆ := F₅.inv W I₅ k₆
  have k₀₆ := (k₃.no.trans k₄).trans (k₅.no.trans k₆)
  clear k₃ k₄ k₅ k₆ r₃ r₅ I₃ F₃ I₄ F₄ I₅ F₅
  refine wpAny_execs_cons (wpAny_Assign_Name (Ev.go W (Ev.bin W (Ev.loc 0) (Ev.loc 4) BinOk.shrN) R I₆ F₆ fun v s₇ k₇ r₇ I₇ F₇ =>
    frame_storeV W F₇ (i := 5) rfl (.inr rfl) (by exact of_decide_eq_true rfl) r₇ fun s₈ k₈ F₈ => ?_) rfl)
  have I₈ := F₇.inv W I₇ k₈
  refine wpAny_execs_cons (wpAny_Assign_Name (Ev.go W (Ev.bin W (Ev.loc 0) (Ev.bin W (Ev.loc 5) (Ev.loc 4) (BinOk.shlN (Nat.le_trans (Nat.add_le_add hx hhn) (by lia)))) BinOk.xorLow) R I₈ F₈ fun v s₉ k₉ r₉ I₉ F₉ =>
    frame_storeV W F₉ (i := 6) rfl (.inr rfl) (by exact of_decide_eq_true rfl) r₉ fun s₁₀ k₁₀ F₁₀ => ?_) rfl)
  exact q s₁₀ (k₀₆.trans ((k₇.no.trans k₈).trans (k₉.no.trans k₁₀))) (F₉.inv W I₉ k₁₀) F₁₀
theorem i2d_call (W : Wf C) {h L x : Nat} {es : List Expr} {rest : List Stmt} {p1 p2 p3 : Pos} {ts : List Sl} (ih : I2Ok C n B N0 cl f D cD h) (hk : h ≤ k) (hlo : D < lo) (h1 : L + h ≤ cur.length) (h2 : cur.length ≤ N0) (h3 : nbits x ≤ B) (hc : env.cells = cl) (R : Room A k) (P : I2Pre C n cl f D cD S cur s) (F : FrameOk C (stScope innerI) (lsI ++ fnsI) (fun x => lsI.contains x) env lo S (ts ++ fsI n) s.heap)
    (ha : EvAll C k (stScope innerI) (lsI ++ fnsI) (ts ++ fsI n) es [.int x, .int L, .int (L + h : Nat)]) {Q : Flow → Shared → Prop}
    (q : ∀ s', KB C (· = D) s s' → I2Pre C n cl f D cD S (cur.take L ++ natInts (digs n h x) ++ cur.drop (L + h)) s' → FrameOk C (stScope innerI) (lsI ++ fnsI) (fun x => lsI.contains x) env lo S (ts ++ fsI n) s'.heap → wpAny (model C.prog C.w) A (execs rest env) Q (fun _ _ => False) s') :
    wpAny (model C.prog C.w) A (execs (.Expr (.Call (.Name "inner" p1) es [] p2) p3 :: rest) env) Q (fun _ _ => False) s := by
  refine wpAny_execs_cons (wpAny_Expr (call_inner W P.N R P.I F (by rw [hc]) (.inl rfl) ha fun vs s₁ k₁ r₁ I₁ F₁ N₁ => ?_) (interactive_no F) rfl)
  have P₁ := P.no W k₁
  refine codeAny_mono (ih L x A S s₁ vs cur h1 h2 h3 (R.le hk) P₁ r₁) fun r s₂ g => ?_
  obtain ⟨rfl, k₂, vs₂, hp₂, hi₂⟩ := g
  obtain ⟨vs₀, hp₀, _⟩ := P₁.list
  exact ⟨_, rfl, q s₂ (k₁.no.trans k₂) (P₁.upd W k₂ hp₂ hi₂) (F₁.kbAt W P₁.sd hlo hp₀ k₂ (Exists.elim hp₂ fun _ e => ⟨_, e⟩))⟩
theorem digs_join {h m L x : Nat} {X Y : List Int} (hh1 : 0 < h) (hh2 : h < m) (hX : X = cur.take L ++ natInts (digs n h (x % 2 ^ (h * n))) ++ cur.drop (L + h)) (hl : L + m ≤ cur.length) :
    X.take (L + h) ++ natInts (digs n (m - h) (x / 2 ^ (h * n))) ++ X.drop (L + h + (m - h)) = cur.take L ++ natInts (digs n m x) ++ cur.drop (L + m) := by
  have hl1 : (cur.take L ++ natInts (digs n h (x % 2 ^ (h * n)))).length = L + h := by rw [List.length_append, List.length_take, List.length_map, digs_length]; lia
  have t1 : (cur.take L ++ natInts (digs n h (x % 2 ^ (h * n))) ++ cur.drop (L + h)).take (L + h) = cur.take L ++ natInts (digs n h (x % 2 ^ (h * n))) := List.take_left' hl1
  have hm2 : L + h + (m - h) = L + m := by lia
  have t2 : (cur.take L ++ natInts (digs n h (x % 2 ^ (h * n))) ++ cur.drop (L + h)).drop (L + h + (m - h)) = cur.drop (L + m) := by
    have := drop_add (cur.take L ++ natInts (digs n h (x % 2 ^ (h * n)))) (cur.drop (L + h)) (m - h)
    rw [hl1] at this
    rw [this, List.drop_drop, hm2]
  have t3 : natInts (digs n m x) = natInts (digs n h (x % 2 ^ (h * n))) ++ natInts (digs n (m - h) (x / 2 ^ (h * n))) := by
    have := digs_split n h (m - h) x hh1 (by lia)
    rw [show h + (m - h) = m by lia] at this
    unfold natInts
    rw [this, List.map_append]
  rw [hX, t1, t2, t3]
  simp only [List.append_assoc]
theorem i2d_turn (W : Wf C) (hn : n < 2 ^ 20) (hB : B ≤ 2 ^ 26) (hnl : n * N0 ≤ 2 ^ 26) (hN0 : N0 ≤ 1000) {m L x : Nat} (hm : 0 < m) (ih : ∀ h, 0 < h → h < m → I2Ok C n B N0 cl f D cD h) (hL : L + m ≤ cur.length) (hcur : cur.length ≤ N0) (hx : nbits x ≤ B) (hlo : D < lo) (hc : env.cells = cl) (hk : m ≤ k + 1) (R : Room A k) (P : I2Pre C n cl f D cD S cur s) {s0 : Shared} (k0 : KB C No s0 s) (hlo2 : lo = s0.heap.objs.size) {S0 : Addr → Prop} (P0 : I2Pre C n cl f D cD S0 cur s0)
    (F : FrameOk C (stScope innerI) (lsI ++ fnsI) (fun x => lsI.contains x) env lo S ([.v (.int x), .v (.int L), .v (.int (L + m : Nat)), .un, .un, .un, .un] ++ fsI n) s.heap) {Q : Flow → Shared → Prop}
    (q : ∀ fl s' vs, (match fl with | .ret v => v | _ => Value.none) = .none → KB C (· = D) s0 s' → s'.heap.PlainList D vs → IntsAre vs.toList (cur.take L ++ natInts (digs n m x) ++ cur.drop (L + m)) → Q fl s') : wpAny (model C.prog C.w) A (execs (stBody innerI) env) Q (fun _ _ => False) s := by
  refine wpAny_execs_cons (wpAny_If ((Ts.cmp W (Ev.bin W (Ev.loc 1) Ev.int BinOk.add) (Ev.loc 2) CmpOk.eqi).go W R P.I F fun s₂ k₂ I₂ F₂ => ?_))
  have k₀₂ := k0.trans k₂
  by_cases hone : m = 1
  · have ht : ((L : Int) + 1 == ((L + m : Nat) : Int)) = true := by rw [hone]; simp
    rw [ht, if_pos rfl]
    refine i2d_one W R F₂ rfl rfl hc (P.no W k₂) (by lia) (by lia) fun s' vs k h1 h2 => q _ s' vs rfl (k₀₂.no.trans k) h1 ?_
    rw [hone]; exact h2
  · have ht : ((L : Int) + 1 == ((L + m : Nat) : Int)) = false := by rw [beq_eq_false_iff_ne]; lia
    rw [ht, if_neg Bool.false_ne_true]
    refine wpAny_execs_nil ?_
    obtain ⟨h, hh, hh1, hh2⟩ : ∃ h, (L + (L + m)) / 2 = L + h ∧ 0 < h ∧ h < m := ⟨(L + (L + m)) / 2 - L, by lia, by lia, by lia⟩
    have nup : nbits (x / 2 ^ (h * n)) ≤ B := nbits_le (Nat.lt_of_le_of_lt (Nat.div_le_self _ _) (Nat.lt_of_lt_of_le (lt_nbits x) (Nat.pow_le_pow_right (by decide) hx)))
    have nlow : nbits (x % 2 ^ (h * n)) ≤ B := nbits_le (Nat.lt_of_le_of_lt (Nat.mod_le _ _) (Nat.lt_of_lt_of_le (lt_nbits x) (Nat.pow_le_pow_right (by decide) hx)))
    have hhn : h * n ≤ 2 ^ 26 := Nat.le_trans (by rw [Nat.mul_comm]; exact Nat.mul_le_mul_left _ (by lia)) hnl
    have hm2 : L + h + (m - h) = L + m := by lia
    refine i2d_nums W hn hB hh (by lia) hhn nup R I₂ F₂ fun s₃ k₃ I₃ F₃ => ?_
    have k₀₃ : KB C No s0 s₃ := KB.above (S := S) (hlo2 ▸ (k₀₂.no.trans k₃))
    have N₃ := (P0.N.no W k₀₃).inFrame W F₃ hc rfl (by decide +kernel)
    have P₃' := P0.no W k₀₃
    have P₃ : I2Pre C n cl f D cD S cur s₃ := ⟨I₃, N₃, P.sd, P.look, P₃'.cell, P₃'.list⟩
    have hlt : (cur.take L ++ natInts (digs n h (x % 2 ^ (h * n))) ++ cur.drop (L + h)).length = cur.length := by
      rw [List.length_append, List.length_append, List.length_take, List.length_map, digs_length, List.length_drop]; lia
    refine i2d_call (L := L) (x := x % 2 ^ (h * n)) (ts := [.v (.int x), .v (.int L), .v (.int (L + m : Nat)), .v (.int (L + h : Nat)), .v (.int (h * n : Nat)), .v (.int (x / 2 ^ (h * n) : Nat)), .v (.int (x % 2 ^ (h * n) : Nat))]) W (ih h hh1 hh2) (by lia) hlo (by lia) hcur nlow hc R P₃ F₃ (.cons (Ev.loc 6) (.cons (Ev.loc 1) (.cons (Ev.loc 3) .nil))) fun s₄ k₄ P₄ F₄ => ?_
    refine i2d_call (L := L + h) (h := m - h) (x := x / 2 ^ (h * n)) (ts := [.v (.int x), .v (.int L), .v (.int (L + m : Nat)), .v (.int (L + h : Nat)), .v (.int (h * n : Nat)), .v (.int (x / 2 ^ (h * n) : Nat)), .v (.int (x % 2 ^ (h * n) : Nat))]) (cur := cur.take L ++ natInts (digs n h (x % 2 ^ (h * n))) ++ cur.drop (L + h)) W (ih (m - h) (by lia) (by lia)) (by lia) hlo (by rw [hlt]; lia) (by rw [hlt]; exact hcur) nup hc R P₄ F₄ (.cons (Ev.loc 5) (.cons (Ev.loc 3) (.cons (by rw [hm2]; exact Ev.loc 2) .nil))) fun s₅ k₅ P₅ F₅ => ?_
    obtain ⟨vs₅, hp₅, hi₅⟩ := P₅.list
    rw [digs_join (Y := []) hh1 hh2 rfl hL] at hi₅
    exact wpAny_execs_nil (q _ s₅ vs₅ rfl ((k₀₃.no.trans k₄).trans k₅) hp₅ hi₅)
theorem code_i2d (W : Wf C) (hn : n < 2 ^ 20) (hB : B ≤ 2 ^ 26) (hnl : n * N0 ≤ 2 ^ 26) (hN0 : N0 ≤ 1000) : ∀ (m : Nat), 0 < m → I2Ok C n B N0 cl f D cD m := by
  intro m
  induction m using Nat.strongRecOn with
  | ind m ih =>
  intro hm L x A S s vals cur hL hcur hx R P r
  obtain ⟨m', rfl⟩ : ∃ m', m = m' + 1 := ⟨m - 1, by lia⟩
  obtain ⟨doc, pm, c', ctv, hf, hco⟩ := P.N.at_
  obtain ⟨v1, v2, v3, rfl, _⟩ := r.three
  refine call_nested (ps := ["x", "L", "R"]) (ls := ["mid", "shift", "upper", "lower"]) W P.I hf hco R P.N.live P.N.low r rfl rfl (by decide +kernel) P.N.cok fun s₁ env S₁ k₁ hc F hS1 hS2 R' => ?_
  have P₁ := P.no W k₁
  have N₁ := P₁.N.inFrame W (ls := lsI) (ts := [.v (.int x), .v (.int L), .v (.int (L + (m' + 1) : Nat)), .un, .un, .un, .un]) F hc rfl (by decide +kernel)
  have hDlo : D < s.heap.objs.size := Exists.elim P.list fun _ h => Exists.elim h.1 fun _ e => Heap.lt_size e
  exact i2d_turn W hn hB hnl hN0 hm (fun h h1 h2 => ih h h2 h1) hL hcur hx hDlo hc (Nat.le_refl _) R' ⟨P₁.I, N₁, hS1 D P.sd, P.look, P₁.cell, P₁.list⟩ k₁ rfl P F fun fl s' vs e k h1 h2 => ⟨congrArg (fun v => Except.ok (Flow.ret v)) e, k, vs, h1, h2⟩
end Mine
end

noncomputable section
open PySem PySem.W PyProof.Rows
namespace Mine
variable {C : Cx} {k : Nat} {sc : Scope} {ns : List Str} {fn : Str → Bool} {env : Env} {lo : Nat} {S S' S'' : Addr → Prop} {Γ Γ' : List Sl} {s s' s'' : Shared} {A : Around} {Mu : Addr → Prop} {e : Expr} {d d' : PyData}

noncomputable def ndig (n a : Nat) : Nat := (nbits a + n - 1) / n
noncomputable abbrev nsI : List Str := ["a", "n", "a_digits", "inner"]

theorem i2d_env {h : Heap} (F : FrameOk C (scopeAt P2 5) nsI allW env lo S Γ h) {x : Str} (hx : x ∈ fnsI) : ∃ (c : Addr) (vo : Option Value) (i : Nat), nsI[i]? = some x ∧ env.cells.lookup x = some c ∧ (clFor env.cells (stScope innerI).names []).lookup x = some c ∧ h.IsCell c vo ∧ SlotAt h lo S (Γ.getD i .un) vo := by
  have key : ∃ i : Nat, nsI[i]? = some x ∧ (scopeAt P2 5).names.lookup x ≠ some .local := by
    simp only [List.mem_cons, List.not_mem_nil, or_false] at hx
    rcases hx with rfl | rfl | rfl
    · exact ⟨2, rfl, by decide +kernel⟩
    · exact ⟨3, rfl, by decide +kernel⟩
    · exact ⟨1, rfl, by decide +kernel⟩
  obtain ⟨i, hi, hl⟩ := key
  obtain ⟨_, c, vo, h2, h3, h4⟩ := F.cel i x hi hl
  refine ⟨c, vo, i, hi, h2, ?_, h3, h4⟩
  have ecl : clFor env.cells (stScope innerI).names [] = [(("n" : Str), (env.cells.lookup ("n" : Str)).getD 0), (("inner" : Str), (env.cells.lookup ("inner" : Str)).getD 0), (("a_digits" : Str), (env.cells.lookup ("a_digits" : Str)).getD 0)] := rfl
  rw [ecl]
  simp only [List.mem_cons, List.not_mem_nil, or_false] at hx
  rcases hx with rfl | rfl | rfl <;> (rw [h2]; rfl)
theorem i2d_dom {cells : List (Str × Addr)} {x : Str} {c : Addr} (h : (clFor cells (stScope innerI).names []).lookup x = some c) : x ∈ fnsI := by
  have ecl : clFor cells (stScope innerI).names [] = [(("n" : Str), (cells.lookup ("n" : Str)).getD 0), (("inner" : Str), (cells.lookup ("inner" : Str)).getD 0), (("a_digits" : Str), (cells.lookup ("a_digits" : Str)).getD 0)] := rfl
  have := mem_of_lookup h
  rw [ecl] at this
  simp only [List.mem_cons, List.not_mem_nil, or_false] at this
  rcases this with e | e | e <;> (cases e; decide +kernel)
theorem i2d_look {h : Heap} (F : FrameOk C (scopeAt P2 5) nsI allW env lo S Γ h) {x : Str} {c : Addr} (e : (clFor env.cells (stScope innerI).names []).lookup x = some c) : env.cells.lookup x = some c := by
  obtain ⟨c', _, _, _, h1, h2, _⟩ := i2d_env F (i2d_dom e)
  rw [h1, ← h2, e]
theorem i2d_slot {h : Heap} {n a : Nat} {sl : Sl} (F : FrameOk C (scopeAt P2 5) nsI allW env lo S [.v (.int a), .v (.int n), sl, .un] h) (i : Nat) (x : Str) (hx : fnsI[i]? = some x) : ∃ c vo, (clFor env.cells (stScope innerI).names []).lookup x = some c ∧ h.IsCell c vo ∧ ∀ d, (fsI n).getD i .un = .v d → ∃ v, vo = some v ∧ Rp h S v d := by
  obtain ⟨c, vo, j, hj, _, h2, h3, h4⟩ := i2d_env F (List.mem_of_getElem? hx)
  refine ⟨c, vo, h2, h3, fun d hd => ?_⟩
  have hlt := (List.getElem?_eq_some_iff.mp hx).1
  have hi : i = 0 ∨ i = 1 ∨ i = 2 := by have : i < 3 := hlt; lia
  rcases hi with rfl | rfl | rfl
  · cases hd
  · cases hd
  · have e : x = "n" := (Option.some.inj hx).symm
    have : j = 1 := (nd_ne F.nd hj (show nsI[1]? = some ("n" : Str) from rfl)).mpr e
    rw [this] at h4
    have hd : PyData.int n = d := Sl.v.inj hd
    rw [← hd]; exact h4
theorem i2d_clok {h : Heap} {n a : Nat} {sl : Sl} (F : FrameOk C (scopeAt P2 5) nsI allW env lo S [.v (.int a), .v (.int n), sl, .un] h) : ClOk S h (clFor env.cells (stScope innerI).names []) fnsI (fsI n) where
  slot := i2d_slot F
  noOwn := fun i xs q => by
    have := List.mem_of_getElem? q
    simp at this
  apart := fun x y c h1 h2 => F.apart x y c (i2d_look F h1) (i2d_look F h2)
  celS := fun x c h1 => F.celS x c (i2d_look F h1)
  celC := fun x c h1 => F.celC x c (i2d_look F h1)
  dom := fun x c h1 => i2d_dom h1
theorem ints_rep (t : Tok) : ∀ m, IntsAre (List.replicate m (Value.int 0 t)) (List.replicate m 0)
  | 0 => .nil
  | m + 1 => .cons 0 t (ints_rep t m)
theorem i2d_tail (W : Wf C) (l0 : C.mg "len" = .none) (l1 : C.mb "len" = some (.builtin "len")) {a n B : Nat} (hn0 : 0 < n) (hn : n < 2 ^ 20) (hB : B ≤ 2 ^ 26) (ha : nbits a ≤ B) (hm : ndig n a ≤ 1000) (hnm : n * ndig n a ≤ 2 ^ 26) (R : Room A (ndig n a)) (I : Inv C s) {f D cD : Addr} {tz : Tok} {Q : Flow → Shared → Prop}
    (F : FrameOk C (scopeAt P2 5) nsI allW env lo S [.v (.int a), .v (.int n), .v (.list (List.replicate (ndig n a) (.int 0))), .un] s.heap) (N : NestAt C S innerI "inner" qualI (clFor env.cells (stScope innerI).names []) fnsI (fsI n) f s)
    (hD : s.heap.PlainList D (List.replicate (ndig n a) (Value.int 0 tz)).toArray) (hDb : C.base ≤ D) (hc : env.cells.lookup ("a_digits" : Str) = some cD) (hcD : s.heap.IsCell cD (some (.ref D)))
    (q : ∀ s' vs, KB C (· = D) s s' → s'.heap.PlainList D vs → IntsAre vs.toList (natInts (digs n (ndig n a) a)) → Q (.ret (.ref D)) s') : wpAny (model C.prog C.w) A (execs ((bodyAt P2 5).drop 2) env) Q (fun _ _ => False) s := by
  have hfk : env.scope.kind = .function := by rw [F.scope]; exact F.kind
  have hkk : env.kindOf "a_digits" = some .cell := by unfold Env.kindOf; rw [F.scope]; rfl
  have hcb : C.base ≤ cD := F.bs _ (F.celS _ _ hc)
  have keep : ∀ {t : Shared}, KB C No s t → t.heap.PlainList D (List.replicate (ndig n a) (Value.int 0 tz)).toArray ∧ t.heap.IsCell cD (some (.ref D)) := fun kb =>
    ⟨hD.at (fun o e => kb.keep _ _ e (fun z => z) (fun z => (by obtain ⟨n, e'⟩ := hD; rw [e] at e'; cases e'; cases z.2))), IsCell.no hcD kb W hcb⟩
  refine wpAny_execs_cons (wpAny_If (Ts.go W (Ts.int W (Ev.loc 0)) R I F fun s₇ k₇ I₇ F₇ => ?_))
  by_cases ha0 : a = 0
  · have : (((a : Nat) : Int) != 0) = false := by rw [ha0]; rfl
    rw [this, if_neg Bool.false_ne_true]
    refine wpAny_execs_nil (wpAny_execs_cons (wpAny_Return_some (wpAny_Name (wpAny_loadName_cell hfk hkk hc (keep k₇).2 (q _ _ k₇.no (keep k₇).1 ?_)) rfl)))
    have e0 : ndig n a = 0 := by
      unfold ndig
      rw [ha0, show nbits 0 = 0 from rfl, Nat.zero_add]; exact Nat.div_eq_of_lt (by lia)
    rw [e0]; exact .nil
  · have : (((a : Nat) : Int) != 0) = true := by simpa using ha0
    rw [this, if_pos rfl]
    have hm1 : 0 < ndig n a := by
      unfold ndig
      have : 0 < nbits a := by
        rcases Nat.eq_zero_or_pos (nbits a) with z | z
        · have := lt_nbits a; rw [z] at this; lia
        · exact z
      exact Nat.div_pos (by lia) hn0
    have N₇ := N.no W k₇
    have N₇' : NestAt C (fun x => S x ∨ x = D) innerI "inner" qualI (clFor env.cells (stScope innerI).names []) fnsI (fsI n) f s₇ :=
      ⟨N₇.at_, ⟨fun i x hx => by
        obtain ⟨c, vo, h1, h2, h3⟩ := i2d_slot F₇ i x hx
        refine ⟨c, vo, h1, h2, fun d hd => ?_⟩
        obtain ⟨v, e, r⟩ := h3 d hd
        have hlt := (List.getElem?_eq_some_iff.mp hx).1
        have hi : i = 0 ∨ i = 1 ∨ i = 2 := by have : i < 3 := hlt; lia
        rcases hi with rfl | rfl | rfl
        · cases hd
        · cases hd
        · have hd : PyData.int n = d := Sl.v.inj hd
          rw [← hd] at r ⊢
          obtain ⟨t, rfl⟩ := r.int_inv
          exact ⟨_, e, .int _ _⟩, N₇.cok.noOwn, N₇.cok.apart, fun x c h => .inl (N₇.cok.celS x c h), N₇.cok.celC, N₇.cok.dom⟩, N₇.self, fun x z => z.elim (N₇.live x) fun z => z ▸ Exists.elim (keep k₇).1 fun _ e => ⟨_, e⟩, fun x z => z.elim (N₇.low x) fun z => z ▸ hDb, N₇.flow⟩
    obtain ⟨ci, _, _, _, hi1, hi2, _⟩ := i2d_env F₇ (x := "inner") (by decide +kernel)
    obtain ⟨ca, _, _, _, ha1, ha2, _⟩ := i2d_env F₇ (x := "a_digits") (by decide +kernel)
    refine wpAny_execs_cons (wpAny_Expr (call_inner W N₇' R I₇ F₇ (hi1.trans hi2.symm) (.inr rfl) (.cons (Ev.loc 0) (.cons (Ev.int (i := ((0 : Nat) : Int))) (.cons (Ev.callB W rfl l0 l1 (.cons (Ev.loc 2) .nil) (Bi.lenL (by rw [List.length_replicate]; lia))) .nil))) fun vs s₈ k₈ r₈ I₈ F₈ N₈ => ?_) (interactive_no F₇) rfl)
    have k₀₈ := k₇.trans k₈
    have r₈' : RpAll s₈.heap (fun x => S x ∨ x = D) vs [.int a, .int (0 : Nat), .int (0 + ndig n a : Nat)] := by
      rw [List.length_replicate] at r₈
      rw [Nat.zero_add]
      obtain ⟨v1, v2, v3, rfl, h1, h2, h3⟩ := r₈.three
      obtain ⟨_, rfl⟩ := h1.int_inv
      obtain ⟨_, rfl⟩ := h2.int_inv
      obtain ⟨_, rfl⟩ := h3.int_inv
      exact .cons (.int _ _) (.cons (.int _ _) (.cons (.int _ _) .nil))
    have hca : (clFor env.cells (stScope innerI).names []).lookup ("a_digits" : Str) = some cD := by rw [ha2, ← ha1, hc]
    refine codeAny_mono (code_i2d W hn hB hnm hm (ndig n a) hm1 0 a _ _ s₈ vs _ (by rw [List.length_replicate]; lia) (by rw [List.length_replicate]; exact Nat.le_refl _) ha R ⟨I₈, N₈, .inr rfl, hca, (keep k₀₈).2, _, (keep k₀₈).1, ints_rep tz _⟩ r₈') fun r₉ s₉ h₉ => ?_
    obtain ⟨rfl, k₉, vs₉, hp₉, hi₉⟩ := h₉
    refine ⟨_, rfl, ?_⟩
    have hc₉ : s₉.heap.IsCell cD (some (.ref D)) := by
      obtain ⟨o, eo, dd⟩ := (keep k₀₈).2
      obtain ⟨nn, eD⟩ := (keep k₀₈).1
      exact ⟨o, k₉.keep _ _ eo (fun z => by rw [z, eD] at eo; cases eo; cases dd) (fun z => absurd (W.tlt _ z.1) (Nat.not_lt.mpr hcb)), dd⟩
    refine wpAny_execs_nil (wpAny_execs_cons (wpAny_Return_some (wpAny_Name (wpAny_loadName_cell hfk hkk hc hc₉ (q _ _ (k₀₈.no.trans k₉) hp₉ ?_)) rfl)))
    have efin : (List.replicate (ndig n a) (0 : Int)).take 0 ++ natInts (digs n (ndig n a) a) ++ (List.replicate (ndig n a) 0).drop (0 + ndig n a) = natInts (digs n (ndig n a) a) := by
      rw [Nat.zero_add, List.take_zero, List.nil_append, List.drop_eq_nil_of_le (by rw [List.length_replicate]; exact Nat.le_refl _), List.append_nil]
    rw [efin] at hi₉
    exact hi₉
theorem ev_ndig (W : Wf C) {a n : Nat} {x y y' : Expr} {p1 p2 p3 p4 p5 p6 : Pos} {k1 : Nat} (hn0 : 0 < n) (hn : n < 2 ^ 20) (hx : Ev C k sc ns Γ x (.int (a : Nat))) (hy : Ev C k sc ns Γ y (.int (n : Nat))) (hy' : Ev C k sc ns Γ y' (.int (n : Nat))) (h1 : (p1.endLine == p2.line) = true) (h2 : ∀ env : Env, attributeBase x "bit_length" env (eval x env) = eval x env) :
    Ev C k sc ns Γ (.BinOp (.BinOp (.BinOp (.Call (.Attribute x "bit_length" p1) [] [] p2) .Add y p3) .Sub (.Constant (.int 1) k1 p4) p5) .FloorDiv y' p6) (.int (ndig n a : Nat)) :=
  Ev.bin W (Ev.bin W (Ev.bin W (Ev.methI W hx .nil PySem.F.slot_int_bit_length PySem.F.type_int_bit_length Bi.bits (by exact of_decide_eq_true rfl) h1 h2) hy (BinOk.addN (a := nbits a))) (Ev.int (i := ((1 : Nat) : Int))) (BinOk.subN (by lia))) hy'
      ((BinOk.fdiv (by lia) (PyProof.noPylong_small (by lia))).cast (d' := .int (ndig n a : Nat)) (int2 (by unfold ndig; rw [Int.fdiv_eq_ediv_of_nonneg _ (Int.natCast_nonneg _), ← Int.natCast_ediv])))
theorem i2d_head (W : Wf C) {a n : Nat} (hn0 : 0 < n) (hn : n < 2 ^ 20) (hm : ndig n a ≤ 1000) (R : Room A k) (I : Inv C s) (F : FrameOk C (scopeAt P2 5) nsI allW env lo S [.v (.int a), .v (.int n), .un, .un] s.heap) {cD : Addr} (hcD : env.cells.lookup ("a_digits" : Str) = some cD) {Q : Flow → Shared → Prop}
    (q : ∀ (s' : Shared) (D : Addr) (tz : Tok), KB C (MuOf lo S) s s' → s.heap.get? D = .none → FrameOk C (scopeAt P2 5) nsI allW env lo S [.v (.int a), .v (.int n), .v (.list (List.replicate (ndig n a) (.int 0))), .un] s'.heap → s'.heap.PlainList D (List.replicate (ndig n a) (Value.int 0 tz)).toArray → ¬ S D → C.base ≤ D → s'.heap.IsCell cD (some (.ref D)) → Inv C s' →
      wpAny (model C.prog C.w) A (execs ((bodyAt P2 5).drop 1) env) Q (fun _ _ => False) s') : wpAny (model C.prog C.w) A (execs (bodyAt P2 5) env) Q (fun _ _ => False) s := by
  refine wpAny_execs_cons (wpAny_Assign_Name (wpAny_BinOp (Ev.go W (Ev.list W (.cons Ev.int .nil)) R I F fun lv s₂ k₂ r₂ I₂ F₂ => Ev.go W (ev_ndig W hn0 hn (Ev.loc 0) (Ev.loc 1) (Ev.loc 1) rfl (by intro _; rfl)) R I₂ F₂ fun nv s₃ k₃ r₃ I₃ F₃ => ?_)) rfl)
  obtain ⟨tn, rfl⟩ := r₃.int_inv
  obtain ⟨lz, v0, rfl, hp0, hn0', hr0⟩ := r₂.list_inv
  obtain ⟨z0, e0, hz0⟩ := hr0.one
  obtain ⟨tz, rfl⟩ := hz0.int_inv
  have ev0 : v0 = #[.int 0 tz] := Array.toList_inj.mp e0
  have hp3 : s₃.heap.PlainList lz #[.int 0 tz] := ev0 ▸ hp0.at (fun o e => k₃.keep _ _ e (fun z => z) (fun z => (by obtain ⟨n, e'⟩ := hp0; rw [e] at e'; cases e'; cases z.2)))
  refine wp_mul1 (by lia) hp3 ?_
  have k₄ : KB C No s₃ { s₃ with heap := s₃.heap.push { cls := .type "list", data := .seq (List.replicate (ndig n a) (.int 0 tz)).toArray } } := KB.push (t := s₃.toks)
  have hpD : (s₃.heap.push { cls := .type "list", data := .seq (List.replicate (ndig n a) (Value.int 0 tz)).toArray }).PlainList s₃.heap.objs.size (List.replicate (ndig n a) (.int 0 tz)).toArray := ⟨_, Heap.get?_push_size _ rfl⟩
  have hDS : ¬ S s₃.heap.objs.size := F₃.bd.fresh
  refine frame_storeC W (F₃.no W k₄) (i := 2) rfl rfl (by exact of_decide_eq_true rfl) (by decide +kernel) hcD (.list hpD hDS (rp_rep (.int _ _) _)) fun s₅ k₅ F₅ hc₅ => ?_
  exact q s₅ _ tz (((k₂.trans k₃).trans k₄).no.trans k₅) (fresh_none (k₂.trans k₃) (get_size _)) F₅ (hpD.at (fun o e => k₅.keep _ _ e (fun z => hDS z.1) (fun z => (by obtain ⟨n, e'⟩ := hpD; rw [e] at e'; cases e'; cases z.2)))) hDS (I₃.big W) hc₅ (FrameOk.inv W (F₃.no W k₄) (I₃.no W k₄) k₅)
theorem i2d_qual {fd : FuncData} {fa : Addr} {s : Shared} (hsc : fd.scope = scopeAt P2 5) (hqn : fd.qualname = "_int2digits") : qualnameIn (callEnvC fd s.heap.objs.size fa) "inner" "inner" = qualI := by
  unfold qualnameIn
  have e1 : (callEnvC fd s.heap.objs.size fa).kindOf "inner" = some .cell := by unfold Env.kindOf; show fd.scope.names.lookup _ = _; rw [hsc]; rfl
  rw [e1, if_neg (by decide)]
  show fd.qualname ++ ".<locals>." ++ "inner" = _
  rw [hqn]; decide +kernel
theorem i2d_free : ∀ x ∈ (stScope innerI).names, x.2 = .free → x.1 ∈ fnsI := by
  intro x hx hk
  have hx' : x ∈ ([("x", .local), ("L", .local), ("R", .local), ("mid", .local), ("shift", .local), ("upper", .local), ("lower", .local), ("a_digits", .free), ("inner", .free), ("n", .free)] : List (Str × NameKind)) := hx
  simp only [List.mem_cons, List.not_mem_nil, or_false] at hx'
  rcases hx' with rfl | rfl | rfl | rfl | rfl | rfl | rfl | rfl | rfl | rfl <;> first | exact absurd hk (by decide) | decide +kernel
theorem i2d_body (W : Wf C) {c T : Addr} (hN : Nest C c T (stPos innerI) qualI) (l0 : C.mg "len" = .none) (l1 : C.mb "len" = some (.builtin "len")) {a n B : Nat} (hn0 : 0 < n) (hn : n < 2 ^ 20) (hB : B ≤ 2 ^ 26) (ha : nbits a ≤ B) (hm : ndig n a ≤ 1000) (hnm : n * ndig n a ≤ 2 ^ 26) (R : Room A (ndig n a)) (I : Inv C s)
    (F : FrameOk C (scopeAt P2 5) nsI allW env lo S [.v (.int a), .v (.int n), .un, .un] s.heap) (hcode : env.code = .ref c) (hqual : qualnameIn env "inner" "inner" = qualI) {Q : Flow → Shared → Prop}
    (q : ∀ s' D vs, KB C (fun x => MuOf lo S x ∨ x = D) s s' → s.heap.get? D = .none → ¬ S D → s'.heap.PlainList D vs → IntsAre vs.toList (natInts (digs n (ndig n a) a)) → Q (.ret (.ref D)) s') : wpAny (model C.prog C.w) A (execs (bodyAt P2 5) env) Q (fun _ _ => False) s := by
  obtain ⟨cD, _, _, _, hcD, _⟩ := i2d_env F (x := "a_digits") (by decide +kernel)
  refine i2d_head W hn0 hn hm R I F hcD fun s₅ D tz k₅ hDn F₅ hpD hDS hDb hc₅ I₅ => ?_
  obtain ⟨ci, _, _, _, hi1, hi2, _⟩ := i2d_env F₅ (x := "inner") (by decide +kernel)
  refine wpAny_execs_cons (def_inner (st := innerI) (i := 3) (fns := fnsI) (fs := fsI n) W hN I₅ F₅ hcode hqual rfl rfl rfl (fun _ => rfl) (fun x hx hk => ?_) (fun z => by cases z) rfl rfl (by decide +kernel) rfl (hi2.trans hi1.symm) (fun h Fh => i2d_clok Fh) fun f s₆ k₆ F₆ N₆ hcells₆ => ?_)
  · obtain ⟨_, _, _, _, h1, _⟩ := i2d_env F₅ (i2d_free x hx hk)
    rw [h1]; rfl
  · have hpD6 : s₆.heap.PlainList D _ := hpD.at (fun o e => k₆.keep _ _ e (fun z => hDS z.1) (fun z => (by obtain ⟨n, e'⟩ := hpD; rw [e] at e'; cases e'; cases z.2)))
    exact i2d_tail W l0 l1 hn0 hn hB ha hm hnm R (F₅.inv W I₅ k₆) F₆ N₆ hpD6 hDb hcD (hcells₆ "a_digits" cD _ (by decide +kernel) hcD hc₅) fun s' vs k h1 h2 => q s' D vs (((k₅.trans k₆).mono fun _ z => .inl z).trans (k.mono fun _ z => .inr z)) hDn hDS h1 h2
theorem fn_i2d (W : Wf C) {fa : Addr} (D : Maker C P2 5 "_int2digits" ["a", "n"] nsI fa qualI (stPos innerI)) (l0 : C.mg "len" = .none) (l1 : C.mb "len" = some (.builtin "len")) {a n B : Nat} (hn0 : 0 < n) (hn : n < 2 ^ 20) (hB : B ≤ 2 ^ 26) (ha : nbits a ≤ B) (hm : ndig n a ≤ 1000) (hnm : n * ndig n a ≤ 2 ^ 26) :
    Fn C (ndig n a + 1) fa [.int a, .int n] (.list ((natInts (digs n (ndig n a) a)).map .int)) := by
  obtain ⟨fd, c, T, hD, hsc, hcd, hqn, hN⟩ := D.ok
  refine fn_frame W 2 hD rfl fun A S s S₁ s₁ R I₁ k₁ hS1 hS2 F => ?_
  rw [hsc] at F
  refine i2d_body W hN l0 l1 hn0 hn hB ha hm hnm R I₁ F hcd (i2d_qual hsc hqn) fun s' D vs k h1 h2 h3 h4 => ⟨_, rfl, ?_, .list h3 (fun z => h2 (hS1 _ z)) (rpall_ints h4)⟩
  exact KB.drop (Mu' := No) (fresh_none k₁ h1) (KB.above (S := S₁) (KB.drop (Mu' := MuOf s.heap.objs.size S₁) (fresh_none k₁ h1) (k₁.no.trans k) fun a z => z) |>.no) fun a z => .inl z
end Mine
end

noncomputable section
open PySem PySem.W PyProof.Rows
namespace Mine
variable {C : Cx} {k : Nat} {sc : Scope} {ns : List Str} {fn : Str → Bool} {env : Env} {lo : Nat} {S S' S'' : Addr → Prop} {Γ Γ' : List Sl} {s s' s'' : Shared} {A : Around} {Mu : Addr → Prop} {e : Expr} {d d' : PyData}

noncomputable def ldiv (n b : Nat) : List Nat → Nat → List Nat × Nat
  | [], r => ([], r)
  | d :: ds, r => ((r * 2 ^ n + d) / b :: (ldiv n b ds ((r * 2 ^ n + d) % b)).1, (ldiv n b ds ((r * 2 ^ n + d) % b)).2)
noncomputable def hv (n : Nat) : Nat → List Nat → Nat
  | acc, [] => acc
  | acc, d :: ds => hv n (acc * 2 ^ n + d) ds
theorem ldiv_eq {n b : Nat} : ∀ (ds : List Nat) (q r : Nat), hv n (b * q + r) ds = b * hv n q (ldiv n b ds r).1 + (ldiv n b ds r).2
  | [], q, r => rfl
  | d :: ds, q, r => by
    have h := Nat.div_add_mod (r * 2 ^ n + d) b
    have e : (b * q + r) * 2 ^ n + d = b * (q * 2 ^ n + (r * 2 ^ n + d) / b) + (r * 2 ^ n + d) % b := by
      rw [Nat.mul_add, Nat.add_mul, Nat.mul_assoc]; lia
    show hv n ((b * q + r) * 2 ^ n + d) ds = b * hv n (q * 2 ^ n + (r * 2 ^ n + d) / b) (ldiv n b ds ((r * 2 ^ n + d) % b)).1 + (ldiv n b ds ((r * 2 ^ n + d) % b)).2
    rw [e, ldiv_eq ds]
theorem hv_snoc {n : Nat} : ∀ (l : List Nat) (acc d : Nat), hv n acc (l ++ [d]) = hv n acc l * 2 ^ n + d
  | [], acc, d => rfl
  | x :: l, acc, d => hv_snoc l _ d
theorem dval_rev {n : Nat} (l : List Nat) : dval n (natInts l) = (hv n 0 l.reverse : Nat) := by
  induction l with
  | nil => rfl
  | cons d l ih =>
    rw [List.reverse_cons, hv_snoc]
    show (Int.ofNat d) + dval n (natInts l) * 2 ^ n = _
    rw [ih]; push_cast; rw [Int.add_comm]; rfl
theorem dval_digs (n : Nat) : ∀ m x, 0 < m → dval n (natInts (digs n m x)) = (x : Nat)
  | 1, x, _ => by show (x : Int) + 0 * 2 ^ n = _; rw [Int.zero_mul, Int.add_zero]
  | m + 2, x, _ => by
    show (Int.ofNat (x % 2 ^ n)) + dval n (natInts (digs n (m + 1) (x / 2 ^ n))) * 2 ^ n = _
    rw [dval_digs n (m + 1) _ (by lia)]
    have := Nat.div_add_mod x (2 ^ n)
    have h : ((x % 2 ^ n + x / 2 ^ n * 2 ^ n : Nat) : Int) = (x : Int) := by rw [Nat.mul_comm (x / 2 ^ n)]; exact congrArg _ (by lia)
    rw [← h]; push_cast; rfl
theorem digs_lt (n : Nat) : ∀ m x, x < 2 ^ (n * m) → ∀ d ∈ digs n m x, d < 2 ^ n
  | 0, x, _, d, h => by cases h
  | 1, x, hx, d, h => by rw [List.mem_singleton.mp h]; rw [Nat.mul_one] at hx; exact hx
  | m + 2, x, hx, d, h => by
    rcases List.mem_cons.mp h with rfl | h
    · exact Nat.mod_lt _ (Nat.two_pow_pos _)
    · refine digs_lt n (m + 1) (x / 2 ^ n) ((Nat.div_lt_iff_lt_mul (Nat.two_pow_pos _)).mpr ?_) d h
      rw [← Nat.pow_add, ← Nat.mul_succ]; exact hx
theorem hv_lt {n : Nat} : ∀ (l : List Nat) (acc m : Nat), acc < 2 ^ (n * m) → (∀ d ∈ l, d < 2 ^ n) → hv n acc l < 2 ^ (n * (m + l.length))
  | [], acc, m, h, _ => h
  | d :: l, acc, m, h, hd => by
    have hp := Nat.two_pow_pos n
    have := hv_lt l (acc * 2 ^ n + d) (m + 1) (by
      have h1 := hd d (.head _)
      calc acc * 2 ^ n + d < acc * 2 ^ n + 2 ^ n := by lia
        _ = (acc + 1) * 2 ^ n := by rw [Nat.add_mul, Nat.one_mul]
        _ ≤ 2 ^ (n * m) * 2 ^ n := Nat.mul_le_mul_right _ h
        _ = 2 ^ (n * (m + 1)) := by rw [← Nat.pow_add, Nat.mul_succ]) fun x hx => hd x (.tail _ hx)
    rw [List.length_cons, show m + (l.length + 1) = m + 1 + l.length by lia]
    exact this
theorem lt_ndig {n a : Nat} (hn : 0 < n) : a < 2 ^ (n * ndig n a) := by
  refine Nat.lt_of_lt_of_le (lt_nbits a) (Nat.pow_le_pow_right (by decide) ?_)
  unfold ndig
  have h := Nat.div_add_mod (nbits a + n - 1) n
  have h2 := Nat.mod_lt (nbits a + n - 1) hn
  lia
theorem ldiv_c {n b d r : Nat} {ds : List Nat} : ldiv n b (d :: ds) r = ((r * 2 ^ n + d) / b :: (ldiv n b ds ((r * 2 ^ n + d) % b)).1, (ldiv n b ds ((r * 2 ^ n + d) % b)).2) := rfl
noncomputable abbrev nsP : List Str := ["a", "b", "n", "a_digits", "r", "q_digits", "a_digit", "q_digit", "q"]
structure GPos (C : Cx) (a2 a3 a5 a6 a7 : Addr) : Prop where
  div : GDiv C P2 3 4 a2 a3
  i2d : Maker C P2 5 "_int2digits" ["a", "n"] nsI a5 qualI (stPos innerI)
  d2i : Maker C P2 6 "_digits2int" ["digits", "n"] nsD a6 qualD (stPos innerD)
  pos : Df C P2 7 "_divmod_pos" ["a", "b"] nsP a7
  l0 : C.mg "len" = .none
  l1 : C.mb "len" = some (.builtin "len")
  r0 : C.mg "reversed" = .none
  r1 : C.mb "reversed" = some (.type "reversed")

noncomputable def posJ (n a b : Nat) (ds : List Nat) (rem : List PyData) (Γ : List Sl) : Prop := ∃ (rs qs : List Nat) (r : Nat) (x y : Sl), rem = (rs.map fun x : Nat => PyData.int (x : Int)) ∧ (∀ d ∈ rs, d < 2 ^ n) ∧ (∀ d ∈ qs, d < 2 ^ n) ∧ r < b ∧ qs.length + rs.length = ds.length ∧ qs ++ (ldiv n b rs r).1 = (ldiv n b ds.reverse 0).1 ∧ (ldiv n b rs r).2 = (ldiv n b ds.reverse 0).2 ∧ noOwn [x, y] = true ∧ Γ = [.v (.int a), .v (.int b), .v (.int n), .v (.list ((natInts ds).map .int)), .v (.int r), .own (qs.map fun x : Nat => PyData.int (x : Int)), x, y, .un]
theorem posJ.mk {n a b : Nat} {ds : List Nat} {rem : List PyData} (rs qs : List Nat) (r : Nat) (x y : Sl) (h0 : rem = (rs.map fun x : Nat => PyData.int (x : Int))) (h1 : (∀ d ∈ rs, d < 2 ^ n)) (h2 : (∀ d ∈ qs, d < 2 ^ n)) (h3 : r < b) (h4 : qs.length + rs.length = ds.length) (h5 : qs ++ (ldiv n b rs r).1 = (ldiv n b ds.reverse 0).1) (h6 : (ldiv n b rs r).2 = (ldiv n b ds.reverse 0).2) (h7 : noOwn [x, y] = true) : posJ n a b ds rem [.v (.int a), .v (.int b), .v (.int n), .v (.list ((natInts ds).map .int)), .v (.int r), .own (qs.map fun x : Nat => PyData.int (x : Int)), x, y, .un] := ⟨rs, qs, r, x, y, h0, h1, h2, h3, h4, h5, h6, h7, rfl⟩
theorem posJ.elim {n a b : Nat} {ds : List Nat} {rem : List PyData} {Γ : List Sl} {P : Prop} (h : posJ n a b ds rem Γ) (k : ∀ (rs qs : List Nat) (r : Nat) (x y : Sl), (rem = (rs.map fun x : Nat => PyData.int (x : Int))) → ((∀ d ∈ rs, d < 2 ^ n)) → ((∀ d ∈ qs, d < 2 ^ n)) → (r < b) → (qs.length + rs.length = ds.length) → (qs ++ (ldiv n b rs r).1 = (ldiv n b ds.reverse 0).1) → ((ldiv n b rs r).2 = (ldiv n b ds.reverse 0).2) → (noOwn [x, y] = true) → Γ = [.v (.int a), .v (.int b), .v (.int n), .v (.list ((natInts ds).map .int)), .v (.int r), .own (qs.map fun x : Nat => PyData.int (x : Int)), x, y, .un] → P) : P := by
  obtain ⟨rs, qs, r, x, y, h0, h1, h2, h3, h4, h5, h6, h7, rfl⟩ := h
  exact k rs qs r x y h0 h1 h2 h3 h4 h5 h6 h7 rfl
theorem fn_pos {a2 a3 a5 a6 a7 : Addr} (G : GPos C a2 a3 a5 a6 a7) {a b K : Nat} (hb : 0 < b) (hn : nbits b ≤ 8999) (hd : ndig (nbits b) a ≤ 100) (hK : ndig (nbits b) a + 1 ≤ K) (h5 : 5 ≤ K) :
    Fn C (K + 1) a7 [.int a, .int b] (.tuple [.int (a / b : Nat), .int (a % b : Nat)]) := by
  have W := G.div.W
  generalize hnb : nbits b = n at *
  have hbn : b < 2 ^ n := by rw [← hnb]; exact lt_nbits b
  have hn0 : 0 < n := by
    rcases Nat.eq_zero_or_pos n with z | z
    · rw [z] at hbn; lia
    · exact z
  have hna : nbits a ≤ n * ndig n a := nbits_le (lt_ndig hn0)
  have hnm : n * ndig n a ≤ 8999 * 100 := Nat.mul_le_mul hn hd
  refine G.pos.toFn W 7 rfl ?_
  refine Ex.assign W 2 ((Ev.methI W (Ev.loc 1) .nil F.slot_int_bit_length F.type_int_bit_length Bi.bits).cast (d' := .int (n : Nat)) (int2 (by rw [← hnb]; rfl))) ?_
  refine Ex.assign W 3 (Ev.call W rfl G.i2d.glob G.i2d.isFn (.cons (Ev.loc 0) (.cons (Ev.loc 2) .nil)) ((fn_i2d (B := n * ndig n a) W G.i2d G.l0 G.l1 hn0 (by lia) (by lia) hna (by lia) (by lia)).mono hK)) ?_
  refine Ex.assign W 4 (Ev.int (i := ((0 : Nat) : Int))) (Ex.newOwn W 5 ?_)
  generalize hds : digs n (ndig n a) a = ds
  have hlen : ds.length = ndig n a := by rw [← hds]; exact digs_length _ _ _
  have hall : ∀ d ∈ ds, d < 2 ^ n := by rw [← hds]; exact digs_lt n _ _ (lt_ndig hn0)
  have hrev : ((natInts ds).map PyData.int).reverse = ds.reverse.map fun x : Nat => PyData.int (x : Int) := by
    rw [← List.map_reverse, ← List.map_reverse, List.map_map]; rfl
  refine Ex.for W (Src.reversed W rfl G.r0 G.r1 (Ev.loc 3)) (posJ n a b ds)
    ⟨ds.reverse, [], 0, .un, .un, hrev, fun d hd => hall d (List.mem_reverse.mp hd), (fun _ h => nomatch h), hb, by simp, rfl, rfl, rfl, rfl⟩ ?_ ?_
  · intro x rem Γ₁ hJ
    refine hJ.elim fun rs qs r sx sy hrem hrs hqs hr hl h1 h2 hno hΓ => ?_
    subst hΓ
    cases rs with
    | nil => cases hrem
    | cons d rs =>
      cases hrem
      have hd1 := hrs d (.head _)
      have hx : r * 2 ^ n + d < b * 2 ^ n := by
        calc r * 2 ^ n + d < r * 2 ^ n + 2 ^ n := by lia
          _ = (r + 1) * 2 ^ n := by rw [Nat.add_mul, Nat.one_mul]
          _ ≤ b * 2 ^ n := Nat.mul_le_mul_right _ hr
      have nr : nbits r ≤ n := nbits_le (Nat.lt_trans hr hbn)
      refine ⟨_, AsgOk.name W 6, ?_⟩
      refine Ex.tup W (.cons 7 (.cons 4 .nil)) (G.div.d2.call W rfl (.cons (Ev.bin W (Ev.bin W (Ev.loc 4) (Ev.loc 2) (BinOk.shlN (by lia))) (Ev.loc 6) BinOk.addN) (.cons (Ev.loc 1) (.cons (Ev.loc 2) .nil))) ((fn_div2 G.div 2 _ b n hb hbn hx (by lia) hn).mono h5)) ?_
      refine Ex.append W 5 (Ev.loc 7) (Ex.nil ⟨rs, qs ++ [(r * 2 ^ n + d) / b], (r * 2 ^ n + d) % b, .v (.int d), .v (.int ((r * 2 ^ n + d) / b : Nat)), rfl, fun y hy => hrs y (.tail _ hy), fun y hy => ?_, Nat.mod_lt _ hb, by simp at hl ⊢; lia, by rw [← h1]; exact List.append_assoc _ _ _, h2, rfl, by simp; rfl⟩) (by rw [List.length_map]; simp at hl; rw [sizeLine_eq]; lia)
      rcases List.mem_append.mp hy with hy | hy
      · exact hqs y hy
      · rw [List.mem_singleton.mp hy]; exact (Nat.div_lt_iff_lt_mul hb).mpr (by rw [Nat.mul_comm (2 ^ n) b]; exact hx)
  · intro Γ₁ hJ
    refine hJ.elim fun rs qs r sx sy hrem hrs hqs hr hl h1 h2 hno hΓ => ?_
    subst hΓ
    have : rs = [] := by cases rs with | nil => rfl | cons => cases hrem
    subst this
    have h1 : qs = (ldiv n b ds.reverse 0).1 := by rw [← h1]; exact (List.append_nil _).symm
    have h2 : r = (ldiv n b ds.reverse 0).2 := h2
    have hql : qs.length = ds.length := by simpa using hl
    refine Ex.reverse (xs := qs.map fun x : Nat => PyData.int (x : Int)) W 5 ?_ (by rw [List.length_map, hql, hlen, sizeLine_eq]; lia)
    refine Ex.freeze W ?_
    have hq : (qs.map fun x : Nat => PyData.int (x : Int)).reverse = (natInts qs.reverse).map .int := by
      rw [← List.map_reverse, List.map_map]; rfl
    rw [hq]
    have hlq : (natInts qs.reverse).length = ndig n a := by rw [List.length_map, List.length_reverse, hql, hlen]
    have hbits : ∀ L m : Nat, L + m ≤ (natInts qs.reverse).length → (Builtin.Int.intBits (dval n (((natInts qs.reverse).drop L).take m)) : Int) + n * (natInts qs.reverse).length ≤ 2 ^ 27 := fun L m hLm => by
      have e : ((natInts qs.reverse).drop L).take m = natInts ((qs.reverse.drop L).take m) := by unfold natInts; rw [← List.map_drop, ← List.map_take]
      rw [e, dval_rev]
      have hb1 : hv n 0 ((qs.reverse.drop L).take m).reverse < 2 ^ (n * (0 + ((qs.reverse.drop L).take m).reverse.length)) := hv_lt _ 0 0 (by rw [Nat.mul_zero]; exact Nat.one_pos) fun d hd => hqs d (by
        have := List.mem_of_mem_drop (List.mem_of_mem_take (List.mem_reverse.mp hd))
        exact List.mem_reverse.mp this)
      have hb2 := bits_le hb1
      have hl2 : ((qs.reverse.drop L).take m).reverse.length ≤ ndig n a := by
        rw [List.length_reverse, List.length_take, List.length_drop, List.length_reverse, hql, hlen]; lia
      have hb3 : n * (0 + ((qs.reverse.drop L).take m).reverse.length) ≤ n * ndig n a := Nat.mul_le_mul_left _ (by lia)
      rw [hlq]
      have hb4 : (n : Int) * (ndig n a : Nat) = ((n * ndig n a : Nat) : Int) := by push_cast; rfl
      rw [hb4]
      lia
    refine Ex.assign W 8 (Ev.call W rfl G.d2i.glob G.d2i.isFn (.cons (Ev.loc 5) (.cons (Ev.loc 2) .nil)) ((fn_d2i W G.d2i G.l0 G.l1 (by rw [hlq]; lia) hbits (by lia)).mono (by rw [hlq]; exact hK))) ?_
    refine Ex.ret W (Ev.tuple W (.cons (Ev.loc 8) (.cons (Ev.loc 4) .nil))) ?_
    have key : a = b * hv n 0 qs + r := by
      have e1 : hv n 0 ds.reverse = a := by
        rcases Nat.eq_zero_or_pos (ndig n a) with z | z
        · have : ds = [] := List.eq_nil_of_length_eq_zero (hlen.trans z)
          have ha := lt_ndig (n := n) (a := a) hn0
          rw [z, Nat.mul_zero] at ha
          subst this
          show 0 = a
          lia
        · have h3 := dval_rev (n := n) ds
          rw [← hds, dval_digs n _ _ z, hds] at h3
          exact_mod_cast h3.symm
      have := ldiv_eq (n := n) (b := b) ds.reverse 0 0
      rw [Nat.mul_zero, Nat.zero_add, e1, ← h1, ← h2] at this
      exact this
    have eq1 : a / b = hv n 0 qs := by rw [key, Nat.mul_add_div hb, Nat.div_eq_of_lt hr, Nat.add_zero]
    have eq2 : a % b = r := by rw [key, Nat.mul_add_mod, Nat.mod_eq_of_lt hr]
    rw [dval_rev, List.reverse_reverse, eq1, eq2]
end Mine
end

noncomputable section
open PySem PySem.W PyProof.Rows
open Sem (wp)
set_option maxRecDepth 100000
namespace Mine
variable {C : Cx} {k : Nat} {sc : Scope} {ns : List Str} {fn : Str → Bool} {env : Env} {lo : Nat} {S S' S'' : Addr → Prop} {Γ Γ' : List Sl} {s s' s'' : Shared} {A : Around} {Mu : Addr → Prop} {e : Expr} {d d' : PyData}
noncomputable abbrev PG := PySem.Challenge.pw_rs0094_02
noncomputable abbrev nsE : List Str := ["addr", "pos", "escape", "ch"]
noncomputable def stForT : Stmt → Expr
  | .For t _ _ _ _ => t
  | _ => .Name "" ⟨0, 0, 0, 0⟩
noncomputable def stForB : Stmt → List Stmt
  | .For _ _ b _ _ => b
  | _ => []
noncomputable abbrev scE : Scope := scopeAt PG 9
noncomputable abbrev bodyE : List Stmt := bodyAt PG 9
noncomputable def forE : Stmt := bodyE.getD 2 (.Pass ⟨0, 0, 0, 0⟩)
noncomputable def endE : List Stmt := bodyE.drop 3

theorem bs_eq {c : Nat} : ((⟨#[c]⟩ : Str) == ("\\" : Str)) = (c == 92) := by
  rw [Bool.eq_iff_iff]
  simp only [beq_iff_eq]
  constructor
  · intro h
    have := congrArg Str.cps h
    have e : ("\\" : Str).cps = #[92] := by decide +kernel
    rw [e] at this
    simpa using this
  · intro h; subst h; decide +kernel

theorem bs_len {c : Nat} : ("\\" : Str).length + (⟨#[c]⟩ : Str).length ≤ sizeLine := by
  have h1 : ("\\" : Str).length = 1 := by decide +kernel
  have h2 : (⟨#[c]⟩ : Str).length = 1 := rfl
  have h3 := sizeLine_eq
  lia

structure LpE (C : Cx) (x : Str) (t : Tok) (env : Env) (en it : Addr) : Prop where
  ne : en ≠ it
  l1 : env.locals ≠ en
  l2 : env.locals ≠ it
  b1 : C.base ≤ en
  b2 : C.base ≤ it
noncomputable abbrev fpE (env : Env) (en it : Addr) : List Addr := [env.locals, en, it]

theorem fp_live {x : Str} {t : Tok} {en it : Addr} {i : Nat} (P : LpE C x t env en it) (F : SFr C sc ns env Γ s.heap) (E : EnumSt x t en it i s.heap) : ∀ b ∈ fpE env en it, C.base ≤ b ∧ ∃ o, s.heap.get? b = some o ∧ ¬ SeqDat o := by
  intro b hb
  obtain ⟨⟨o1, e1, n1⟩, o2, e2, n2⟩ := E.live
  simp only [List.mem_cons, List.not_mem_nil, or_false] at hb
  rcases hb with rfl | rfl | rfl
  · obtain ⟨m, ⟨o, es, n, e, dd, _⟩, _⟩ := F.fr.loc
    refine ⟨F.base, o, e, ?_⟩
    rintro ⟨xs, n, z⟩; rw [dd] at z; cases z
  · exact ⟨P.b1, o1, e1, n1⟩
  · exact ⟨P.b2, o2, e2, n2⟩

theorem get_of_drop {L : List PyData} {n : Nat} {d : PyData} {r : List PyData} (h : L.drop (L.length - n) = d :: r) (hn : n = r.length + 1) (hle : n ≤ L.length) : L[L.length - n]? = some d ∧ L.drop (L.length - (n - 1)) = r := by
  subst hn
  constructor
  · have : (L.drop (L.length - (r.length + 1)))[0]? = some d := by rw [h]; rfl
    rwa [List.getElem?_drop, Nat.add_zero] at this
  · have := congrArg List.tail h
    rw [List.tail_drop, List.tail_cons] at this
    have e : L.length - (r.length + 1 - 1) = L.length - (r.length + 1) + 1 := by lia
    rw [e]; exact this

theorem TabOk.upds {h h' : Heap} {wr : List Addr} (x : TabOk C h) (k : ∀ b o, b ∉ wr → h.get? b = some o → h'.get? b = some o) (l : ∀ b ∈ wr, ∀ o, h.get? b = some o → Loose o) : TabOk C h' := fun P hP => by
  have nt : ∀ vs, h.get? P = some (tabObj vs) → P ∉ wr := fun vs e z => (l P z _ e).ne_tab _ rfl
  rcases x P hP with q | ⟨c, q, oc, vs, t, ho, hc, hd, hn⟩
  · exact .inl (k P _ (nt _ q) q)
  · refine .inr ⟨c, k P _ (nt _ q) q, oc, vs, t, k c _ (fun z => ?_) ho, hc, hd, hn⟩
    rcases l c z _ ho with y | y
    · exact y _ hd
    · exact y.2 hc
theorem KB.upds {h' : Heap} {tk : Nat} {wr : List Addr} (k : ∀ b o, b ∉ wr → s.heap.get? b = some o → h'.get? b = some o) (l : ∀ b ∈ wr, ∀ o, s.heap.get? b = some o → Loose o) (m : ∀ b ∈ wr, Mu b) (ht : s.toks ≤ tk) : KB C Mu s { s with heap := h', toks := tk } :=
  ⟨fun b o e q _ => k b o (fun z => q (m b z)) e, fun q => q.upds k l, fun b o e q => ⟨o, k b o (fun z => q (m b z)) e⟩, fun _ _ e => e, Nat.le_refl _, id, rfl, ht⟩
theorem EnumSt.loose {x : Str} {t : Tok} {en it : Addr} {i : Nat} {h : Heap} (E : EnumSt x t en it i h) : ∀ b ∈ [en, it], ∀ o, h.get? b = some o → Loose o := fun b hb o e => by
  obtain ⟨⟨old, e1⟩, o2, e2, c, dd⟩ := E
  simp only [List.mem_cons, List.not_mem_nil, or_false] at hb
  rcases hb with rfl | rfl
  · rw [e1] at e; cases e
    exact .inr ⟨(fun z => by cases z), fun z => absurd (Value.type.inj z) (by decide)⟩
  · rw [e2] at e; cases e
    refine .inr ⟨fun z => ?_, fun z => ?_⟩
    · rw [c] at z; cases z
    · rw [c] at z; have := Value.type.inj z; unfold strIterType at this; revert this; split <;> decide
theorem loc_no {x : Str} {t : Tok} {en it : Addr} (P : LpE C x t env en it) : env.locals ∉ [en, it] := by
  simp only [List.mem_cons, List.not_mem_nil, or_false, not_or]
  exact ⟨P.l1, P.l2⟩

theorem seg_loopE (W : Wf C) {x : Str} {t : Tok} {en it : Addr} {B : Around} {L : List PyData} {K : Flow → Sem PySem.Fin} {H : Value → Sem PySem.Fin} {c : Code} {p : Pos} (P : LpE C x t env en it) (hsz : x.length < sizeLine)
    (R : Room (B.over (.forLoop (stForT forE) (.ref en) (stForB forE) [] env) [forBack K H id id env c p]) k)
    (hK : ∀ (e : Bool) (pp : Int) (chs : Sl) (s₀ s : Shared) (n : Nat), SFr C scE nsE env [.v (.str x), .v (.int pp), .v (.bool e), chs] s.heap → Inv C s → KB C (· ∈ fpE env en it) s₀ s → (∀ b ∈ fpE env en it, C.base ≤ b ∧ ∃ o, s.heap.get? b = some o ∧ ¬ SeqDat o) → (e = true → pp = (x.cps.size : Int) - 1) →
      n = (escItems [] x.cps.size e).length → n ≤ L.length → L.drop (L.length - n) = escItems [] x.cps.size e → Seg (model C.prog C.w) B (EG C (fpE env en it)) (YG C (fpE env en it) L) n s₀ c (K .next) [] s) :
    ∀ (cs : List Nat) (i : Nat) (e : Bool) (pp : Int) (chs : Sl) (s₀ s : Shared) (n : Nat), x.cps.toList.drop i = cs → i + cs.length = x.cps.size → SFr C scE nsE env [.v (.str x), .v (.int pp), .v (.bool e), chs] s.heap → Inv C s → KB C (· ∈ fpE env en it) s₀ s → EnumSt x t en it i s.heap → (e = true → pp = (i : Int) - 1) →
      n = (escItems cs i e).length → n ≤ L.length → L.drop (L.length - n) = escItems cs i e →
      Seg (model C.prog C.w) B (EG C (fpE env en it)) (YG C (fpE env en it) L) n s₀ (.forLoop (stForT forE) (.ref en) (stForB forE) [] env) ((model C.prog C.w).den (.forLoop (stForT forE) (.ref en) (stForB forE) [] env)) [forBack K H id id env c p] s := by
  intro cs
  induction cs with
  | nil =>
    intro i e pp chs s₀ s n hcs hi F I kb E hp hn hle hL
    have hi' : i = x.cps.size := by simpa using hi
    subst hi'
    have hfp := fp_live P F E
    have hx : x.cps[x.cps.size]? = none := Array.getElem?_eq_none (Nat.le_refl _)
    refine seg_forLoop (enumEnd R.handled P.ne E hx fun h' hk l1 l2 => ?_)
    have hk' : ∀ b o, b ∉ [en, it] → s.heap.get? b = some o → h'.get? b = some o := fun b o hb e => hk b o (fun z => hb (z ▸ .tail _ (.head _))) e
    have kx : KB C (· ∈ fpE env en it) s { s with heap := h' } := KB.upds (tk := s.toks) hk' E.loose (fun b hb => .tail _ hb) (Nat.le_refl _)
    have F' : SFr C scE nsE env [.v (.str x), .v (.int pp), .v (.bool e), chs] h' := F.at fun o q => hk' _ o (loc_no P) q
    refine seg_back (hK e pp chs s₀ { s with heap := h' } n F' (I.kb W kx fun a z => (hfp a z).1) (kb.trans kx) (fun b hb => ?_) hp hn hle hL)
    simp only [List.mem_cons, List.not_mem_nil, or_false] at hb
    rcases hb with rfl | rfl | rfl
    · obtain ⟨m, ⟨o, es, n, e, dd, _⟩, _⟩ := F'.fr.loc
      exact ⟨F.base, o, e, by rintro ⟨xs, n, z⟩; rw [dd] at z; cases z⟩
    · exact ⟨P.b1, l1⟩
    · exact ⟨P.b2, l2⟩
  | cons ch cs ih =>
    intro i e pp chs s₀ s n hcs hi F I kb E hp hn hle hL
    have hfp := fp_live P F E
    have hilt : i < x.cps.size := by simp at hi; lia
    have hch : x.cps[i]? = some ch := by
      have : (x.cps.toList.drop i)[0]? = some ch := by rw [hcs]; rfl
      rw [List.getElem?_drop, Nat.add_zero] at this
      rw [← Array.getElem?_toList]; exact this
    have hcs' : x.cps.toList.drop (i + 1) = cs := by
      have := congrArg List.tail hcs
      rwa [List.tail_drop, List.tail_cons] at this
    have hi' : i + 1 + cs.length = x.cps.size := by rw [List.length_cons] at hi; lia
    refine seg_forLoop (wpAny_with_toks (Nat.le_refl s.toks) ((walk_enum R.handled P.ne).item i _ _ _ hilt E fun T vals h₁ tk hvals hT hTup hmid hk ht => ?_))
    obtain ⟨tk', y, ⟨c', u, hc', rfl⟩, rfl⟩ := hvals
    rw [hch] at hc'; cases hc'
    have k₁ : KB C (· ∈ fpE env en it) s { s with heap := h₁, toks := tk } := KB.upds hk E.loose (fun b hb => .tail _ hb) ht
    have F₁ : SFr C scE nsE env [.v (.str x), .v (.int pp), .v (.bool e), chs] h₁ := F.at fun o q => hk _ o (loc_no P) q
    have hTap : T ∉ [en, it] := (walk_enum (C := C) (x := x) (t := t) R.handled P.ne).apart i T _ hmid
    show wpAny _ _ (letOwnedTupleGo (.Tuple _ _ _) (.ref en) (.ref T)) _ _ _
    refine (walk_enum R.handled P.ne).go _ _ _ i T _ _ _ hmid fun h₂ hE₂ hk₂ => ?_
    have k₂ : KB C (· ∈ fpE env en it) { s with heap := h₁, toks := tk } { s with heap := h₂, toks := tk } := ⟨fun b o q m _ => hk₂ b o (fun z => m (.tail _ z)) q, fun q => q.upds hk₂ (fun b hb o eo => ?_), fun b o q m => ⟨o, hk₂ b o (fun z => m (.tail _ z)) q⟩, fun _ _ e => e, Nat.le_refl _, id, rfl, Nat.le_refl _⟩
    rotate_left
    · obtain ⟨⟨y, m1⟩, ⟨o2, m2, m3, m4⟩, _⟩ := hmid
      simp only [List.mem_cons, List.not_mem_nil, or_false] at hb
      rcases hb with rfl | rfl
      · have m1 : h₁.get? b = some _ := m1
        rw [m1] at eo; cases eo
        exact .inr ⟨(fun z => by cases z), fun z => absurd (Value.type.inj z) (by decide)⟩
      · have m2 : h₁.get? b = some _ := m2
        rw [m2] at eo; cases eo
        refine .inr ⟨fun z => ?_, fun z => ?_⟩
        · rw [m3] at z; cases z
        · rw [m3] at z; have := Value.type.inj z; unfold strIterType at this; revert this; split <;> decide
    have F₂ : SFr C scE nsE env [.v (.str x), .v (.int pp), .v (.bool e), chs] h₂ := F₁.at fun o q => hk₂ _ o (loc_no P) q
    have I₂ : Inv C { s with heap := h₂, toks := tk } := (I.kb W k₁ fun a z => (hfp a z).1).kb W k₂ fun a z => (hfp a z).1
    have hTl : T ≠ env.locals := fun z => by
      obtain ⟨m, ⟨o, es, n, e, _⟩, _⟩ := F.fr.loc
      have := Heap.lt_size e
      exact absurd (Nat.lt_of_lt_of_le (z ▸ this) hT) (Nat.lt_irrefl _)
    obtain ⟨oT, eT, cT, nT, dT⟩ := hTup
    have rT : Rp h₂ (· = env.locals) (.ref T) (.tuple [.int i, .str ⟨#[ch]⟩]) := .tuple ⟨oT, hk₂ _ _ hTap eT, cT, nT, dT⟩ hTl (.cons (.int _ _) (.cons (.str _ _) .nil))
    have hasg : AsgOk C k allW scE nsE (stForT forE) (.tuple [.int i, .str ⟨#[ch]⟩]) [.v (.str x), .v (.int pp), .v (.bool e), chs] [.v (.str x), .v (.int i), .v (.bool e), .v (.str ⟨#[ch]⟩)] := AsgOk.tup (ds := [.int i, .str ⟨#[ch]⟩]) (is := [1, 3]) W (.cons 1 (.cons 3 .nil))
    refine wq (hasg _ env env.locals _ _ _ R I₂ F₂.fr rT) fun _ s₃ ⟨k₃', F₃'⟩ => ?_
    have F₃ : SFr C scE nsE env [.v (.str x), .v (.int i), .v (.bool e), .v (.str ⟨#[ch]⟩)] s₃.heap := ⟨F₃', rfl⟩
    have k₃ := kb_loc k₃'
    have I₃ := F₂.fr.inv W I₂ k₃'
    have hkeep : ∀ {s s' : Shared}, KB C (· = env.locals) s s' → ∀ b ∈ [en, it], ∀ o, s.heap.get? b = some o → s'.heap.get? b = some o := fun {s s'} k b hb o e => k.keep b o e (fun z => loc_no P (z ▸ hb)) fun z => absurd (W.tlt _ z.1) (Nat.not_lt.mpr (by
      simp only [List.mem_cons, List.not_mem_nil, or_false] at hb
      rcases hb with rfl | rfl
      · exact P.b1
      · exact P.b2))
    have E₃ : EnumSt x t en it (i + 1) s₃.heap := (walk_enum (C := C) R.handled P.ne).frame _ _ _ hE₂ (hkeep k₃)
    have kb₃ : KB C (· ∈ fpE env en it) s₀ s₃ := ((kb.trans k₁).trans k₂).trans (k₃.mono fun a z => z ▸ .head _)
    have hfp₃ := fp_live P F₃ E₃
    have hgo : ∀ {sa sb : Shared} {e : Bool} {n : Nat}, SFr C scE nsE env [.v (.str x), .v (.int i), .v (.bool e), .v (.str ⟨#[ch]⟩)] sb.heap → Inv C sb → KB C (· ∈ fpE env en it) sa sb → EnumSt x t en it (i + 1) sb.heap → n = (escItems cs (i + 1) e).length → n ≤ L.length → L.drop (L.length - n) = escItems cs (i + 1) e →
        Seg (model C.prog C.w) B (EG C (fpE env en it)) (YG C (fpE env en it) L) n sa (.forLoop (stForT forE) (.ref en) (stForB forE) [] env) (.pure (.again (.forLoop (stForT forE) (.ref en) (stForB forE) [] env))) [forBack K H id id env c p] sb := fun F I kb E h1 h2 h3 =>
      seg_again rfl (ih (i + 1) _ i _ _ _ _ hcs' hi' F I kb E (fun _ => by push_cast; lia) h1 h2 h3)
    have hco : env.scope.isCoroutine = false := by rw [F.fr.scope]; rfl
    have hint := interactive_no F.fr
    show Seg _ _ _ _ _ _ _ ((execs (stForB forE) env).wrap _ _ _ _) _ s₃
    refine seg_execs_cons (seg_If (Ts.go W (Ts.bool W (Ev.loc 2)) R I₃ F₃.fr fun s₄ k₄ I₄ F₄' => ?_))
    have F₄ := F₃.no W k₄
    have E₄ : EnumSt x t en it (i + 1) s₄.heap := (walk_enum (C := C) R.handled P.ne).frame _ _ _ E₃ (hkeep k₄.no)
    have kb₄ := kb₃.trans k₄.no
    have hfp₄ := fp_live P F₄ E₄
    cases e with
    | true =>
      rw [if_pos rfl]
      have hn : n = (escItems cs (i + 1) false).length + 1 := hn
      subst hn
      have hL : L.drop (L.length - ((escItems cs (i + 1) false).length + 1)) = .tuple [.int i, .str ("\\" ++ ⟨#[ch]⟩)] :: escItems cs (i + 1) false := hL
      obtain ⟨g1, g2⟩ := get_of_drop hL rfl hle
      refine seg_execs_cons (seg_yieldS W (Ev.tuple W (.cons (Ev.loc 1) (.cons (Ev.bin W Ev.str (Ev.loc 3) (BinOk.cat bs_len)) .nil))) F₄ I₄ R kb₄ hfp₄ (.head _) hle g1 rfl rfl rfl (fun s₅ I₅ hk₅ => ?_) hco hint)
      have F₅ : SFr C scE nsE env _ s₅.heap := F₄.at fun o q => hk₅ _ (.head _) o q
      have E₅ : EnumSt x t en it (i + 1) s₅.heap := (walk_enum (C := C) R.handled P.ne).frame _ _ _ E₄ fun b hb => hk₅ b (.tail _ hb)
      refine seg_execs_cons (seg_plain (F₅.assign W 2 R I₅ (Ev.bool (b := false)) rfl fun s₆ k₆ I₆ F₆ => ?_))
      refine seg_execs_nil (seg_execs_nil ?_)
      exact hgo F₆ I₆ (k₆.mono fun a z => z ▸ .head _) ((walk_enum (C := C) R.handled P.ne).frame _ _ _ E₅ (hkeep k₆)) rfl (by lia) g2
    | false =>
      rw [if_neg Bool.false_ne_true]
      refine seg_execs_cons (seg_If (Ts.go W (Ts.cmp W (Ev.loc 3) Ev.str CmpOk.eqs) R I₄ F₄.fr fun s₅ k₅ I₅ F₅' => ?_))
      have F₅ := F₄.no W k₅
      have E₅ : EnumSt x t en it (i + 1) s₅.heap := (walk_enum (C := C) R.handled P.ne).frame _ _ _ E₄ (hkeep k₅.no)
      have kb₅ := kb₄.trans k₅.no
      have hfp₅ := fp_live P F₅ E₅
      rw [bs_eq]
      by_cases h92 : (ch == 92) = true
      · rw [h92, if_pos rfl]
        have hesc : escItems (ch :: cs) i false = escItems cs (i + 1) true := by rw [escItems_f, h92, if_pos rfl]
        rw [hesc] at hn hL
        refine seg_execs_cons (seg_plain (F₅.assign W 2 R I₅ (Ev.bool (b := true)) rfl fun s₆ k₆ I₆ F₆ => ?_))
        refine seg_execs_nil (seg_execs_nil (seg_execs_nil ?_))
        exact hgo F₆ I₆ (kb₅.trans (k₆.mono fun a z => z ▸ .head _)) ((walk_enum (C := C) R.handled P.ne).frame _ _ _ E₅ (hkeep k₆)) hn hle hL
      · rw [Bool.eq_false_iff.mpr h92, if_neg Bool.false_ne_true]
        have hesc : escItems (ch :: cs) i false = .tuple [.int i, .str ⟨#[ch]⟩] :: escItems cs (i + 1) false := by rw [escItems_f, if_neg h92]
        rw [hesc] at hn hL
        have hn : n = (escItems cs (i + 1) false).length + 1 := hn
        subst hn
        obtain ⟨g1, g2⟩ := get_of_drop hL rfl hle
        refine seg_execs_cons (seg_yieldS W (Ev.tuple W (.cons (Ev.loc 1) (.cons (Ev.loc 3) .nil))) F₅ I₅ R kb₅ hfp₅ (.head _) hle g1 rfl rfl rfl (fun s₆ I₆ hk₆ => ?_) hco hint)
        have F₆ : SFr C scE nsE env _ s₆.heap := F₅.at fun o q => hk₆ _ (.head _) o q
        have E₆ : EnumSt x t en it (i + 1) s₆.heap := (walk_enum (C := C) R.handled P.ne).frame _ _ _ E₅ fun b hb => hk₆ b (.tail _ hb)
        refine seg_execs_nil (seg_execs_nil (seg_execs_nil ?_))
        exact hgo F₆ I₆ KB.refl E₆ rfl (by lia) g2
end Mine
end

noncomputable section
open PySem PySem.W PyProof.Rows
open Sem (wp)
set_option maxRecDepth 100000
namespace Mine
variable {C : Cx} {k : Nat} {sc : Scope} {ns : List Str} {fn : Str → Bool} {env : Env} {lo : Nat} {S S' S'' : Addr → Prop} {Γ Γ' : List Sl} {s s' s'' : Shared} {A : Around} {Mu : Addr → Prop} {e : Expr} {d d' : PyData}

theorem SFr.store (W : Wf C) (F : SFr C sc ns env Γ s.heap) (I : Inv C s) {x : Str} {i : Nat} {v : Value} (hx : ns[i]? = some x) (hl : sc.names.lookup x = some .local) (hi : i < Γ.length) (hd : scal (.v d) = true) (hv : ∀ h S, Rp h S v d) {Q : Unit → Shared → Prop} {E : Value → Shared → Prop}
    (q : ∀ s', s'.heap.objs.size = s.heap.objs.size → KB C (· = env.locals) s s' → Inv C s' → SFr C sc ns env (Γ.set i (.v d)) s'.heap → Q () s') : wpAny (model C.prog C.w) A (storeName env x v) Q E s := by
  have hk : env.kindOf x = sc.names.lookup x := by unfold Env.kindOf; rw [F.fr.scope]
  have hf : env.scope.kind = .function := by rw [F.fr.scope]; exact F.fr.kind
  have nc := F.nocell
  have F0 := F.fr
  obtain ⟨m, hn, hloc⟩ := F.fr.loc
  obtain ⟨oL, es, nn, eL, dL, _⟩ := id hn
  refine wpAny_storeName_local (hk.trans hl) hn (fun h' hn' hs => ?_) (by rw [hf]; rfl)
  have kb : KB C (· = env.locals) s { s with heap := h', toks := s.toks + 1 } := KB.upd hs.extBut eL (loose_dict dL) rfl
  refine q _ hs.1 kb (I.kb W kb fun a z => z ▸ F.base) ⟨⟨F0.scope, F0.kind, F0.glob, F0.blt, F0.nd, ⟨_, hn', fun j y hy hly => ?_⟩, fun j y hy hly => ?_, fun x y c h1 _ => absurd h1 (nc x c), F0.locS, fun x c h => absurd h (nc x c), fun x c h => absurd h (nc x c), fun x c _ h => absurd h (nc x c), fun a z => ?_, F0.bs, F0.nofree, F0.lob, one_set F0.one⟩, ?_⟩
  · rw [getD_set hi]
    by_cases hij : i = j
    · rw [if_pos hij, if_pos ((nd_ne F0.nd hx hy).mp hij).symm]
      exact ⟨v, rfl, hv _ _⟩
    · rw [if_neg hij, if_neg (fun z => hij ((nd_ne F0.nd hx hy).mpr z.symm))]
      exact scal_slot (scal_get F.sc) (hloc j y hy hly)
  · obtain ⟨_, c, vo, h2, _⟩ := F0.cel j y hy hly
    exact absurd h2 (nc y c)
  · obtain ⟨o', _, _, e', _⟩ := hn'
    exact ⟨o', z ▸ e'⟩
  · rw [List.all_eq_true]
    intro y hy
    rcases List.mem_or_eq_of_mem_set hy with h | h
    · exact List.all_eq_true.mp F.sc y h
    · rw [h]; exact hd

noncomputable abbrev K0E : Flow → Sem PySem.Fin := fun f => .pure (.done (.ret (match f with | .ret v => v | _ => .none)))
noncomputable abbrev H0E (env : Env) : Value → Sem PySem.Fin := fun e => (leaving env e).wrap (fun _ => .raise e) .raise id id

theorem seg_endE (W : Wf C) {x : Str} {fp : List Addr} {B : Around} {L : List PyData} {bd : List Stmt} (R : Room (B.over (.func bd env) []) k) (hfl : env.locals ∈ fp) (e : Bool) (pp : Int) (chs : Sl) (s₀ s : Shared) (n : Nat)
    (F : SFr C scE nsE env [.v (.str x), .v (.int pp), .v (.bool e), chs] s.heap) (I : Inv C s) (kb : KB C (· ∈ fp) s₀ s) (hfp : ∀ b ∈ fp, C.base ≤ b ∧ ∃ o, s.heap.get? b = some o ∧ ¬ SeqDat o) (hp : e = true → pp = (x.cps.size : Int) - 1)
    (hn : n = (escItems [] x.cps.size e).length) (hle : n ≤ L.length) (hL : L.drop (L.length - n) = escItems [] x.cps.size e) :
    Seg (model C.prog C.w) B (EG C fp) (YG C fp L) n s₀ (.func bd env) ((execs endE env).wrap K0E (H0E env) id id) [] s := by
  have hco : env.scope.isCoroutine = false := by rw [F.fr.scope]; rfl
  have hint := interactive_no F.fr
  show Seg _ _ _ _ _ _ _ ((execs endE env).wrap _ _ _ _) _ s
  refine seg_execs_cons (seg_If (Ts.go W (Ts.bool W (Ev.loc 2)) R I F.fr fun s₁ k₁ I₁ F₁' => ?_))
  have F₁ := F.no W k₁
  have kb₁ := kb.trans k₁.no
  cases e with
  | true =>
    rw [if_pos rfl]
    have hn : n = 0 + 1 := hn
    subst hn
    have hL : L.drop (L.length - (0 + 1)) = .tuple [.int ((x.cps.size : Int) - 1), .str "\\"] :: [] := hL
    obtain ⟨g1, g2⟩ := get_of_drop hL rfl hle
    have hpp := hp rfl
    subst hpp
    have hfp₁ : ∀ b ∈ fp, C.base ≤ b ∧ ∃ o, s₁.heap.get? b = some o ∧ ¬ SeqDat o := fun b hb => by
      obtain ⟨h1, o, h2, h3⟩ := hfp b hb
      exact ⟨h1, o, k₁.keep b o h2 (fun z => z) (fun z => absurd (W.tlt _ z.1) (Nat.not_lt.mpr h1)), h3⟩
    refine seg_execs_cons (seg_yieldS W (Ev.tuple W (.cons (Ev.loc 1) (.cons Ev.str .nil))) F₁ I₁ R kb₁ hfp₁ hfl hle g1 rfl rfl rfl (fun s₂ I₂ hk₂ => ?_) hco hint)
    exact seg_execs_nil (seg_execs_nil (seg_end (.ok (.ret .none)) ⟨rfl, rfl, KB.refl⟩))
  | false =>
    rw [if_neg Bool.false_ne_true]
    exact seg_execs_nil (seg_execs_nil (seg_end (.ok (.ret .none)) ⟨rfl, hn, kb₁⟩))

structure GIter (C : Cx) (fa : Addr) : Prop where
  W : Wf C
  glob : C.mg "_iter_escaped_chars" = some (.ref fa)
  fnc : isFn (C.fr fa) = true
  ok : ∃ fd, DefG C fa fd bodyE ["addr"] nsE ∧ fd.scope = scE
  e0 : C.mg "enumerate" = none
  e1 : C.mb "enumerate" = some (.type "enumerate")

theorem goes_iter {fa : Addr} (G : GIter C fa) {x : Str} (hsz : x.length < sizeLine) {env : Env} {A : Around} (R : Room A (k + 1)) (I : Inv C s) (F : SFr C scE nsE env [.v (.str x), .un, .un, .un] s.heap) {g : Nat} :
    ∃ fp', (∀ b ∈ fp', b ∈ [env.locals] ∨ (s.heap.get? b = none ∧ C.base ≤ b)) ∧ (GenState.fresh (.func bodyE env)).Goes (model C.prog C.w) A.in1 (EG C fp') (YG C fp' (escItems x.cps.toList 0 false)) (escItems x.cps.toList 0 false).length (.send .none) (s.setGen g .running) := by
  have W := G.W
  generalize hL : escItems x.cps.toList 0 false = L
  have hN : s.heap.get? s.heap.objs.size = none := get_size _
  have hN1 : s.heap.get? (s.heap.objs.size + 1) = none := by
    cases q : s.heap.get? (s.heap.objs.size + 1) with
    | none => rfl
    | some o => exact absurd (Heap.lt_size q) (by show ¬ (s.heap.objs.size + 1 < s.heap.objs.size); lia)
  have hbig := I.big W
  refine ⟨fpE env (s.heap.objs.size + 1) s.heap.objs.size, fun b hb => ?_, rfl, ?_⟩
  · simp only [List.mem_cons, List.not_mem_nil, or_false] at hb
    rcases hb with rfl | rfl | rfl
    · exact .inl (.head _)
    · exact .inr ⟨hN1, Nat.le_succ_of_le hbig⟩
    · exact .inr ⟨hN, hbig⟩
  · generalize hs0 : s.setGen g .running = s₀
    have I0 : Inv C s₀ := hs0 ▸ inv_gen I
    have F0 : SFr C scE nsE env [.v (.str x), .un, .un, .un] s₀.heap := hs0 ▸ F
    have hz : s₀.heap.objs.size = s.heap.objs.size := hs0 ▸ rfl
    rw [← hz]
    refine seg_func ?_
    have Rf : Room (A.in1.over (.func bodyE env) []) k := room_func R
    show Seg _ _ _ _ _ _ _ ((execs bodyE env).wrap _ _ _ _) _ s₀
    refine seg_execs_cons (seg_plain (wpAny_Assign_Name (wpAny_Constant_int (F0.no W (KB.toks0 (t := s₀.toks + 1)) |>.store W (I0.no W (KB.toks0 (t := s₀.toks + 1))) (i := 1) (d := .int 0) rfl (by decide +kernel) (by exact of_decide_eq_true rfl) rfl (fun _ _ => .int _ _) fun s₁ z₁ k₁ I₁ F₁ => ?_))))
    refine seg_execs_cons (seg_plain (wpAny_Assign_Name (wpAny_Constant_bool (F₁.store W I₁ (i := 2) (d := .bool false) rfl (by decide +kernel) (by exact of_decide_eq_true rfl) rfl (fun _ _ => .bool _) fun s₂ z₂ k₂ I₂ F₂ => ?_))))
    have hz₂ : s₂.heap.objs.size = s₀.heap.objs.size := z₂.trans z₁
    have k₀₂ : KB C (· = env.locals) s₀ s₂ := ((KB.toks0 (t := s₀.toks + 1)).trans k₁).trans k₂
    have F₂' : SFr C scE nsE env [.v (.str x), .v (.int 0), .v (.bool false), .un] s₂.heap := F₂
    refine seg_execs_cons (seg_For (fun _ => rfl) ?_)
    show wpAny _ _ (eval (.Call (.Name "enumerate" _) [.Name "addr" _] [] _) env) _ _ s₂
    rw [arm_eval_Call_Name']
    have hfk : env.scope.kind = .function := by rw [F₂.fr.scope]; exact F₂.fr.kind
    have hke : env.kindOf "enumerate" = some .globalImplicit := by unfold Env.kindOf; rw [F₂.fr.scope]; decide +kernel
    refine wpAny_bind (Calls.Name_function_global hfk hke (Calls.loadGlobal_builtin (by rw [F₂.fr.glob]; exact I₂.g) G.e0 (by rw [F₂.fr.blt]; exact I₂.b) G.e1 ?_) (by decide))
    have hst : ∀ p, starEach [.Name "addr" p] env = [(false, eval (.Name "addr" p) env)] := fun p => rfl
    refine PySem.callWith_type rfl (Calls.evalArgs_plain ?_)
    refine Calls.spliced_cons (wpAny_Name (frame_load F₂'.fr (i := 0) rfl rfl fun v r => Calls.spliced_nil ?_) rfl)
    cases r with
    | str _ t =>
    refine call_enumerate_str fun h' he hit hsz' hkeep => ?_
    rw [hz₂] at he hit hsz'
    generalize hen : s₀.heap.objs.size + 1 = en at *
    generalize hitt : s₀.heap.objs.size = it at *
    have hlt : env.locals < it := by
      obtain ⟨m, ⟨o, es, n, e, _⟩, _⟩ := F0.fr.loc
      rw [← hitt]; exact Heap.lt_size e
    rw [hz₂, hen]
    refine wpAny_pyIter_enum he ?_
    have P : LpE C x t env en it := ⟨by rw [← hen]; exact Nat.succ_ne_self _, Nat.ne_of_lt (by rw [← hen]; exact Nat.lt_succ_of_lt hlt), Nat.ne_of_lt hlt, by lia, by lia⟩
    intro p
    have k₃ : KB C No s₂ { s₂ with heap := h' } := KB.grow (t := s₂.toks) hkeep
    have F₃ := F₂'.no W k₃
    have kb : KB C (· ∈ fpE env en it) s₀ { s₂ with heap := h' } := (k₀₂.mono fun a z => z ▸ .head _).trans k₃.no
    refine seg_loopE W P hsz (room_loop R) (fun e pp chs sa sb n F I kb hfp hp hn hle hL => ?_) x.cps.toList 0 false 0 .un s₀ _ L.length rfl (by simp) F₃ (I₂.no W k₃) kb ⟨⟨.none, he⟩, hit⟩ (fun z => by cases z) (by rw [hL]) (Nat.le_refl _) (by rw [hL]; simp)
    exact seg_endE W Rf (.head _) e pp chs sa sb n F I kb hfp hp hn hle hL

theorem KB.newGen {s₂ : Shared} {gs : GenState} {h' : Heap} {tk : Nat} (k : KB C Mu s s₂) (hb : gs.bare = true) (hk : ∀ b o, s₂.heap.get? b = some o → h'.get? b = some o) (ht : s₂.toks ≤ tk) : KB C Mu s { s₂ with gens := s₂.gens.push gs, toks := tk, heap := h' } :=
  ⟨fun b o e m t => hk _ _ (k.keep b o e m t), fun q => (k.tab q).keeps hk, fun b o e m => let ⟨o', e'⟩ := k.live b o e m; ⟨o', hk _ _ e'⟩,
    fun g st e => by
      have h := k.gens g st e
      show (s₂.gens.push gs)[g]? = _
      rw [Array.getElem?_push_lt (Array.getElem?_eq_some_iff.mp h).1]
      exact (Array.getElem?_eq_getElem (Array.getElem?_eq_some_iff.mp h).1).symm.trans h,
    by show s.gens.size ≤ (s₂.gens.push gs).size; rw [Array.size_push]; exact Nat.le_succ_of_le k.gsize, fun q => (k.bare q).push hb, k.os, Nat.le_trans k.tok ht⟩

theorem src_iter {fa : Addr} (G : GIter C fa) {x : Str} (hsz : x.length < sizeLine) {ea : Expr} {p pos : Pos} (hk : sc.names.lookup ("_iter_escaped_chars" : Str) = some .globalImplicit) (ha : Ev C (k + 2) sc ns Γ ea (.str x)) (hst : isStarred ea = false := by rfl) :
    SrcG C (k + 2) sc ns Γ (.Call (.Name "_iter_escaped_chars" p) [ea] [] pos) (escItems x.cps.toList 0 false) := fun A env fn lo S s R I F => by
  have W := G.W
  rw [arm_eval_Call_Name']
  refine wpAny_bind (Calls.Name_function_global (by rw [F.scope]; exact F.kind) (by unfold Env.kindOf; rw [F.scope]; exact hk) (Calls.loadGlobal_global (by rw [F.glob]; exact I.g) G.glob ?_) (by decide))
  obtain ⟨o, fdo, e1, e2⟩ := isFn_of G.fnc
  refine Calls.callWith_function (o := o) (fd := fdo) (evalArgs_go W (.cons ha .nil hst) R I F fun vs s₁ k₁ r₁ I₁ F₁ => ⟨⟨I₁.fr _ _ e1, e2⟩, ?_⟩)
  obtain ⟨_, rfl, ra⟩ := r₁.one
  obtain ⟨t, rfl⟩ := ra.str_inv
  obtain ⟨fd, D, hsc⟩ := G.ok
  refine wpAny_call (call_gen (d := .str x) (m := 3) (k := k + 1) W D I₁ R rfl (fun _ _ => .str _ _) fun s₂ k₂ hg hfresh F₂ => ?_)
  generalize henv : callEnvC fd s₁.heap.objs.size fa = genv at *
  rw [hsc] at F₂
  have hL : genv.locals = s₁.heap.objs.size := by rw [← henv]; rfl
  have hpush : ∀ b o, s₂.heap.get? b = some o → (s₂.heap.push { cls := .type "generator", data := .fields #[.int s₂.gens.size 0, .str fd.name s₂.toks, .str fd.qualname (s₂.toks + 1)] }).get? b = some o := fun b o e => Heap.get?_push_of_some _ e
  have kall := (k₁.trans k₂).newGen (gs := .fresh (.func bodyE genv)) (tk := s₂.toks + 1 + 1) rfl hpush (by lia)
  obtain ⟨mL, ⟨oL, es, nn, eL, dL, _⟩, _⟩ := F₂.fr.loc
  have hlt : genv.locals < s₂.heap.objs.size := Heap.lt_size eL
  have hS1 : ¬ S genv.locals := fun z => by obtain ⟨o, e⟩ := F₁.bd _ z; rw [hfresh] at e; cases e
  have I₂ := I₁.no W k₂
  refine ⟨s₂.heap.objs.size, s₂.gens.size, rfl, kall, ?_, (k₁.trans k₂).gsize, ⟨⟨_, _, _, Heap.get?_push_size _ rfl, rfl, rfl, rfl⟩, ⟨fun z => ?_, I₂.big W⟩, by simp, Nat.le_refl _, [genv.locals], .fresh (.func bodyE genv), ?_, rfl, fun b hb => ?_, ?_, fun s' hk' Is => ?_⟩⟩
  · cases q : s.heap.get? s₂.heap.objs.size with
    | none => rfl
    | some o =>
      obtain ⟨o', e'⟩ := (k₁.trans k₂).live _ o q fun z => z
      exact absurd (Heap.lt_size e') (Nat.lt_irrefl _)
  · obtain ⟨o, e⟩ := F₁.bd _ z
    have e' := k₂.keep _ _ e (fun z => z) fun q => absurd (W.tlt _ q.1) (Nat.not_lt.mpr (F₁.bs _ z))
    exact absurd (Heap.lt_size e') (Nat.lt_irrefl _)
  · show (s₂.gens.push _)[s₂.gens.size]? = _
    exact Array.getElem?_push_size ..
  · rw [List.mem_singleton.mp hb]
    refine ⟨hS1, F₂.base, ?_, oL, hpush _ _ eL, by rintro ⟨xs, n, z⟩; rw [dL] at z; cases z⟩
    cases q : s.heap.get? genv.locals with
    | none => rfl
    | some o =>
      obtain ⟨o', e'⟩ := k₁.live _ o q fun z => z
      rw [hfresh] at e'; cases e'
  · intro z
    rw [List.mem_singleton.mp z] at hlt
    exact absurd hlt (Nat.lt_irrefl _)
  · exact goes_iter G hsz (k := k + 1) R Is (F₂.at fun o q => hk' _ (.head _) o (hpush _ _ q))
end Mine
end

noncomputable section
open PySem PySem.W PyProof.Rows
set_option maxRecDepth 100000
namespace Mine
variable {C : Cx} {k : Nat} {sc : Scope} {ns : List Str} {fn : Str → Bool} {env : Env} {lo : Nat} {S S' S'' : Addr → Prop} {Γ Γ' : List Sl} {s s' s'' : Shared} {A : Around} {Mu : Addr → Prop} {e : Expr} {d d' : PyData}

noncomputable def escP : List Nat → Nat → Bool → List (Int × Str)
  | [], i, e => if e then [((i : Int) - 1, "\\")] else []
  | c :: cs, i, true => ((i : Int), "\\" ++ ⟨#[c]⟩) :: escP cs (i + 1) false
  | c :: cs, i, false => if c == 92 then escP cs (i + 1) true else ((i : Int), ⟨#[c]⟩) :: escP cs (i + 1) false
theorem escP_t {c i : Nat} {cs : List Nat} : escP (c :: cs) i true = ((i : Int), (("\\" : Str) ++ ⟨#[c]⟩ : Str)) :: escP cs (i + 1) false := rfl
theorem escP_f {c i : Nat} {cs : List Nat} : escP (c :: cs) i false = if c == 92 then escP cs (i + 1) true else ((i : Int), (⟨#[c]⟩ : Str)) :: escP cs (i + 1) false := rfl
noncomputable def pairD (p : Int × Str) : PyData := .tuple [.int p.1, .str p.2]
theorem escItems_eq : ∀ (cs : List Nat) (i : Nat) (e : Bool), escItems cs i e = (escP cs i e).map pairD
  | [], i, true => rfl
  | [], i, false => rfl
  | c :: cs, i, true => by rw [escItems_t, escP_t, List.map_cons, escItems_eq cs]; rfl
  | c :: cs, i, false => by
    rw [escItems_f, escP_f]
    by_cases h : (c == 92) = true
    · rw [if_pos h, if_pos h, escItems_eq cs]
    · rw [if_neg h, if_neg h, List.map_cons, escItems_eq cs]; rfl
theorem escP_len : ∀ (cs : List Nat) (i : Nat) (e : Bool), (escP cs i e).length ≤ cs.length + 1
  | [], i, true => Nat.le_refl _
  | [], i, false => Nat.zero_le _
  | c :: cs, i, true => by rw [escP_t, List.length_cons, List.length_cons]; exact Nat.succ_le_succ (escP_len cs _ _)
  | c :: cs, i, false => by
    rw [escP_f, List.length_cons]
    split
    · exact Nat.le_succ_of_le (escP_len cs _ _)
    · rw [List.length_cons]; exact Nat.succ_le_succ (escP_len cs _ _)

noncomputable def stripGo (x : Str) : List (Int × Str) → Int → Option Int → List Str → Int × List Str
  | [], st, _, res => (st, res)
  | (p, t) :: r, st, op, res =>
    if (t == ("\"" : Str)) = true then
      match op with
      | none => stripGo x r st (some p) res
      | some o => stripGo x r (p + 1) none (if (st == o) = true then res else res ++ [Txt.slice x (some st) (some o)])
    else stripGo x r st op res
theorem stripGo_skip {x t : Str} {p st : Int} {r : List (Int × Str)} {op : Option Int} {res : List Str} (h : (t == ("\"" : Str)) = false) : stripGo x ((p, t) :: r) st op res = stripGo x r st op res := by
  show (if _ then _ else _) = _; rw [h, if_neg Bool.false_ne_true]
theorem stripGo_open {x t : Str} {p st : Int} {r : List (Int × Str)} {res : List Str} (h : (t == ("\"" : Str)) = true) : stripGo x ((p, t) :: r) st none res = stripGo x r st (some p) res := by
  show (if _ then _ else _) = _; rw [h, if_pos rfl]
theorem stripGo_close {x t : Str} {p st o : Int} {r : List (Int × Str)} {res : List Str} (h : (t == ("\"" : Str)) = true) : stripGo x ((p, t) :: r) st (some o) res = stripGo x r (p + 1) none (if (st == o) = true then res else res ++ [Txt.slice x (some st) (some o)]) := by
  show (if _ then _ else _) = _; rw [h, if_pos rfl]
noncomputable def opD : Option Int → PyData
  | none => .none
  | some i => .int i
noncomputable def stripParts (x : Str) : List Str :=
  let q := stripGo x (escP x.cps.toList 0 false) 0 none []
  if q.1 < (x.length : Int) then q.2 ++ [Txt.slice x (some q.1) none] else q.2

noncomputable abbrev nsS : List Str := ["addr", "start", "open_pos", "result", "pos", "ch"]
structure GStrip (C : Cx) (fi fa : Addr) : Prop where
  it : GIter C fi
  st : Df C PG 10 "_strip_quoted_realnames" ["addr"] nsS fa
  l0 : C.mg "len" = .none
  l1 : C.mb "len" = some (.builtin "len")

noncomputable def stripJ (x : Str) (rem : List PyData) (Γ : List Sl) : Prop := ∃ (r : List (Int × Str)) (st : Int) (op : Option Int) (res : List Str) (a b : Sl), rem = r.map pairD ∧ Γ = [.v (.str x), .v (.int st), .v (opD op), .own (res.map .str), a, b] ∧ res.length + r.length ≤ x.length + 1 ∧ noOwn [a, b] = true ∧ stripGo x r st op res = stripGo x (escP x.cps.toList 0 false) 0 none []
theorem stripJ.mk {x : Str} {rem : List PyData} (r : List (Int × Str)) (st : Int) (op : Option Int) (res : List Str) (a b : Sl) (h0 : rem = r.map pairD) (h1 : res.length + r.length ≤ x.length + 1) (h2 : noOwn [a, b] = true) (h3 : stripGo x r st op res = stripGo x (escP x.cps.toList 0 false) 0 none []) : stripJ x rem [.v (.str x), .v (.int st), .v (opD op), .own (res.map .str), a, b] := ⟨r, st, op, res, a, b, h0, rfl, h1, h2, h3⟩
theorem stripJ.elim {x : Str} {rem : List PyData} {Γ : List Sl} {P : Prop} (h : stripJ x rem Γ) (k : ∀ (r : List (Int × Str)) (st : Int) (op : Option Int) (res : List Str) (a b : Sl), (rem = r.map pairD) → (res.length + r.length ≤ x.length + 1) → (noOwn [a, b] = true) → (stripGo x r st op res = stripGo x (escP x.cps.toList 0 false) 0 none []) → Γ = [.v (.str x), .v (.int st), .v (opD op), .own (res.map .str), a, b] → P) : P := by
  obtain ⟨r, st, op, res, a, b, h0, rfl, h1, h2, h3⟩ := h
  exact k r st op res a b h0 h1 h2 h3 rfl
set_option maxHeartbeats 4000000 in
theorem fn_strip0 {fi fa : Addr} (G : GStrip C fi fa) {x : Str} (hsz : x.length + 2 < sizeLine) (hj : Txt.contains x "\"" = true → JoinOk "" (stripParts x) = true) :
    Fn C (k + 3) fa [.str x] (.str (if Txt.contains x "\"" = true then Txt.join "" (stripParts x) else x)) := by
  have W := G.it.W
  have hs2 : (x.length : Int) < 2 ^ 63 := by have := sizeLine_eq; lia
  refine G.st.toFn W 5 rfl ?_
  refine Ex.ite W (Ts.cmp W Ev.str (Ev.loc 0) CmpOk.notInS) (fun hc => ?_) (fun hc => ?_)
  · have hc' : Txt.contains x "\"" = false := by simpa using hc
    exact Ex.ret W (Ev.loc 0) (by show Out.ret _ = Out.ret _; rw [hc', if_neg Bool.false_ne_true])
  · have hc' : Txt.contains x "\"" = true := by simpa using hc
    rw [hc', if_pos rfl]
    refine Ex.nil ?_
    refine Ex.assign W 1 Ev.int (Ex.assign W 2 Ev.none (Ex.newOwn W 3 ?_))
    refine Ex.forGen W (src_iter (x := x) G.it (by lia) rfl (Ev.loc 0)) (stripJ x) ?_ ?_ ?_
    · refine ⟨escP x.cps.toList 0 false, 0, none, [], .un, .un, escItems_eq _ _ _, rfl, ?_, rfl, rfl⟩
      have := escP_len x.cps.toList 0 false
      have e : x.cps.toList.length = x.length := rfl
      simp only [List.length_nil]
      lia
    · rintro y rem Γ₁ ⟨r, st, op, res, a, b, hrem, rfl, hl, hno, hgo⟩
      cases r with
      | nil => cases hrem
      | cons pt r =>
        obtain ⟨p, t⟩ := pt
        cases hrem
        refine ⟨_, AsgOk.tup (ds := [.int p, .str t]) (is := [4, 5]) W (.cons 4 (.cons 5 .nil)), ?_⟩
        rw [List.length_cons] at hl
        refine Ex.ite W (Ts.cmp W (Ev.loc 5) Ev.str CmpOk.eqs) (fun hq => ?_) (fun hq => ?_)
        · cases op with
          | none =>
            rw [stripGo_open hq] at hgo
            refine Ex.ite W (b := true) (Ts.cmp W (Ev.loc 2) Ev.none CmpOk.isNone) (fun _ => ?_) (fun z => by cases z)
            refine Ex.assign W 2 (Ev.loc 4) (Ex.nil (Ex.nil (Ex.nil (stripJ.mk r st (some p) res _ _ rfl (by lia) rfl hgo))))
          | some o =>
            rw [stripGo_close hq] at hgo
            refine Ex.ite W (b := false) (Ts.cmp W (Ev.loc 2) Ev.none CmpOk.isNone) (fun z => by cases z) (fun _ => ?_)
            refine Ex.ite W (Ts.cmp W (Ev.loc 1) (Ev.loc 2) (CmpOk.ne rfl rfl)) (fun hne => ?_) (fun hne => ?_)
            · have hne : (st == o) = false := by
                have : (!(st == o)) = true := hne
                simpa using this
              rw [hne, if_neg Bool.false_ne_true] at hgo
              have hrl : (res.map PyData.str).length ≤ sizeLine := by rw [List.length_map]; lia
              refine Ex.append W 3 (Ev.sliceS (lo' := some st) (hi' := some o) W (Ev.loc 0) (Ev.loc 1) (Ev.loc 2) (by lia)) ?_ hrl
              refine Ex.nil (Ex.assign W 1 (Ev.bin W (Ev.loc 4) Ev.int BinOk.add) (Ex.assign W 2 Ev.none (Ex.nil (Ex.nil (Ex.nil ⟨r, p + 1, none, res ++ [Txt.slice x (some st) (some o)], _, _, rfl, by rw [List.map_append]; rfl, by rw [List.length_append, List.length_singleton]; lia, rfl, hgo⟩)))))
            · have hne : (st == o) = true := by
                have : (!(st == o)) = false := hne
                simpa using this
              rw [hne, if_pos rfl] at hgo
              exact Ex.nil (Ex.assign W 1 (Ev.bin W (Ev.loc 4) Ev.int BinOk.add) (Ex.assign W 2 Ev.none (Ex.nil (Ex.nil (Ex.nil (stripJ.mk r (p + 1) none res _ _ rfl (by lia) rfl hgo))))))
        · rw [stripGo_skip hq] at hgo
          exact Ex.nil (Ex.nil (stripJ.mk r st op res _ _ rfl (by lia) rfl hgo))
    · intro Γ₁ hJ
      refine hJ.elim fun r st op res a b hrem hl hno hgo hΓ => ?_
      subst hΓ
      have hr : r = [] := by cases r with | nil => rfl | cons => cases hrem
      subst hr
      have hgo : (st, res) = stripGo x (escP x.cps.toList 0 false) 0 none [] := hgo
      have hj' := hj hc'
      have hparts : stripParts x = if st < (x.length : Int) then res ++ [Txt.slice x (some st) none] else res := by unfold stripParts; rw [← hgo]
      have hrl : (res.map PyData.str).length ≤ sizeLine := by rw [List.length_map]; have := hl; simp at this; lia
      have fin : ∀ (res' : List Str), stripParts x = res' → Ex C (k + 2) (scopeAt PG 10) nsS [.v (.str x), .v (.int st), .v (opD op), .own (res'.map .str), a, b] ((bodyAt PG 10).drop 6) (fun o => o = .ret (.str (Txt.join "" (stripParts x)))) := fun res' he => by
        rw [he] at hj' ⊢
        exact Ex.ret W (Ev.methS W Ev.str (.cons (Ev.loc 3) .nil) F.slot_str_join F.type_str_join (Bi.join hj')) rfl
      refine Ex.ite W (Ts.cmp W (Ev.loc 1) (Ev.callB W rfl G.l0 G.l1 (.cons (Ev.loc 0) .nil) (Bi.lenS hs2)) CmpOk.lt) (fun hlt => ?_) (fun hlt => ?_)
      · have hlt := of_decide_eq_true hlt
        rw [if_pos hlt] at hparts
        refine Ex.append W 3 (Ev.sliceS (lo' := some st) (hi' := none) W (Ev.loc 0) (Ev.loc 1) trivial (by lia)) (Ex.nil (show Ex C (k + 2) (scopeAt PG 10) nsS [.v (.str x), .v (.int st), .v (opD op), .own (res.map .str ++ [.str (Txt.slice x (some st) none)]), a, b] ((bodyAt PG 10).drop 6) _ from ?_)) hrl
        have em : (res.map PyData.str ++ [.str (Txt.slice x (some st) none)]) = (res ++ [Txt.slice x (some st) none]).map PyData.str := by rw [List.map_append, List.map_singleton]
        rw [em]
        generalize res ++ [Txt.slice x (some st) none] = res' at *
        exact fin res' hparts
      · have hlt := of_decide_eq_false hlt
        rw [if_neg hlt] at hparts
        exact Ex.nil (fin _ hparts)
end Mine
end

noncomputable section
open PySem PySem.W PyProof.Rows
set_option maxRecDepth 100000
namespace Mine
variable {C : Cx} {k : Nat}

noncomputable def run : List Nat → Option (List Nat) → Bool → List Nat → List Nat
  | acc, none, _, [] => acc
  | acc, some p, _, [] => acc ++ p
  | acc, none, true, c :: r => run (acc ++ [c]) none false r
  | acc, some p, true, c :: r => run acc (some (p ++ [c])) false r
  | acc, none, false, c :: r => if c = 92 then run (acc ++ [c]) none true r else if c = 34 then run acc (some [c]) false r else run (acc ++ [c]) none false r
  | acc, some p, false, c :: r => if c = 92 then run acc (some (p ++ [c])) true r else if c = 34 then run acc none false r else run acc (some (p ++ [c])) false r
theorem run_e0 {acc : List Nat} {e : Bool} : run acc none e [] = acc := by cases e <;> rfl
theorem run_e1 {acc p : List Nat} {e : Bool} : run acc (some p) e [] = acc ++ p := by cases e <;> rfl
theorem run_n1 {acc r : List Nat} {c : Nat} : run acc none true (c :: r) = run (acc ++ [c]) none false r := rfl
theorem run_s1 {acc p r : List Nat} {c : Nat} : run acc (some p) true (c :: r) = run acc (some (p ++ [c])) false r := rfl
theorem run_n0 {acc r : List Nat} {c : Nat} : run acc none false (c :: r) = if c = 92 then run (acc ++ [c]) none true r else if c = 34 then run acc (some [c]) false r else run (acc ++ [c]) none false r := rfl
theorem run_s0 {acc p r : List Nat} {c : Nat} : run acc (some p) false (c :: r) = if c = 92 then run acc (some (p ++ [c])) true r else if c = 34 then run acc none false r else run acc (some (p ++ [c])) false r := rfl
theorem run_len : ∀ (cs : List Nat) (acc : List Nat) (pend : Option (List Nat)) (e : Bool), (run acc pend e cs).length ≤ acc.length + (pend.getD []).length + cs.length
  | [], acc, none, _ => by simp [run_e0]
  | [], acc, some p, _ => by simp [run_e1]
  | c :: r, acc, none, true => by
    have := run_len r (acc ++ [c]) none false
    rw [run_n1]; simp at this ⊢; lia
  | c :: r, acc, some p, true => by
    have := run_len r acc (some (p ++ [c])) false
    rw [run_s1]; simp at this ⊢; lia
  | c :: r, acc, none, false => by
    have h1 := run_len r (acc ++ [c]) none true
    have h2 := run_len r acc (some [c]) false
    have h3 := run_len r (acc ++ [c]) none false
    rw [run_n0]; simp at h1 h2 h3 ⊢
    split
    · lia
    · split <;> lia
  | c :: r, acc, some p, false => by
    have h1 := run_len r acc (some (p ++ [c])) true
    have h2 := run_len r acc none false
    have h3 := run_len r acc (some (p ++ [c])) false
    rw [run_s0]; simp at h1 h2 h3 ⊢
    split
    · lia
    · split <;> lia
theorem run_free : ∀ (cs : List Nat) (acc : List Nat) (e : Bool), 34 ∉ cs → run acc none e cs = acc ++ cs
  | [], acc, _, _ => by simp [run_e0]
  | c :: r, acc, true, h => by rw [run_n1, run_free r _ _ fun z => h (.tail _ z)]; simp
  | c :: r, acc, false, h => by
    have hc : c ≠ 34 := fun z => h (z ▸ .head _)
    have ih := fun e => run_free r (acc ++ [c]) e fun z => h (.tail _ z)
    rw [run_n0, if_neg hc]
    split <;> (rw [ih]; simp)

theorem quote_eq {c : Nat} : ((⟨#[c]⟩ : Str) == ("\"" : Str)) = (c == 34) := by
  rw [Bool.eq_iff_iff]
  simp only [beq_iff_eq]
  have e : ("\"" : Str).cps = #[34] := by decide +kernel
  constructor
  · intro h
    have := congrArg Str.cps h
    rw [e] at this
    simpa using this
  · intro h; subst h; exact Str.ext' e.symm
theorem quote_bs {c : Nat} : ((("\\" : Str) ++ ⟨#[c]⟩ : Str) == ("\"" : Str)) = false := by
  rw [beq_eq_false_iff_ne]
  intro h
  have h1 := congrArg Str.length h
  rw [Str.length_append] at h1
  have e1 : ("\\" : Str).length = 1 := by decide +kernel
  have e2 : ("\"" : Str).length = 1 := by decide +kernel
  have e3 : (⟨#[c]⟩ : Str).length = 1 := rfl
  lia
theorem quote_bs1 : (("\\" : Str) == ("\"" : Str)) = false := by decide +kernel

noncomputable def finS (x : Str) (q : Int × List Str) : List Nat := (q.2.map SL).flatten ++ (SL x).drop q.1.toNat
inductive Here (x : Str) (i : Nat) (res : List Str) (acc : List Nat) : Int → Option Int → Option (List Nat) → Prop
  | out (a : Nat) : a ≤ i → acc = (res.map SL).flatten ++ ((SL x).drop a).take (i - a) → Here x i res acc a none none
  | inn (a b : Nat) (p : List Nat) : a ≤ b → b ≤ i → acc = (res.map SL).flatten ++ ((SL x).drop a).take (b - a) → p = ((SL x).drop b).take (i - b) → Here x i res acc a (some (b : Int)) (some p)
theorem take_succ_at {l : List Nat} {a i c : Nat} (h : a ≤ i) (hc : l[i]? = some c) : (l.drop a).take (i + 1 - a) = (l.drop a).take (i - a) ++ [c] := by
  rw [show i + 1 - a = (i - a) + 1 by lia, List.take_add_one, List.getElem?_drop, show a + (i - a) = i by lia, hc]; rfl
noncomputable def accN : Option (List Nat) → List Nat → Nat → List Nat
  | none, acc, c => acc ++ [c]
  | some _, acc, _ => acc
theorem strip_go {x : Str} : ∀ (cs : List Nat) (i : Nat) (e : Bool) (st : Int) (op : Option Int) (res : List Str) (acc : List Nat) (pend : Option (List Nat)), (SL x).drop i = cs → i ≤ (SL x).length → Here x i res acc st op pend →
    finS x (stripGo x (escP cs i e) st op res) = run acc pend e cs ∧ 0 ≤ (stripGo x (escP cs i e) st op res).1 := by
  intro cs
  induction cs with
  | nil =>
    intro i e st op res acc pend hcs hi H
    have hi' : i = (SL x).length := by
      rw [List.drop_eq_nil_iff] at hcs; lia
    have hgo : stripGo x (escP [] i e) st op res = (st, res) := by
      cases e with
      | false => rfl
      | true => show stripGo x [_] st op res = _; rw [stripGo_skip quote_bs1]; rfl
    rw [hgo]
    cases H with
    | out a h1 h2 =>
      refine ⟨?_, Int.natCast_nonneg _⟩
      show _ ++ (SL x).drop ((a : Int).toNat) = _
      rw [Int.toNat_natCast, run_e0, h2, hi']
      congr 1
      exact (List.take_of_length_le (by rw [List.length_drop]; exact Nat.le_refl _)).symm
    | inn a b p h1 h2 h3 h4 =>
      refine ⟨?_, Int.natCast_nonneg _⟩
      show _ ++ (SL x).drop ((a : Int).toNat) = _
      rw [Int.toNat_natCast, run_e1, h3, h4, List.append_assoc]
      congr 1
      have e1 : ((SL x).drop b).take (i - b) = (SL x).drop b := List.take_of_length_le (by rw [List.length_drop]; lia)
      rw [e1]
      have := List.take_append_drop (b - a) ((SL x).drop a)
      rw [List.drop_drop, show a + (b - a) = b by lia] at this
      exact this.symm
  | cons c cs ih =>
    intro i e st op res acc pend hcs hi H
    have hc : (SL x)[i]? = some c := by
      have : ((SL x).drop i)[0]? = some c := by rw [hcs]; rfl
      rwa [List.getElem?_drop, Nat.add_zero] at this
    have hcs' : (SL x).drop (i + 1) = cs := by
      have := congrArg List.tail hcs
      rwa [List.tail_drop, List.tail_cons] at this
    have hi' : i + 1 ≤ (SL x).length := (List.getElem?_eq_some_iff.mp hc).1
    -- a sign that stays
    have stay : Here x (i + 1) res (accN pend acc c) st op (pend.map (· ++ [c])) := by
      cases H with
      | out a h1 h2 => exact .out a (Nat.le_succ_of_le h1) (by show acc ++ [c] = _; rw [take_succ_at h1 hc, h2, List.append_assoc])
      | inn a b p h1 h2 h3 h4 => exact .inn a b (p ++ [c]) h1 (Nat.le_succ_of_le h2) h3 (by rw [take_succ_at h2 hc, h4])
    cases e with
    | true =>
      have hgo : stripGo x (escP (c :: cs) i true) st op res = stripGo x (escP cs (i + 1) false) st op res := stripGo_skip quote_bs
      rw [hgo]
      have := ih (i + 1) false st op res _ _ hcs' hi' stay
      refine ⟨this.1.trans ?_, this.2⟩
      cases pend <;> rfl
    | false =>
      by_cases h92 : c = 92
      · have hgo : escP (c :: cs) i false = escP cs (i + 1) true := by rw [escP_f, h92]; rfl
        rw [hgo]
        have := ih (i + 1) true st op res _ _ hcs' hi' stay
        refine ⟨this.1.trans ?_, this.2⟩
        cases pend
        · show _ = run acc none false (c :: cs); rw [run_n0, if_pos h92]; rfl
        · show _ = run acc (some _) false (c :: cs); rw [run_s0, if_pos h92]; rfl
      · have hgo : escP (c :: cs) i false = ((i : Int), ⟨#[c]⟩) :: escP cs (i + 1) false := by rw [escP_f, if_neg (by simpa using h92)]
        rw [hgo]
        by_cases h34 : c = 34
        · have hq : ((⟨#[c]⟩ : Str) == ("\"" : Str)) = true := by rw [quote_eq, h34]; rfl
          cases H with
          | out a h1 h2 =>
            rw [stripGo_open hq]
            have := ih (i + 1) false a (some (i : Int)) res acc (some [c]) hcs' hi' (.inn a i [c] h1 (Nat.le_succ _) h2 (by rw [take_succ_at (Nat.le_refl _) hc, Nat.sub_self]; rfl))
            refine ⟨this.1.trans ?_, this.2⟩
            rw [run_n0, if_neg h92, if_pos h34]
          | inn a b p h1 h2 h3 h4 =>
            rw [stripGo_close hq]
            have hb : b ≤ x.length := by rw [← SL_len]; lia
            have hres : ((if ((a : Int) == (b : Int)) = true then res else res ++ [Txt.slice x (some (a : Int)) (some (b : Int))]).map SL).flatten = acc := by
              rw [h3]
              by_cases hab : ((a : Int) == (b : Int)) = true
              · rw [if_pos hab]
                have : a = b := by have := eq_of_beq hab; lia
                rw [this, Nat.sub_self]; simp
              · rw [if_neg hab, List.map_append, List.flatten_append]
                congr 1
                simp [slice_list h1 hb]
            have e1 : ((i : Int) + 1) = ((i + 1 : Nat) : Int) := by push_cast; rfl
            rw [e1]
            have := ih (i + 1) false ((i + 1 : Nat) : Int) none (if ((a : Int) == (b : Int)) = true then res else res ++ [Txt.slice x (some (a : Int)) (some (b : Int))]) acc none hcs' hi' (.out (i + 1) (Nat.le_refl _) (by rw [hres, Nat.sub_self]; simp))
            refine ⟨this.1.trans ?_, this.2⟩
            rw [run_s0, if_neg h92, if_pos h34]
        · have hq : ((⟨#[c]⟩ : Str) == ("\"" : Str)) = false := by rw [quote_eq]; simpa using h34
          rw [stripGo_skip hq]
          have := ih (i + 1) false st op res _ _ hcs' hi' stay
          refine ⟨this.1.trans ?_, this.2⟩
          cases pend
          · show _ = run acc none false (c :: cs); rw [run_n0, if_neg h92, if_neg h34]; rfl
          · show _ = run acc (some _) false (c :: cs); rw [run_s0, if_neg h92, if_neg h34]; rfl

theorem strip_parts (x : Str) : ((stripParts x).map SL).flatten = run [] none false (SL x) := by
  have h := strip_go (x := x) (SL x) 0 false 0 none [] [] none (by rw [List.drop_zero]) (Nat.zero_le _) (.out 0 (Nat.le_refl _) rfl)
  rw [← h.1]
  unfold stripParts finS
  have e : x.cps.toList = SL x := rfl
  rw [e]
  generalize hq : stripGo x (escP (SL x) 0 false) 0 none [] = q at h
  obtain ⟨st, res⟩ := q
  have h0 : (0 : Int) ≤ st := h.2
  obtain ⟨a, rfl⟩ := Int.eq_ofNat_of_zero_le h0
  show (((if (a : Int) < (x.length : Int) then res ++ [Txt.slice x (some (a : Int)) none] else res)).map SL).flatten = _ ++ (SL x).drop (a : Int).toNat
  rw [Int.toNat_natCast]
  by_cases hlt : (a : Int) < (x.length : Int)
  · rw [if_pos hlt, List.map_append, List.flatten_append]
    congr 1
    simp [slice_from (x := x) (a := a) (by lia)]
  · rw [if_neg hlt, List.drop_eq_nil_of_le (by rw [SL_len]; lia), List.append_nil]

theorem empty_str : ("" : Str) = ⟨#[]⟩ := by decide +kernel
theorem quote_str : ("\"" : Str) = ⟨#[34]⟩ := by decide +kernel
theorem fn_strip {fi fa : Addr} (G : GStrip C fi fa) {x : Str} (hsz : x.length + 2 < sizeLine) : Fn C (k + 3) fa [.str x] (.str (mkS (run [] none false (SL x)))) := by
  have hp := strip_parts x
  have hlen := run_len (SL x) [] none false
  simp only [List.length_nil, Option.getD_none, Nat.zero_add, SL_len] at hlen
  have hj : JoinOk "" (stripParts x) = true := by
    unfold JoinOk
    rw [StrLaws.joinTotal, empty_str]
    have e2 : ((stripParts x).map (·.length)).sum = ((stripParts x).map SL).flatten.length := by
      rw [List.length_flatten, List.map_map]; rfl
    have e3 : (⟨#[]⟩ : Str).length = 0 := rfl
    rw [e2, hp, e3]
    unfold Builtin.Str.tooLong
    rw [decide_eq_false (by lia)]; rfl
  have h := fn_strip0 (k := k) G hsz fun _ => hj
  have e : (if Txt.contains x "\"" = true then Txt.join "" (stripParts x) else x) = mkS (run [] none false (SL x)) := by
    refine SL_inj ?_
    rw [SL_mk]
    by_cases hc : Txt.contains x "\"" = true
    · rw [if_pos hc, empty_str, join_cat', hp]
    · rw [if_neg hc]
      rw [quote_str, contains_one, decide_eq_true_eq] at hc
      rw [run_free _ _ _ hc]; rfl
  rw [e] at h
  exact h
end Mine
end

noncomputable section
open PySem PySem.W PyProof.Rows
set_option maxRecDepth 100000
namespace Mine
variable {C : Cx} {k : Nat} {sc : Scope} {ns : List Str} {fn : Str → Bool} {env : Env} {lo : Nat} {S S' S'' : Addr → Prop} {Γ Γ' : List Sl} {s s' s'' : Shared} {A : Around} {Mu : Addr → Prop} {e : Expr} {d d' : PyData}

structure GMail (C : Cx) (a1 a2 a3 fq fp fe : Addr) : Prop where
  W : Wf C
  g1 : C.mg "_twin_re_1" = some (.ref a1)
  g2 : C.mg "_twin_re_2" = some (.ref a2)
  g3 : C.mg "_twin_re_3" = some (.ref a3)
  p1 : PatOk C a1 code1 0
  p2 : PatOk C a2 code1 1
  p3 : PatOk C a3 code3 0
  crlf : ∃ t, C.mg "CRLF" = some (.str "\r\n" t)
  qd : Df C PG 16 "quotedata" ["data"] ["data"] fq
  qp : Df C PG 17 "_quote_periods" ["bindata"] ["bindata"] fp
  fx : Df C PG 18 "_fix_eols" ["data"] ["data"] fe

theorem dotL_len : ∀ (l : List Nat) (b : Bool), (dotL b l).length ≤ 2 * l.length
  | [], _ => Nat.zero_le _
  | c :: r, b => by
    have := dotL_len r (c == 10)
    rw [dotL_c, List.length_append, List.length_cons]
    split <;> simp <;> lia
theorem eolG_len : ∀ (l : List Nat) (b : Bool), (eolG b l).length ≤ 2 * l.length
  | [], _ => Nat.zero_le _
  | c :: r, b => by
    have h1 := eolG_len r false
    have h2 := eolG_len r true
    rw [eolG_c, List.length_cons]
    by_cases h : c = 10
    · rw [if_pos h]
      cases b
      · show (eolG false r).length + 1 + 1 ≤ _; lia
      · show (eolG false r).length ≤ _; lia
    · rw [if_neg h]
      by_cases h' : c = 13
      · rw [if_pos h', List.length_cons, List.length_cons]; lia
      · rw [if_neg h', List.length_cons]; lia
theorem eolL_len (l : List Nat) : (eolL l).length ≤ 2 * l.length := eolG_len l false
theorem dotL_mem : ∀ (l : List Nat) (b : Bool) (P : Nat → Prop), P 46 → (∀ c ∈ l, P c) → ∀ c ∈ dotL b l, P c
  | [], _, _, _, _, c, h => by cases h
  | a :: r, b, P, h46, hl, c, h => by
    rw [dotL_c] at h
    rcases List.mem_append.mp h with h | h
    · split at h
      · simp at h; exact h ▸ h46
      · rw [List.mem_singleton.mp h]; exact hl a (.head _)
    · exact dotL_mem r _ P h46 (fun c hc => hl c (.tail _ hc)) c h
theorem eolG_mem {P : Nat → Prop} (h1 : P 13) (h2 : P 10) : ∀ (l : List Nat) (b : Bool), (∀ c ∈ l, P c) → ∀ c ∈ eolG b l, P c
  | [], _, _, c, h => by cases h
  | a :: r, b, hl, c, h => by
    have ih := fun b => eolG_mem h1 h2 r b (fun c hc => hl c (.tail _ hc)) c
    have two : ∀ b, c ∈ 13 :: 10 :: eolG b r → P c := fun b h => by
      rcases List.mem_cons.mp h with rfl | h
      · exact h1
      · rcases List.mem_cons.mp h with rfl | h
        · exact h2
        · exact ih b h
    rw [eolG_c] at h
    by_cases h10 : a = 10
    · rw [if_pos h10] at h
      cases b
      · exact two _ h
      · exact ih _ h
    · rw [if_neg h10] at h
      by_cases h13 : a = 13
      · rw [if_pos h13] at h; exact two _ h
      · rw [if_neg h13] at h
        rcases List.mem_cons.mp h with rfl | h
        · exact hl _ (.head _)
        · exact ih _ h
theorem eolL_mem (l : List Nat) (P : Nat → Prop) (h1 : P 13) (h2 : P 10) : (∀ c ∈ l, P c) → ∀ c ∈ eolL l, P c := eolG_mem h1 h2 l false
theorem arr_eq {a : Array Nat} {l : List Nat} (h : a.toList = l) : a = (mkS l).cps := by
  apply Array.ext'; rw [h]; simp [mkS]
theorem crlf_str : ("\r\n" : Str) = ⟨#[13, 10]⟩ := by decide +kernel
theorem dots_str : (".." : Str) = ⟨#[46, 46]⟩ := by decide +kernel

theorem ev_fix (W : Wf C) {a3 : Addr} {x : Str} {np apos pos p1 : Pos} {se : Expr} (hk : sc.names.lookup ("_twin_re_3" : Str) = some .globalImplicit) (hk2 : sc.names.lookup ("CRLF" : Str) = some .globalImplicit) (g3 : C.mg "_twin_re_3" = some (.ref a3)) (P : PatOk C a3 code3 0) (hc : ∃ t, C.mg "CRLF" = some (.str "\r\n" t))
    (hx : Ev C k sc ns Γ se (.str x)) (hsz : 2 * x.length + 10 ≤ sizeLine) (n2 : isStarred se = false := by rfl) (hline : (apos.endLine == pos.line) = true := by rfl) :
    Ev C k sc ns Γ (.Call (.Attribute (.Name "_twin_re_3" np) "sub" apos) [.Name "CRLF" p1, se] [] pos) (.str (mkS (eolL (SL x)))) := by
  obtain ⟨t, hc⟩ := hc
  have hcat : catA (subFrom (findEol x.cps) x.cps #[13, 10] (x.cps.size + 1) 0) = (mkS (eolL (SL x))).cps := arr_eq (eol_list x.cps)
  have hre : EvR C k sc ns Γ (.Name "CRLF" p1) (IsStr #[13, 10]) := by
    have := (Ev.globStr (k := k) (ns := ns) (Γ := Γ) (p := p1) hk2 hc).toR
    rwa [crlf_str] at this
  have hl := eolL_len (SL x)
  rw [SL_len] at hl
  refine EvR.toEv ?_
  rw [← hcat]
  exact EvR.sub W hk g3 P findEol_ok hre hx.toR (by show 2 * x.length + 10 ≤ _; exact hsz) (by decide +kernel) (by rw [hcat]; show (mkS _).cps.size ≤ _; unfold mkS; rw [List.size_toArray]; lia) rfl n2 hline
theorem fn_fix {a1 a2 a3 fq fp fe : Addr} (G : GMail C a1 a2 a3 fq fp fe) {x : Str} (hsz : 2 * x.length + 10 ≤ sizeLine) : Fn C (k + 1) fe [.str x] (.str (mkS (eolL (SL x)))) :=
  G.fx.toFn G.W 0 rfl (Ex.ret G.W (ev_fix G.W rfl rfl G.g3 G.p3 G.crlf (Ev.loc 0) hsz) rfl)
theorem fn_qd {a1 a2 a3 fq fp fe : Addr} (G : GMail C a1 a2 a3 fq fp fe) {x : Str} (hsz : 4 * x.length + 10 ≤ sizeLine) : Fn C (k + 1) fq [.str x] (.str (mkS (dotL true (eolL (SL x))))) := by
  have W := G.W
  refine G.qd.toFn W 0 rfl (Ex.ret W ?_ rfl)
  have hl := eolL_len (SL x)
  rw [SL_len] at hl
  have hl2 := dotL_len (eolL (SL x)) true
  have hsz' : (mkS (eolL (SL x))).cps.size = (eolL (SL x)).length := by unfold mkS; rw [List.size_toArray]
  have hcat : catA (subFrom (findDot (mkS (eolL (SL x))).cps) (mkS (eolL (SL x))).cps #[46, 46] ((mkS (eolL (SL x))).cps.size + 1) 0) = (mkS (dotL true (eolL (SL x)))).cps := by
    have h := quote_list (mkS (eolL (SL x))).cps
    have e : (mkS (eolL (SL x))).cps.toList = eolL (SL x) := SL_mk _
    rw [e] at h
    exact arr_eq h
  refine EvR.toEv ?_
  rw [← hcat]
  have hre : ∀ kk p, EvR C k (scopeAt PG 16) ["data"] (thaw [.v (.str x)]) (.Constant (.str "..") kk p) (IsStr #[46, 46]) := fun kk p => by
    have := (Ev.str (C := C) (k := k) (sc := scopeAt PG 16) (ns := ["data"]) (Γ := thaw [.v (.str x)]) (x := "..") (kk := kk) (p := p)).toR
    have e : ("..": Str).cps = #[46, 46] := by rw [dots_str]
    rwa [e] at this
  refine EvR.sub W rfl G.g1 G.p1 (findDot_ok (by rw [hsz']; have := sizeLine_eq; lia)) ?_ (ev_fix W rfl rfl G.g3 G.p3 G.crlf (Ev.loc 0) (by lia)).toR (by rw [hsz']; lia) (by decide +kernel) (by rw [hcat]; show (mkS _).cps.size ≤ _; unfold mkS; rw [List.size_toArray]; lia)
  exact hre _ _

theorem u8_nat {l : List Nat} (h : ∀ c ∈ l, c < 256) : (u8 l.toArray).map (·.toNat) = l.toArray := by
  apply Array.ext'
  unfold u8
  simp only [Array.toList_map, List.map_map]
  refine (List.map_congr_left fun c hc => ?_).trans (List.map_id _)
  show (Nat.toUInt8 c).toNat = c
  have := h c hc
  simp [Nat.toUInt8, UInt8.toNat_ofNat']
  lia
theorem fn_qp {a1 a2 a3 fq fp fe : Addr} (G : GMail C a1 a2 a3 fq fp fe) {l : List Nat} (h : ∀ c ∈ l, c < 256) (hsz : 2 * l.length + 10 ≤ sizeLine) : FnR C (k + 1) fp (IsOct (u8 l.toArray)) (IsOct (u8 (dotL true l).toArray)) := fun A s v R I ⟨t, hv⟩ => by
  subst hv
  have W := G.W
  obtain ⟨fd, D, hsc⟩ := G.qp.ok
  refine call_raw (x := "bindata") (k := k) W D (by rw [hsc]; rfl) I R fun A env s₁ R₁ I₁ hes heg hm hb => ?_
  obtain ⟨m, hn, hmv⟩ := hm
  have hfk : env.scope.kind = .function := by rw [hes, hsc]; rfl
  have hk2 : env.kindOf "_twin_re_2" = some .globalImplicit := by unfold Env.kindOf; rw [hes, hsc]; rfl
  have hkb : env.kindOf "bindata" = some .local := by unfold Env.kindOf; rw [hes, hsc]; rfl
  have hl2 := dotL_len l true
  have hcat : catA (subFrom (findDot l.toArray) l.toArray #[46, 46] (l.toArray.size + 1) 0) = (dotL true l).toArray := by
    have h := quote_list l.toArray
    apply Array.ext'; rw [h]
  show wpAny _ _ (execs (bodyAt PG 17) env) _ _ s₁
  refine wpAny_execs_cons (wpAny_Return_some ?_)
  refine wq (wp_patCall (kd := 1) (T := l.toArray) (r := #[46, 46]) W hfk heg hk2 G.g2 (.inr rfl) G.p2 (findDot_ok (by rw [List.size_toArray]; have := sizeLine_eq; lia)) (by rw [List.size_toArray]; exact hsz) (.inr ⟨rfl, by decide +kernel⟩) (by rw [hcat, List.size_toArray]; lia) I₁ (fun s₂ k₂ I₂ => ?_) fun s₂ k₂ I₂ => ?_) fun v s' ⟨k', t', hv⟩ => ⟨v, rfl, k', t', by rw [hv, hcat, pv1]⟩
  · refine Constant_bytes ⟨KB.toks0, s₂.toks, ?_⟩
    rw [pv1]; congr 1; decide +kernel
  · have hn₂ : s₂.heap.Ns env.locals m := Ns.kb hn k₂ (fun z => z) fun z => absurd (W.tlt _ z) (Nat.not_lt.mpr hb)
    refine wpAny_Name (wpAny_loadName_local hfk hkb hn₂ hmv ⟨KB.refl, .inr ⟨rfl, _, _, rfl, ?_⟩⟩) rfl
    exact (u8_nat h).symm

theorem ev_octets {a1 a2 a3 fq fp fe : Addr} (G : GMail C a1 a2 a3 fq fp fe) {x : Str} {em : Expr} {p1 p2 p3 p4 p5 p6 p7 p8 p9 p10 : Pos} {k1 k2 : Nat} (hk1 : sc.names.lookup ("_quote_periods" : Str) = some .globalImplicit) (hk2 : sc.names.lookup ("_fix_eols" : Str) = some .globalImplicit)
    (hm : Ev C (k + 1) sc ns Γ em (.str x)) (h : ∀ c ∈ SL x, c < 128) (hsz : 4 * x.length + 10 ≤ sizeLine) (hne : dotL true (eolL (SL x)) ≠ []) (hst : isStarred em = false := by rfl) (l1 : (p4.endLine == p6.line) = true := by rfl) (l2 : (p8.endLine == p10.line) = true := by rfl) :
    Ev C (k + 1) sc ns Γ (.Call (.Attribute (.Call (.Name "_quote_periods" p1) [.Call (.Attribute (.Call (.Name "_fix_eols" p2) [em] [] p3) "encode" p4) [.Constant (.str "ascii") k1 p5] [] p6] [] p7) "decode" p8) [.Constant (.str "ascii") k2 p9] [] p10) (.str (mkS (dotL true (eolL (SL x))))) := by
  have W := G.W
  have hl := eolL_len (SL x)
  rw [SL_len] at hl
  have hl2 := dotL_len (eolL (SL x)) true
  have h1 : ∀ c ∈ eolL (SL x), c < 128 := eolL_mem _ (· < 128) (by decide) (by decide) h
  have h2 : ∀ c ∈ dotL true (eolL (SL x)), c < 128 := dotL_mem _ _ (· < 128) (by decide) h1
  have ef := G.fx.call (k := k + 1) (p := p2) (pos := p3) W hk2 (.cons hm .nil hst) (fn_fix (x := x) (k := k) G (by lia))
  have ee := EvR.encode (k1 := k1) (p1 := p5) (apos := p4) (pos := p6) W ef.toR (by show ∀ c ∈ SL (mkS (eolL (SL x))), c < 128; rw [SL_mk]; exact h1) (by show (mkS (eolL (SL x))).length ≤ _; rw [← SL_len, SL_mk]; lia) l1
  have eq := EvR.callR (p := p1) (pos := p7) W hk1 G.qp.glob G.qp.isFn ee (fn_qp (k := k) (l := eolL (SL x)) G (fun c hc => Nat.lt_trans (h1 c hc) (by decide)) (by lia)) rfl
  have hu : ∀ c ∈ (u8 (dotL true (eolL (SL x))).toArray).toList, c.toNat < 128 := fun c hc => by
    unfold u8 at hc
    simp only [Array.toList_map, List.mem_map] at hc
    obtain ⟨d, hd, rfl⟩ := hc
    have := h2 d hd
    show (Nat.toUInt8 d).toNat < 128
    simp [Nat.toUInt8, UInt8.toNat_ofNat']
    lia
  have hsu : (u8 (dotL true (eolL (SL x))).toArray).size = (dotL true (eolL (SL x))).length := by unfold u8; rw [Array.size_map, List.size_toArray]
  have ed := EvR.decode (k1 := k2) (p1 := p9) (apos := p8) (pos := p10) W eq hu (by rw [hsu]; lia) (by rw [hsu]; intro z; exact hne (List.eq_nil_of_length_eq_zero z)) l2
  rw [u8_nat fun c hc => Nat.lt_trans (h2 c hc) (by decide)] at ed
  exact ed.toEv
end Mine
end

noncomputable section
open PySem PySem.W PyProof.Rows
set_option maxRecDepth 100000
namespace Mine
variable {C : Cx} {k : Nat} {sc : Scope} {ns : List Str} {Γ : List Sl} {e : Expr}
noncomputable def dots (n : Nat) : List Nat := List.replicate n 46
structure GPre (C : Cx) : Prop where
  W : Wf C
  s0 : C.mg "sum" = .none
  s1 : C.mb "sum" = some (.builtin "sum")
  l0 : C.mg "len" = .none
  l1 : C.mb "len" = some (.builtin "len")
  r0 : C.mg "range" = .none
  r1 : C.mb "range" = some (.type "range")
theorem All2.maps {α β γ : Type} {R : α → β → Prop} {f : γ → α} {g : γ → β} : ∀ {l : List γ}, (∀ x ∈ l, R (f x) (g x)) → All2 R (l.map f) (l.map g)
  | [], _ => .nil
  | x :: l, h => .cons (h x (.head _)) (All2.maps fun y hy => h y (.tail _ hy))
theorem flat_single {α β : Type} (f : α → β) (l : List α) : (l.map fun x => [f x]).flatten = l.map f := by
  induction l with
  | nil => rfl
  | cons x l ih => simp [ih]
theorem lslice_ints (xs : List Int) (lo hi st : Option Int) : ∃ ys : List Int, lslice (xs.map .int) lo hi st = ys.map .int := by
  have key : ∀ (ix : List Nat), ∃ ys : List Int, (ix.filterMap ((xs.map PyData.int)[·]?)) = ys.map .int := by
    intro ix
    induction ix with
    | nil => exact ⟨[], rfl⟩
    | cons i ix ih =>
      obtain ⟨ys, h⟩ := ih
      rw [List.filterMap_cons, List.getElem?_map]
      cases q : xs[i]? with
      | none => exact ⟨ys, h⟩
      | some y => exact ⟨y :: ys, by simp only [Option.map_some]; rw [h]; rfl⟩
  exact key _
theorem ev_pick (W : Wf C) {es : List Expr} {txs : List Str} {n : Nat} {idx : Expr} {p p2 : Pos} (he : EvAll C k sc ns Γ es (txs.map .str)) (hi : Ev C k sc ns Γ idx (.int (n : Nat))) (hn : n < txs.length) (hl : txs.length ≤ 100) {x : Str} (hx : txs.getD n "" = x) (hs : bareSlice idx = false := by rfl) :
    Ev C k sc ns Γ (.Subscript (.List es p) idx p2) (.str x) := by
  subst hx
  refine Ev.item W (Ev.list W he (by rw [List.length_map]; have := sizeLine_eq; lia)) hi (by lia) (by lia) ?_ hs
  rw [Int.toNat_natCast, List.getElem?_map, List.getD_eq_getElem?_getD, List.getElem?_eq_getElem hn]; rfl
theorem four {n : Nat} (h : n < 4) {P : Nat → Prop} (h0 : P 0) (h1 : P 1) (h2 : P 2) (h3 : P 3) : P n := by
  match n, h with
  | 0, _ => exact h0
  | 1, _ => exact h1
  | 2, _ => exact h2
  | 3, _ => exact h3
theorem range_next {α : Type} {f : Nat → α} {n j : Nat} {x : α} {rem : List α} (h : x :: rem = ((List.range n).drop j).map f) : j < n ∧ x = f j ∧ rem = ((List.range n).drop (j + 1)).map f := by
  have hj : j < n := by
    rcases Nat.lt_or_ge j n with h' | h'
    · exact h'
    · rw [List.drop_eq_nil_of_le (by rw [List.length_range]; exact h')] at h; cases h
  rw [List.drop_eq_getElem_cons (by rw [List.length_range]; exact hj), List.map_cons, List.getElem_range] at h
  injection h with h1 h2
  exact ⟨hj, h1, h2⟩
theorem range_done {α : Type} {f : Nat → α} {n j : Nat} (h : ([] : List α) = ((List.range n).drop j).map f) : n ≤ j := by
  have := congrArg List.length h
  rw [List.length_map, List.length_drop, List.length_range] at this
  simp at this; lia
theorem int_at {cs : List Int} {j : Nat} (h : j < cs.length) : (cs.map PyData.int)[((j : Int)).toNat]? = some (.int (cs.getD j 0)) := by
  rw [Int.toNat_natCast, List.getElem?_map, List.getD_eq_getElem?_getD, List.getElem?_eq_getElem h]; rfl
theorem mk_len (l : List Nat) : (mkS l).length = l.length := by
  show l.toArray.size = _
  rw [List.size_toArray]
theorem dot_str : ("." : Str) = mkS [46] := by decide +kernel
theorem empty_mk : ("" : Str) = mkS [] := by decide +kernel
theorem mk_cat (a b : List Nat) : mkS a ++ mkS b = mkS (a ++ b) := (mk_app a b).symm
theorem flat_filter {α β : Type} (p : α → Bool) (f : α → β) (l : List α) : (l.map fun x => if p x = true then [f x] else []).flatten = (l.filter p).map f := by
  induction l with
  | nil => rfl
  | cons x l ih =>
    rw [List.map_cons, List.flatten_cons, ih, List.filter_cons]
    by_cases h : p x = true
    · rw [if_pos h, if_pos h]; rfl
    · rw [if_neg h, if_neg h]; rfl
theorem linesL_len (l : List Nat) : (linesL l).length ≤ l.length + 1 := by
  unfold linesL
  rw [splitL_length]
  have : (l.map fun d => if d = 13 then 10 else d).count 10 ≤ _ := List.count_le_length
  rw [List.length_map] at this
  lia
theorem splitL_mem {c : Nat} : ∀ {l r : List Nat}, r ∈ splitL c l → r.length ≤ l.length
  | [], r, h => by rw [show splitL c [] = [[]] from rfl] at h; rw [List.mem_singleton.mp h]; exact Nat.le_refl _
  | d :: l, r, h => by
    by_cases hd : d = c
    · subst hd
      rw [splitL_hit] at h
      rcases List.mem_cons.mp h with rfl | h
      · exact Nat.zero_le _
      · have := splitL_mem h; rw [List.length_cons]; lia
    · obtain ⟨y, t, e⟩ : ∃ y t, splitL c l = y :: t := by
        cases q : splitL c l with
        | nil => exact absurd q (splitL_ne c l)
        | cons y t => exact ⟨y, t, rfl⟩
      rw [splitL_miss hd e] at h
      rcases List.mem_cons.mp h with rfl | h
      · have := splitL_mem (l := l) (r := y) (c := c) (by rw [e]; exact .head _)
        simp; exact this
      · have := splitL_mem (l := l) (r := r) (c := c) (by rw [e]; exact .tail _ h)
        simp; lia
theorem linesL_mem {l r : List Nat} (h : r ∈ linesL l) : r.length ≤ l.length := by
  have := splitL_mem h
  rwa [List.length_map] at this
theorem row_dot (r : List Nat) : (Txt.slice (mkS r) none (some 1) == ".") = dotted r := by
  rw [str_eq, take_one, SL_mk, dot_chr]; rfl
theorem join_ok (xs : List Str) (h : ((xs.map SL).flatten).length ≤ 100000) : JoinOk "" xs = true := by
  unfold JoinOk
  rw [StrLaws.joinTotal, empty_str]
  have e2 : (xs.map (·.length)).sum = (xs.map SL).flatten.length := by
    rw [List.length_flatten, List.map_map]; rfl
  have e3 : (⟨#[]⟩ : Str).length = 0 := rfl
  have := sizeLine_eq
  rw [e2, e3]
  unfold Builtin.Str.tooLong
  rw [decide_eq_false (by lia)]; rfl
theorem nbits_ge {a m : Nat} (h : 2 ^ m ≤ a) : m < nbits a := by
  have h1 := lt_nbits a
  exact (Nat.pow_lt_pow_iff_right (by decide)).mp (Nat.lt_of_le_of_lt h h1)
noncomputable def fed (d : Nat) : Nat := if d = 13 then 10 else d
theorem dropDots (t : List Nat) (ht : t.head? ≠ some 46) : ∀ m, (dots m ++ t).dropWhile (· == 46) = t
  | 0 => by
    show t.dropWhile _ = t
    cases t with
    | nil => rfl
    | cons a t =>
      have : a ≠ 46 := fun z => ht (by rw [z]; rfl)
      rw [List.dropWhile_cons_of_neg (by simpa using this)]
  | m + 1 => by
    show (46 :: (dots m ++ t)).dropWhile _ = t
    rw [List.dropWhile_cons_of_pos rfl, dropDots t ht m]
theorem no10_dots (n : Nat) {t : List Nat} (ht : 10 ∉ t) : 10 ∉ dots n ++ t := fun z => by
  rcases List.mem_append.mp z with z | z
  · have := List.eq_of_mem_replicate z; lia
  · exact ht z
theorem mark_mk : ("\"" : Str) = mkS [34] := by decide +kernel
theorem pow_cast (w : Nat) : (2 : Int) ^ ((w : Int)).toNat = ((2 ^ w : Nat) : Int) := by
  rw [Int.toNat_natCast]; push_cast; rfl
theorem bits_two : Builtin.Int.intBits 2 = 2 := by decide
theorem BinOk.twoPow {w : Nat} (h : w ≤ 2 ^ 26) : BinOk C k .Pow (.int 2) (.int (w : Nat)) (.int ((2 ^ w : Nat) : Int)) :=
  (BinOk.pow (by lia) (by rw [bits_two]; lia)).cast (int2 (pow_cast w))
theorem nat_fmod {a : Int} {m : Nat} (h : 0 < m) : ∃ r : Nat, a.fmod (m : Int) = (r : Int) ∧ r < m := by
  have h1 := Int.fmod_nonneg_of_pos a (b := (m : Int)) (by lia)
  have h2 := Int.fmod_lt_of_pos a (b := (m : Int)) (by lia)
  exact ⟨(a.fmod m).toNat, (Int.toNat_of_nonneg h1).symm, by lia⟩
end Mine
end

noncomputable section
open PySem PySem.W PyProof.Rows
set_option maxRecDepth 100000
namespace Mine
variable {C : Cx} {k : Nat} {sc : Scope} {ns : List Str} {Γ : List Sl} {e : Expr}

noncomputable def tailL (n : Nat) : List Nat := [[], [92, 34], [97, 92, 92], [11, 46]].getD n []
structure GTail (C : Cx) (f : Addr) : Prop where
  P : GPre C
  d : Df C PG 20 "_law_tail" ["cells"] ["cells"] f
theorem fn_tail {f : Addr} (G : GTail C f) {cs : List Int} (hc : 0 < cs.length) : Fn C (k + 1) f [.list (cs.map .int)] (.str (mkS (tailL (way (cs.getD 0 0) 8)))) := by
  have W := G.P.W
  refine G.d.toFn W 0 rfl ?_
  have e1 : (["", "\\\"", "a\\\\", "\x0b."] : List Str).getD (way (cs.getD 0 0) 8) "" = mkS (tailL (way (cs.getD 0 0) 8)) := four (way_lt _ 8) (P := fun n => (["", "\\\"", "a\\\\", "\x0b."] : List Str).getD n "" = mkS (tailL n)) (by decide +kernel) (by decide +kernel) (by decide +kernel) (by decide +kernel)
  have i0 : (cs.map PyData.int)[((0 : Int)).toNat]? = some (.int (cs.getD 0 0)) := int_at (j := 0) hc
  exact Ex.ret W (ev_pick (n := way (cs.getD 0 0) 8) (txs := ["", "\\\"", "a\\\\", "\x0b."]) W (.cons Ev.str (.cons Ev.str (.cons Ev.str (.cons Ev.str .nil)))) (Ev.way (m := 8) W (Ev.item (i := 0) W (Ev.loc 0) Ev.int (by decide) (by decide) i0) (by decide) (by decide)) (way_lt _ 8) (by decide) e1) rfl

noncomputable def dotsOf (l : List Nat) : List Int := ((linesL l).filter dotted).map ledDots
structure GDots (C : Cx) (f : Addr) : Prop where
  P : GPre C
  d : Df C PG 24 "_law_dots" ["text"] ["text", "rows"] f
set_option maxHeartbeats 4000000 in
theorem fn_dots {f : Addr} (G : GDots C f) {l : List Nat} (hl : l.length ≤ 1000000) : Fn C (k + 1) f [.str (mkS l)] (.list ((dotsOf l).map .int)) := by
  have W := G.P.W
  have hs := sizeLine_eq
  refine G.d.toFn W 1 rfl ?_
  have hll := linesL_len l
  have hfl : ((linesL l).filter dotted).length ≤ l.length + 1 := Nat.le_trans (List.length_filter_le _ _) hll
  refine Ex.assign W 1 (Ev.lines W (Ev.loc 0) (by lia) rfl rfl (by intro _; rfl) (by intro _; rfl)) ?_
  refine Ex.ret W (Ev.listComp W ["row"] [] ((linesL l).map fun r => if dotted r = true then [.int (ledDots r)] else []) (ys := (dotsOf l).map .int) (by decide +kernel) (xs := (linesL l).map fun r => .str (mkS r)) (Src.list W (Ev.loc 1)) (All2.maps fun r hr ts ht => ?_) (by rw [flat_filter dotted (fun r => PyData.int (ledDots r)), List.length_map]; lia) (by rw [flat_filter dotted (fun r => PyData.int (ledDots r))]; unfold dotsOf; rw [List.map_map]; rfl)) rfl
  obtain ⟨t, rfl⟩ := List.length_eq_one_iff.mp ht
  have hrl := linesL_mem hr
  refine ⟨[.v (.str (mkS r))], rfl, AsgOk.name W 0, dotted r, ?_, fun z => by rw [z]; rfl, fun z => ⟨.int (ledDots r), ?_, by rw [z]; rfl⟩⟩
  · exact Ts.cast (Ts.cmp W (Ev.sliceS (lo' := none) (hi' := some 1) W (Ev.loc 0) trivial Ev.int (by rw [mk_len]; lia)) Ev.str CmpOk.eqs) (row_dot r)
  · have hb1 : Bi C k (.builtin "len") [.str (mkS r)] (.int (r.length : Nat)) := (Bi.lenS (by rw [mk_len]; lia)).cast (by rw [mk_len])
    have hd2 : (r.dropWhile (· == 46)).length ≤ r.length := (List.dropWhile_sublist _).length_le
    have hst : Txt.lstripChars (mkS r) "." = mkS (r.dropWhile (· == 46)) := SL_inj (by rw [dot_chr, lstrip_one, SL_mk, SL_mk])
    have hb2 : Bi C k (.builtin "str.lstrip") [.str (mkS r), .str "."] (.str (mkS (r.dropWhile (· == 46)))) := (Bi.lstrip (by rw [mk_len]; lia)).cast (by rw [hst])
    have hb3 : Bi C k (.builtin "len") [.str (mkS (r.dropWhile (· == 46)))] (.int ((r.dropWhile (· == 46)).length : Nat)) := (Bi.lenS (by rw [mk_len]; lia)).cast (by rw [mk_len])
    exact Ev.bin W (Ev.callB W rfl G.P.l0 G.P.l1 (.cons (Ev.loc 0) .nil) hb1) (Ev.callB W rfl G.P.l0 G.P.l1 (.cons (Ev.methS W (Ev.loc 0) (.cons Ev.str .nil) F.slot_str_lstrip F.type_str_lstrip hb2) .nil) hb3) BinOk.sub
end Mine
end

noncomputable section
open PySem PySem.W PyProof.Rows
set_option maxRecDepth 100000
namespace Mine
variable {C : Cx} {k : Nat} {sc : Scope} {ns : List Str} {Γ : List Sl} {e : Expr}

noncomputable abbrev Row2 := Nat × List Nat
noncomputable def rowD (r : Row2) : PyData := .tuple [.int (r.1 : Nat), .str (mkS r.2)]
noncomputable def rowL (tail : List Nat) (r : Row2) : List Nat := if r.1 = 0 then 34 :: r.2 else dots r.1 ++ (tail ++ r.2)
noncomputable def wholeL (tail : List Nat) (rs : List Row2) : List Nat := (rs.map (rowL tail)).flatten
theorem dots_mul (n : Nat) : Txt.mul "." (n : Int) = mkS (dots n) := by
  refine SL_inj ?_
  rw [mul_list, SL_mk, dot_str, SL_mk]
  unfold dots
  induction n with
  | zero => rfl
  | succ m ih => rw [List.replicate_succ, List.flatten_cons, ih]; rfl
structure GWhole (C : Cx) (f : Addr) : Prop where
  P : GPre C
  d : Df C PG 22 "_law_whole" ["rows", "tail"] ["rows", "tail"] f
noncomputable def RowsSmall (rs : List Row2) : Prop := rs.length ≤ 100000 ∧ ∀ r ∈ rs, r.1 ≤ 1000 ∧ r.2.length ≤ 1000
set_option maxHeartbeats 4000000 in
theorem fn_whole {f : Addr} (G : GWhole C f) {tail : List Nat} {rs : List Row2} (ht : tail.length ≤ 10) (hr : RowsSmall rs) (hl : (wholeL tail rs).length ≤ 100000) : Fn C (k + 1) f [.list (rs.map rowD), .str (mkS tail)] (.str (mkS (wholeL tail rs))) := by
  have W := G.P.W
  have hs := sizeLine_eq
  have hdl : ("." : Str).length = 1 := by decide +kernel
  have hml : ("\"" : Str).length = 1 := by decide +kernel
  refine G.d.toFn W 0 rfl ?_
  have hSL : (((rs.map fun r => mkS (rowL tail r)).map SL).flatten) = wholeL tail rs := by
    rw [List.map_map]
    have : (SL ∘ fun r => mkS (rowL tail r)) = rowL tail := funext fun r => SL_mk _
    rw [this]; rfl
  have hj : Txt.join "" (rs.map fun r => mkS (rowL tail r)) = mkS (wholeL tail rs) := by
    refine SL_inj ?_
    rw [show ("" : Str) = ⟨#[]⟩ by decide +kernel, join_cat', hSL, SL_mk]
  have hjoin : Bi C k (.builtin "str.join") [.str "", .list ((rs.map fun r => mkS (rowL tail r)).map .str)] (.str (mkS (wholeL tail rs))) :=
    (Bi.join (join_ok _ (by rw [hSL]; exact hl))).cast (by rw [hj])
  refine Ex.ret W (Ev.methS W Ev.str (.cons (Ev.listComp W ["dots", "end"] ["tail"] (rs.map fun r => [.str (mkS (rowL tail r))]) (ys := (rs.map fun r => mkS (rowL tail r)).map .str) (by decide +kernel) (xs := rs.map rowD) (Src.list W (Ev.loc 0)) (All2.maps fun r hrm ts hts => ?_) (by rw [flat_single, List.length_map]; have := hr.1; lia) (by rw [flat_single, List.map_map]; rfl)) .nil) F.slot_str_join F.type_str_join hjoin) rfl
  match ts, hts with
  | [t0, t1], _ =>
    obtain ⟨h1, h2⟩ := hr.2 r hrm
    refine ⟨[.v (.int (r.1 : Nat)), .v (.str (mkS r.2))], rfl, AsgOk.tup (ds := [.int (r.1 : Nat), .str (mkS r.2)]) (is := [0, 1]) W (.cons 0 (.cons 1 .nil)), true, rfl, fun z => (by cases z), fun _ => ⟨.str (mkS (rowL tail r)), ?_, rfl⟩⟩
    have e1 : (if decide ((0 : Int) < (r.1 : Nat)) = true then PyData.str (Txt.mul "." ((r.1 : Nat) : Int) ++ mkS tail ++ mkS r.2) else .str ("\"" ++ mkS r.2)) = .str (mkS (rowL tail r)) := by
      unfold rowL
      rcases Nat.eq_zero_or_pos r.1 with z | z
      · rw [z, mark_mk, mk_cat]; rfl
      · rw [if_pos (decide_eq_true (by lia)), if_neg (by lia), dots_mul, mk_cat, mk_cat, List.append_assoc]
    have hdn : (dots r.1).length = r.1 := by unfold dots; rw [List.length_replicate]
    exact Ev.cast (Ev.ite W (Ts.cmp W (Ev.loc 0) Ev.int CmpOk.gt) (fun _ => Ev.bin W (Ev.bin W (Ev.bin W Ev.str (Ev.loc 0) (BinOk.rep (mul_ok (by rw [hdl]; lia) (by lia)))) (Ev.loc 2) (BinOk.cat (by rw [dots_mul, mk_len, mk_len, hdn]; lia))) (Ev.loc 1) (BinOk.cat (by rw [Str.length_append, dots_mul, mk_len, mk_len, mk_len, hdn]; lia))) (fun _ => Ev.bin W Ev.str (Ev.loc 1) (BinOk.cat (by rw [hml, mk_len]; lia)))) e1
end Mine
end

noncomputable section
open PySem PySem.W PyProof.Rows
set_option maxRecDepth 100000
namespace Mine
variable {C : Cx} {k : Nat} {sc : Scope} {ns : List Str} {Γ : List Sl} {e : Expr}

theorem Ts.not (W : Wf C) {x : Expr} {p : Pos} {b : Bool} (hx : Ts C k sc ns Γ x b) : Ts C k sc ns Γ (.UnaryOp .Not x p) (!b) :=
  fun A env fn lo S s R I F => isTrue_not (wq (hx A env fn lo S s R I F) fun c s' h => ⟨h.1, by rw [h.2]⟩)
noncomputable def outL (tail : List Nat) : Bool → List Row2 → List Nat
  | _, [] => []
  | ins, r :: rs => if r.1 = 0 then (if ins then r.2 else []) ++ outL tail (!ins) rs else (if ins then [] else rowL tail r) ++ outL tail ins rs
theorem outL_c {tail : List Nat} {ins : Bool} {r : Row2} {rs : List Row2} : outL tail ins (r :: rs) = if r.1 = 0 then (if ins then r.2 else []) ++ outL tail (!ins) rs else (if ins then [] else rowL tail r) ++ outL tail ins rs := rfl
theorem outL_len (tail : List Nat) : ∀ (rs : List Row2) (ins : Bool), (outL tail ins rs).length ≤ (wholeL tail rs).length
  | [], _ => Nat.le_refl _
  | r :: rs, ins => by
    have h1 := outL_len tail rs
    have e : wholeL tail (r :: rs) = rowL tail r ++ wholeL tail rs := rfl
    rw [outL_c, e, List.length_append]
    split
    · rename_i hz
      have ha := h1 true
      have hb := h1 false
      have e2 : rowL tail r = 34 :: r.2 := if_pos hz
      rw [e2, List.length_append, List.length_cons]
      cases ins <;> simp <;> lia
    · have := h1 ins
      rw [List.length_append]
      cases ins <;> simp <;> lia
structure GOut (C : Cx) (f : Addr) : Prop where
  P : GPre C
  d : Df C PG 23 "_law_outside" ["rows", "tail"] ["rows", "tail", "kept", "inside", "dots", "end"] f
noncomputable def outJ (tail : List Nat) (rs : List Row2) (rem : List PyData) (Γ : List Sl) : Prop := ∃ (q : List Row2) (kept : List Nat) (ins : Bool) (a b : Sl), rem = q.map rowD ∧ (∀ r ∈ q, r.1 ≤ 1000 ∧ r.2.length ≤ 1000) ∧ kept ++ outL tail ins q = outL tail false rs ∧ Γ = [.v (.list (rs.map rowD)), .v (.str (mkS tail)), .v (.str (mkS kept)), .v (.bool ins), a, b]
theorem outJ.mk {tail : List Nat} {rs : List Row2} {rem : List PyData} (q : List Row2) (kept : List Nat) (ins : Bool) (a b : Sl) (h0 : rem = q.map rowD) (h1 : (∀ r ∈ q, r.1 ≤ 1000 ∧ r.2.length ≤ 1000)) (h2 : kept ++ outL tail ins q = outL tail false rs) : outJ tail rs rem [.v (.list (rs.map rowD)), .v (.str (mkS tail)), .v (.str (mkS kept)), .v (.bool ins), a, b] := ⟨q, kept, ins, a, b, h0, h1, h2, rfl⟩
theorem outJ.elim {tail : List Nat} {rs : List Row2} {rem : List PyData} {Γ : List Sl} {P : Prop} (h : outJ tail rs rem Γ) (k : ∀ (q : List Row2) (kept : List Nat) (ins : Bool) (a b : Sl), (rem = q.map rowD) → ((∀ r ∈ q, r.1 ≤ 1000 ∧ r.2.length ≤ 1000)) → (kept ++ outL tail ins q = outL tail false rs) → Γ = [.v (.list (rs.map rowD)), .v (.str (mkS tail)), .v (.str (mkS kept)), .v (.bool ins), a, b] → P) : P := by
  obtain ⟨q, kept, ins, a, b, h0, h1, h2, rfl⟩ := h
  exact k q kept ins a b h0 h1 h2 rfl
set_option maxHeartbeats 4000000 in
theorem fn_outside {f : Addr} (G : GOut C f) {tail : List Nat} {rs : List Row2} (ht : tail.length ≤ 10) (hr : RowsSmall rs) (hl : (wholeL tail rs).length ≤ 100000) : Fn C (k + 1) f [.list (rs.map rowD), .str (mkS tail)] (.str (mkS (outL tail false rs))) := by
  have W := G.P.W
  have hs := sizeLine_eq
  have hdl : ("." : Str).length = 1 := by decide +kernel
  have hol := outL_len tail rs false
  refine G.d.toFn W 4 rfl ?_
  refine Ex.assign W 2 Ev.str (Ex.assign W 3 Ev.bool ?_)
  refine Ex.for W (Src.list W (Ev.loc 0)) (outJ tail rs) ?_ ?_ ?_
  · refine ⟨rs, [], false, .un, .un, rfl, hr.2, rfl, ?_⟩
    rw [empty_mk]; rfl
  · intro x rem Γ₁ hJ
    refine hJ.elim fun q kept ins a b hrem hsm hk hΓ => ?_
    subst hΓ
    cases q with
    | nil => cases hrem
    | cons r q =>
      cases hrem
      obtain ⟨h1, h2⟩ := hsm r (.head _)
      have hsm' : ∀ r ∈ q, r.1 ≤ 1000 ∧ r.2.length ≤ 1000 := fun y hy => hsm y (.tail _ hy)
      have hdn : (dots r.1).length = r.1 := by unfold dots; rw [List.length_replicate]
      have hkl : kept.length ≤ 100000 := by
        have := congrArg List.length hk
        rw [List.length_append] at this; lia
      refine ⟨_, AsgOk.tup (ds := [.int (r.1 : Nat), .str (mkS r.2)]) (is := [4, 5]) W (.cons 4 (.cons 5 .nil)), ?_⟩
      refine Ex.ite W (Ts.cmp W (Ev.loc 4) Ev.int CmpOk.eqi) (fun hz => ?_) (fun hz => ?_)
      · have hz : r.1 = 0 := by have := eq_of_beq hz; lia
        have hk' : (kept ++ (if ins then r.2 else [])) ++ outL tail (!ins) q = outL tail false rs := by
          rw [← hk, outL_c, if_pos hz, List.append_assoc]
        have e1 : (if ins = true then PyData.str (mkS r.2) else .str "") = .str (mkS (if ins then r.2 else [])) := by
          rw [empty_mk]; cases ins <;> rfl
        have hil : (if ins then r.2 else [] : List Nat).length ≤ 1000 := by cases ins <;> simp <;> lia
        refine Ex.assign (d := .str (mkS (kept ++ (if ins then r.2 else [])))) W 2 (Ev.cast (Ev.bin W (Ev.loc 2) (Ev.cast (Ev.ite W (Ts.bool W (Ev.loc 3)) (fun _ => Ev.loc 5) (fun _ => Ev.str)) e1) (BinOk.cat (by rw [mk_len, mk_len]; lia))) (by rw [mk_cat])) ?_
        exact Ex.assign W 3 (Ev.not W (Ev.loc 3)) (Ex.nil (Ex.nil (outJ.mk q (kept ++ (if ins then r.2 else [])) (!ins) (.v (.int (r.1 : Nat))) (.v (.str (mkS r.2))) rfl hsm' hk')))
      · have hz : ¬ r.1 = 0 := fun z => by rw [z] at hz; cases hz
        refine Ex.ite W (Ts.not W (Ts.bool W (Ev.loc 3))) (fun hi => ?_) (fun hi => ?_)
        · have hi : ins = false := by cases ins with | false => rfl | true => cases hi
          subst hi
          have hk' : (kept ++ rowL tail r) ++ outL tail false q = outL tail false rs := by
            rw [← hk, outL_c, if_neg hz, List.append_assoc]; rfl
          have e1 : PyData.str (mkS kept ++ Txt.mul "." ((r.1 : Nat) : Int) ++ mkS tail ++ mkS r.2) = .str (mkS (kept ++ rowL tail r)) := by
            unfold rowL
            rw [if_neg hz, dots_mul, mk_cat, mk_cat, mk_cat]; simp
          refine Ex.assign (d := .str (mkS (kept ++ rowL tail r))) W 2 (Ev.cast (Ev.bin W (Ev.bin W (Ev.bin W (Ev.loc 2) (Ev.bin W Ev.str (Ev.loc 4) (BinOk.rep (mul_ok (by rw [hdl]; lia) (by lia)))) (BinOk.cat (by rw [dots_mul, mk_len, mk_len, hdn]; lia))) (Ev.loc 1) (BinOk.cat (by rw [Str.length_append, dots_mul, mk_len, mk_len, mk_len, hdn]; lia))) (Ev.loc 5) (BinOk.cat (by rw [Str.length_append, Str.length_append, dots_mul, mk_len, mk_len, mk_len, mk_len, hdn]; lia))) e1) ?_
          exact Ex.nil (Ex.nil (Ex.nil (outJ.mk q (kept ++ rowL tail r) false (.v (.int (r.1 : Nat))) (.v (.str (mkS r.2))) rfl hsm' hk')))
        · have hi : ins = true := by cases ins with | true => rfl | false => cases hi
          subst hi
          have hk' : kept ++ outL tail true q = outL tail false rs := by
            rw [← hk, outL_c, if_neg hz]; rfl
          exact Ex.nil (Ex.nil (Ex.nil (outJ.mk q kept true (.v (.int (r.1 : Nat))) (.v (.str (mkS r.2))) rfl hsm' hk')))
  · intro Γ₁ hJ
    refine hJ.elim fun q kept ins a b hrem hsm hk hΓ => ?_
    subst hΓ
    have hq : q = [] := by cases q with | nil => rfl | cons => cases hrem
    subst hq
    have hk : kept = outL tail false rs := by rw [← hk]; exact (List.append_nil _).symm
    subst hk
    exact Ex.ret W (Ev.loc 2) rfl
end Mine
end

noncomputable section
open PySem PySem.W PyProof.Rows
namespace Mine

noncomputable def Starts (l : List Nat) : Prop := ∀ r, l ≠ 10 :: r
noncomputable def Ends : List (List Nat) := [[10], [13], [13, 10], [10, 13], [13, 10, 13, 10]]
noncomputable def ends (n : Nat) : List Nat := [[10], [13], [13, 10], [10, 13]].getD n []
noncomputable def sentE (e : List Nat) : List Nat := if e = [10, 13] ∨ e = [13, 10, 13, 10] then [13, 10, 13, 10] else [13, 10]
noncomputable def sendRow (r : Row2) : Row2 := (if r.1 = 0 then 0 else r.1 + 1, sentE r.2)
theorem eol_dots (l : List Nat) : ∀ n, eolL (dots n ++ l) = dots n ++ eolL l
  | 0 => rfl
  | n + 1 => by
    show eolL (46 :: (dots n ++ l)) = 46 :: (dots n ++ eolL l)
    rw [eolL_plain (by decide) (by decide), eol_dots l n]
theorem dot_dots (l : List Nat) : ∀ n, dotL false (dots n ++ l) = dots n ++ dotL false l
  | 0 => rfl
  | n + 1 => by
    show dotL false (46 :: (dots n ++ l)) = 46 :: (dots n ++ dotL false l)
    rw [dotL_c]
    show [46] ++ dotL (46 == 10) _ = _
    rw [show (46 == 10) = false from rfl, dot_dots l n]; rfl
theorem dot_dots1 (l : List Nat) (n : Nat) : dotL true (dots (n + 1) ++ l) = dots (n + 2) ++ dotL false l := by
  show dotL true (46 :: (dots n ++ l)) = 46 :: 46 :: (dots n ++ dotL false l)
  rw [dotL_c]
  show [46, 46] ++ dotL (46 == 10) _ = _
  rw [show (46 == 10) = false from rfl, dot_dots l n]; rfl
theorem eol_tail {l : List Nat} (n : Nat) (hn : n < 4) : eolL (tailL n ++ l) = tailL n ++ eolL l := by
  match n, hn with
  | 0, _ => rfl
  | 1, _ => show eolL (92 :: 34 :: l) = 92 :: 34 :: eolL l; rw [eolL_plain (by decide) (by decide), eolL_plain (by decide) (by decide)]
  | 2, _ => show eolL (97 :: 92 :: 92 :: l) = 97 :: 92 :: 92 :: eolL l; rw [eolL_plain (by decide) (by decide), eolL_plain (by decide) (by decide), eolL_plain (by decide) (by decide)]
  | 3, _ => show eolL (11 :: 46 :: l) = 11 :: 46 :: eolL l; rw [eolL_plain (by decide) (by decide), eolL_plain (by decide) (by decide)]
theorem dot_tail {l : List Nat} (n : Nat) (hn : n < 4) : dotL false (tailL n ++ l) = tailL n ++ dotL false l := by
  match n, hn with
  | 0, _ | 1, _ | 2, _ | 3, _ => rfl
theorem eol_end {e l : List Nat} (he : e ∈ Ends) (h : Starts l) : eolL (e ++ l) = sentE e ++ eolL l := by
  simp only [Ends, List.mem_cons, List.not_mem_nil, or_false] at he
  rcases he with rfl | rfl | rfl | rfl | rfl
  · exact eolL_lf l
  · exact eolL_cr h
  · exact eolL_crlf l
  · show eolL (10 :: 13 :: l) = 13 :: 10 :: 13 :: 10 :: eolL l
    rw [eolL_lf, eolL_cr h]
  · show eolL (13 :: 10 :: 13 :: 10 :: l) = 13 :: 10 :: 13 :: 10 :: eolL l
    rw [eolL_crlf, eolL_crlf]
theorem dot_sent (e l : List Nat) : dotL false (sentE e ++ l) = sentE e ++ dotL true l := by
  unfold sentE
  split <;> rfl
theorem sentE_end (e : List Nat) : sentE e ∈ Ends := by
  unfold sentE
  split <;> decide
theorem whole_starts (tail : List Nat) : ∀ rs : List Row2, Starts (wholeL tail rs)
  | [], r, h => by cases h
  | (0, e) :: rs, r, h => by
    have h : 34 :: e ++ wholeL tail rs = 10 :: r := h
    cases h
  | (n + 1, e) :: rs, r, h => by
    have h : dots (n + 1) ++ (tail ++ e) ++ wholeL tail rs = 10 :: r := h
    cases h
theorem send_whole {t : Nat} (ht : t < 4) : ∀ (rs : List Row2), (∀ r ∈ rs, r.2 ∈ Ends) → dotL true (eolL (wholeL (tailL t) rs)) = wholeL (tailL t) (rs.map sendRow)
  | [], _ => rfl
  | (0, e) :: rs, h => by
    have ih := send_whole ht rs fun r hr => h r (.tail _ hr)
    have he : e ∈ Ends := h (0, e) (.head _)
    show dotL true (eolL (34 :: (e ++ wholeL (tailL t) rs))) = 34 :: (sentE e ++ wholeL (tailL t) (rs.map sendRow))
    rw [eolL_plain (by decide) (by decide), eol_end he (whole_starts _ _), ← ih]
    show 34 :: dotL false (sentE e ++ _) = _
    rw [dot_sent]
  | (n + 1, e) :: rs, h => by
    have ih := send_whole ht rs fun r hr => h r (.tail _ hr)
    have he : e ∈ Ends := h (n + 1, e) (.head _)
    show dotL true (eolL ((dots (n + 1) ++ (tailL t ++ e)) ++ wholeL (tailL t) rs)) = (dots (n + 2) ++ (tailL t ++ sentE e)) ++ wholeL (tailL t) (rs.map sendRow)
    rw [List.append_assoc, eol_dots, List.append_assoc, eol_tail t ht, eol_end he (whole_starts _ _), dot_dots1, dot_tail t ht, dot_sent, ih, List.append_assoc, List.append_assoc]
end Mine
end

noncomputable section
open PySem PySem.W PyProof.Rows
namespace Mine

noncomputable def inEnd : Bool → List Row2 → Bool
  | b, [] => b
  | b, r :: rs => if r.1 = 0 then inEnd (!b) rs else inEnd b rs
theorem inEnd_c {b : Bool} {r : Row2} {rs : List Row2} : inEnd b (r :: rs) = if r.1 = 0 then inEnd (!b) rs else inEnd b rs := rfl
theorem run_end_out {e : List Nat} (he : e ∈ Ends) (acc x : List Nat) : run acc none false (e ++ x) = run (acc ++ e) none false x := by
  simp only [Ends, List.mem_cons, List.not_mem_nil, or_false] at he
  rcases he with rfl | rfl | rfl | rfl | rfl <;> simp [run_e0, run_e1, run_n1, run_s1, run_n0, run_s0]
theorem run_end_in {e : List Nat} (he : e ∈ Ends) (acc p x : List Nat) : run acc (some p) false (e ++ x) = run acc (some (p ++ e)) false x := by
  simp only [Ends, List.mem_cons, List.not_mem_nil, or_false] at he
  rcases he with rfl | rfl | rfl | rfl | rfl <;> simp [run_e0, run_e1, run_n1, run_s1, run_n0, run_s0]
theorem run_dots_out (x : List Nat) : ∀ (n : Nat) (acc : List Nat), run acc none false (dots n ++ x) = run (acc ++ dots n) none false x
  | 0, acc => by simp [dots]
  | n + 1, acc => by
    show run acc none false (46 :: (dots n ++ x)) = run (acc ++ 46 :: dots n) none false x
    rw [run_n0, if_neg (by decide), if_neg (by decide), run_dots_out x n]; simp
theorem run_dots_in (x acc : List Nat) : ∀ (n : Nat) (p : List Nat), run acc (some p) false (dots n ++ x) = run acc (some (p ++ dots n)) false x
  | 0, p => by simp [dots]
  | n + 1, p => by
    show run acc (some p) false (46 :: (dots n ++ x)) = run acc (some (p ++ 46 :: dots n)) false x
    rw [run_s0, if_neg (by decide), if_neg (by decide), run_dots_in x acc n]; simp
theorem run_tail_out {t : Nat} (ht : t < 4) (acc x : List Nat) : run acc none false (tailL t ++ x) = run (acc ++ tailL t) none false x := by
  match t, ht with
  | 0, _ | 1, _ | 2, _ | 3, _ => simp [run_e0, run_e1, run_n1, run_s1, run_n0, run_s0, tailL]
theorem run_tail_in {t : Nat} (ht : t < 4) (acc p x : List Nat) : run acc (some p) false (tailL t ++ x) = run acc (some (p ++ tailL t)) false x := by
  match t, ht with
  | 0, _ | 1, _ | 2, _ | 3, _ => simp [run_e0, run_e1, run_n1, run_s1, run_n0, run_s0, tailL]
noncomputable def At (acc : List Nat) (x : List Nat) (b : Bool) (v : List Nat) : Prop := if b then ∃ p, v = run acc (some p) false x else v = run acc none false x
theorem strip_rows {t : Nat} (ht : t < 4) (x : List Nat) : ∀ (rs : List Row2), (∀ r ∈ rs, r.2 ∈ Ends) → ∀ acc, At (acc ++ outL (tailL t) false rs) x (inEnd false rs) (run acc none false (wholeL (tailL t) rs ++ x)) ∧
      ∀ p, At (acc ++ outL (tailL t) true rs) x (inEnd true rs) (run acc (some p) false (wholeL (tailL t) rs ++ x))
  | [], _, acc => by
    refine ⟨?_, fun p => ?_⟩
    · show run acc none false x = run (acc ++ []) none false x
      rw [List.append_nil]
    · refine ⟨p, ?_⟩
      show run acc (some p) false x = run (acc ++ []) (some p) false x
      rw [List.append_nil]
  | (0, e) :: rs, h, acc => by
    have ih := strip_rows ht x rs fun r hr => h r (.tail _ hr)
    have he : e ∈ Ends := h (0, e) (.head _)
    refine ⟨?_, fun p => ?_⟩
    · have e1 : run acc none false (wholeL (tailL t) ((0, e) :: rs) ++ x) = run acc (some ([34] ++ e)) false (wholeL (tailL t) rs ++ x) := by
        show run acc none false (34 :: ((e ++ wholeL (tailL t) rs) ++ x)) = _
        rw [run_n0, if_neg (by decide), if_pos rfl, List.append_assoc, run_end_in he]
      rw [e1]
      exact (ih acc).2 _
    · have e1 : run acc (some p) false (wholeL (tailL t) ((0, e) :: rs) ++ x) = run (acc ++ e) none false (wholeL (tailL t) rs ++ x) := by
        show run acc (some p) false (34 :: ((e ++ wholeL (tailL t) rs) ++ x)) = _
        rw [run_s0, if_neg (by decide), if_pos rfl, List.append_assoc, run_end_out he]
      rw [e1]
      have h2 := (ih (acc ++ e)).1
      rw [List.append_assoc] at h2
      exact h2
  | (n + 1, e) :: rs, h, acc => by
    have ih := strip_rows ht x rs fun r hr => h r (.tail _ hr)
    have he : e ∈ Ends := h (n + 1, e) (.head _)
    have ew : wholeL (tailL t) ((n + 1, e) :: rs) ++ x = dots (n + 1) ++ (tailL t ++ (e ++ (wholeL (tailL t) rs ++ x))) := by
      show (dots (n + 1) ++ (tailL t ++ e)) ++ wholeL (tailL t) rs ++ x = _
      simp
    refine ⟨?_, fun p => ?_⟩
    · rw [ew, run_dots_out, run_tail_out ht, run_end_out he]
      have h2 := (ih (acc ++ dots (n + 1) ++ tailL t ++ e)).1
      have e3 : acc ++ dots (n + 1) ++ tailL t ++ e ++ outL (tailL t) false rs = acc ++ outL (tailL t) false ((n + 1, e) :: rs) := by
        show _ = acc ++ ((dots (n + 1) ++ (tailL t ++ e)) ++ outL (tailL t) false rs)
        simp
      rw [e3] at h2
      exact h2
    · rw [ew, run_dots_in, run_tail_in ht, run_end_in he]
      exact (ih acc).2 _
end Mine
end

noncomputable section
open PySem PySem.W PyProof.Rows
namespace Mine

noncomputable def dotsG (l : List Nat) : List Int := ((splitL 10 l).filter dotted).map ledDots
theorem dotsOf_eq (l : List Nat) : dotsOf l = dotsG (l.map fed) := rfl
theorem dotsG_row {p : List Nat} (hp : 10 ∉ p) (x : List Nat) : dotsG (p ++ 10 :: x) = (if dotted p = true then [ledDots p] else []) ++ dotsG x := by
  unfold dotsG
  rw [splitL_cons hp, List.filter_cons]
  split <;> rfl
theorem dotsG_lf (x : List Nat) : dotsG (10 :: x) = dotsG x := dotsG_row (p := []) (by simp) x
theorem dotsG_end {e : List Nat} (he : e ∈ Ends) {p : List Nat} (hp : 10 ∉ p) (x : List Nat) : dotsG (p ++ (e.map fed ++ x)) = (if dotted p = true then [ledDots p] else []) ++ dotsG x := by
  simp only [Ends, List.mem_cons, List.not_mem_nil, or_false] at he
  rcases he with rfl | rfl | rfl | rfl | rfl
  · exact dotsG_row hp x
  · exact dotsG_row hp x
  · exact (dotsG_row hp (10 :: x)).trans (by rw [dotsG_lf])
  · exact (dotsG_row hp (10 :: x)).trans (by rw [dotsG_lf])
  · exact (dotsG_row hp (10 :: 10 :: 10 :: x)).trans (by rw [dotsG_lf, dotsG_lf, dotsG_lf])
theorem led_row {n : Nat} {t : List Nat} (ht : t.head? ≠ some 46) : (if dotted (dots (n + 1) ++ t) = true then [ledDots (dots (n + 1) ++ t)] else []) = [((n + 1 : Nat) : Int)] := by
  have h1 : dotted (dots (n + 1) ++ t) = true := rfl
  rw [if_pos h1]
  unfold ledDots
  rw [dropDots t ht, List.length_append]
  unfold dots
  rw [List.length_replicate]
  congr 1
  push_cast; lia
theorem tail_ok : ∀ w, w < 4 → (tailL w).map fed = tailL w ∧ 10 ∉ tailL w ∧ (tailL w).head? ≠ some 46 := by decide
theorem fed_dots (n : Nat) : (dots n).map fed = dots n := by
  unfold dots; rw [List.map_replicate]; rfl
noncomputable def outD : Bool → List Nat → List Nat
  | _, [] => []
  | b, 0 :: ds => outD (!b) ds
  | b, (n + 1) :: ds => (if b then [] else [n + 1]) ++ outD b ds
theorem dots_out {t : Nat} (ht : t < 4) (x : List Nat) : ∀ (rs : List Row2), (∀ r ∈ rs, r.2 ∈ Ends) → ∀ b, dotsG ((outL (tailL t) b rs).map fed ++ x) = ((outD b (rs.map (·.1))).map fun n => ((n : Nat) : Int)) ++ dotsG x
  | [], _, b => rfl
  | (0, e) :: rs, h, b => by
    have ih := dots_out ht x rs (fun r hr => h r (.tail _ hr)) (!b)
    have he : e ∈ Ends := h (0, e) (.head _)
    show dotsG (((if b then e else []) ++ outL (tailL t) (!b) rs).map fed ++ x) = ((outD (!b) (rs.map (·.1))).map fun n => ((n : Nat) : Int)) ++ dotsG x
    rw [← ih]
    cases b with
    | false => rfl
    | true =>
      rw [if_pos rfl, List.map_append, List.append_assoc]
      exact (dotsG_end he (p := []) (by simp) _).trans rfl
  | (n + 1, e) :: rs, h, b => by
    have ih := dots_out ht x rs (fun r hr => h r (.tail _ hr)) b
    have he : e ∈ Ends := h (n + 1, e) (.head _)
    obtain ⟨h1, h2, h3⟩ := tail_ok t ht
    show dotsG (((if b then [] else dots (n + 1) ++ (tailL t ++ e)) ++ outL (tailL t) b rs).map fed ++ x) = (((if b then [] else [n + 1]) ++ outD b (rs.map (·.1))).map fun n => ((n : Nat) : Int)) ++ dotsG x
    cases b with
    | true => exact ih
    | false =>
      rw [if_neg Bool.false_ne_true, if_neg Bool.false_ne_true, List.map_append, List.map_append, List.map_append, fed_dots, h1, List.map_append, List.append_assoc]
      have := dotsG_end he (no10_dots (n + 1) h2) ((outL (tailL t) false rs).map fed ++ x)
      rw [led_row h3] at this
      have e3 : dots (n + 1) ++ (tailL t ++ e.map fed) ++ ((outL (tailL t) false rs).map fed ++ x) = (dots (n + 1) ++ tailL t) ++ (e.map fed ++ ((outL (tailL t) false rs).map fed ++ x)) := by simp
      rw [e3, this, ih]; rfl
end Mine
end

noncomputable section
open PySem PySem.W PyProof.Rows
namespace Mine

noncomputable abbrev Edge := Nat × Nat
noncomputable def ins1 (a : Nat) : List Nat → List Nat
  | [] => [a]
  | b :: l => if a ≤ b then a :: b :: l else b :: ins1 a l
noncomputable def isort : List Nat → List Nat
  | [] => []
  | a :: l => ins1 a (isort l)
theorem ins1_c {a b : Nat} {l : List Nat} : ins1 a (b :: l) = if a ≤ b then a :: b :: l else b :: ins1 a l := rfl
theorem ins1_perm (a : Nat) : ∀ l, (ins1 a l).Perm (a :: l)
  | [] => .refl _
  | b :: l => by
    rw [ins1_c]
    split
    · exact .refl _
    · exact ((ins1_perm a l).cons b).trans (.swap a b l)
theorem isort_perm : ∀ l, (isort l).Perm l
  | [] => .refl _
  | a :: l => (ins1_perm a _).trans ((isort_perm l).cons a)
theorem ins1_sorted {a : Nat} : ∀ {l : List Nat}, l.Pairwise (· ≤ ·) → (ins1 a l).Pairwise (· ≤ ·)
  | [], _ => List.pairwise_singleton _ _
  | b :: l, h => by
    rw [ins1_c]
    split
    · rename_i hab
      refine List.pairwise_cons.mpr ⟨fun c hc => ?_, h⟩
      rcases List.mem_cons.mp hc with rfl | hc
      · exact hab
      · exact Nat.le_trans hab ((List.pairwise_cons.mp h).1 c hc)
    · rename_i hab
      refine List.pairwise_cons.mpr ⟨fun c hc => ?_, ins1_sorted (List.pairwise_cons.mp h).2⟩
      rcases List.mem_cons.mp ((ins1_perm a l).mem_iff.mp hc) with rfl | hc
      · lia
      · exact (List.pairwise_cons.mp h).1 c hc
theorem isort_sorted : ∀ l : List Nat, (isort l).Pairwise (· ≤ ·)
  | [] => List.Pairwise.nil
  | a :: l => ins1_sorted (isort_sorted l)
noncomputable def restL (t : Nat) (E : List Edge) : List Edge := E.filter fun e => !(e.2 == t)
noncomputable def nearL (t : Nat) (E : List Edge) : List Nat := isort ((E.filter fun e => e.2 == t).map (·.1))
noncomputable def joinL (near : List Nat) (rest : List Edge) (j : Nat) : List Edge := ((near.drop (j + 1)).filter fun a => !(rest.contains (near.getD j 0, a))).map fun a => (near.getD j 0, a)
noncomputable def partR (f : List Edge → List Row2) (end_ : List Nat) (t : Nat) (E : List Edge) (j : Nat) : List Row2 := (0, end_) :: (f (restL t E ++ joinL (nearL t E) (restL t E) j) ++ [(0, end_)])
noncomputable def colR (en : Nat → List Nat) : Nat → List Edge → List Row2
  | 0, _ => [(1, en 0)]
  | t + 1, E => (colR en t (restL (t + 1) E)).map sendRow ++ ((List.range (nearL (t + 1) E).length).map fun j => partR (colR en t) (en (t + 1)) (t + 1) E j).flatten
theorem rest_len (t : Nat) (E : List Edge) : (restL t E).length ≤ E.length := List.length_filter_le _ _
theorem near_len (t : Nat) (E : List Edge) : (nearL t E).length ≤ E.length := by
  unfold nearL
  rw [(isort_perm _).length_eq, List.length_map]
  exact List.length_filter_le _ _
theorem join_len (t : Nat) (E : List Edge) (j : Nat) : (restL t E ++ joinL (nearL t E) (restL t E) j).length ≤ 2 * E.length := by
  have h1 := rest_len t E
  have h2 := near_len t E
  have h3 := List.length_filter_le (fun a => !((restL t E).contains ((nearL t E).getD j 0, a))) ((nearL t E).drop (j + 1))
  rw [List.length_drop] at h3
  unfold joinL
  rw [List.length_append, List.length_map]
  lia
theorem col_ends {en : Nat → List Nat} (he : ∀ i, en i ∈ Ends) : ∀ (t : Nat) (E : List Edge), ∀ r ∈ colR en t E, r.2 ∈ Ends
  | 0, E, r, h => by rw [List.mem_singleton.mp h]; exact he 0
  | t + 1, E, r, h => by
    rcases List.mem_append.mp h with h | h
    · obtain ⟨q, _, rfl⟩ := List.mem_map.mp h
      exact sentE_end _
    · obtain ⟨l, hl, hr⟩ := List.mem_flatten.mp h
      obtain ⟨j, _, rfl⟩ := List.mem_map.mp hl
      rcases List.mem_cons.mp hr with rfl | hr
      · exact he _
      · rcases List.mem_append.mp hr with hr | hr
        · exact col_ends he t _ r hr
        · rw [List.mem_singleton.mp hr]; exact he _
theorem col_dots {en : Nat → List Nat} : ∀ (t : Nat) (E : List Edge), ∀ r ∈ colR en t E, r.1 ≤ t + 1
  | 0, E, r, h => by rw [List.mem_singleton.mp h]; exact Nat.le_refl _
  | t + 1, E, r, h => by
    rcases List.mem_append.mp h with h | h
    · obtain ⟨q, hq, rfl⟩ := List.mem_map.mp h
      have := col_dots t _ q hq
      show (if q.1 = 0 then 0 else q.1 + 1) ≤ _
      split <;> lia
    · obtain ⟨l, hl, hr⟩ := List.mem_flatten.mp h
      obtain ⟨j, _, rfl⟩ := List.mem_map.mp hl
      rcases List.mem_cons.mp hr with rfl | hr
      · exact Nat.zero_le _
      · rcases List.mem_append.mp hr with hr | hr
        · have := col_dots t _ r hr; lia
        · rw [List.mem_singleton.mp hr]; exact Nat.zero_le _
end Mine
end

noncomputable section
open PySem PySem.W PyProof.Rows
namespace Mine

noncomputable def colP (en : Nat → List Nat) (t : Nat) (E : List Edge) (j : Nat) : List Row2 := (colR en t (restL (t + 1) E)).map sendRow ++ ((List.range j).map fun i => partR (colR en t) (en (t + 1)) (t + 1) E i).flatten
theorem colP_all (en : Nat → List Nat) (t : Nat) (E : List Edge) : colP en t E (nearL (t + 1) E).length = colR en (t + 1) E := rfl
theorem colP_zero (en : Nat → List Nat) (t : Nat) (E : List Edge) : colP en t E 0 = (colR en t (restL (t + 1) E)).map sendRow := List.append_nil _
theorem colP_succ (en : Nat → List Nat) (t : Nat) (E : List Edge) (j : Nat) : colP en t E (j + 1) = colP en t E j ++ partR (colR en t) (en (t + 1)) (t + 1) E j := by
  unfold colP
  rw [List.range_succ, List.map_append, List.flatten_append, List.append_assoc]
  simp
theorem flat_len_le {α : Type} {c : Nat} : ∀ {L : List (List α)}, (∀ l ∈ L, l.length ≤ c) → L.flatten.length ≤ L.length * c
  | [], _ => Nat.zero_le _
  | l :: L, h => by
    have h1 := flat_len_le (c := c) (L := L) fun x hx => h x (.tail _ hx)
    have h2 := h l (.head _)
    rw [List.flatten_cons, List.length_append, List.length_cons, Nat.add_mul, Nat.one_mul]; lia
theorem part_len {f : List Edge → List Row2} {e : List Nat} {t : Nat} {E : List Edge} {j : Nat} : (partR f e t E j).length = (f (restL t E ++ joinL (nearL t E) (restL t E) j)).length + 2 := by
  unfold partR
  rw [List.length_cons, List.length_append]; rfl
theorem colP_len {en : Nat → List Nat} {t N m j : Nat} {E : List Edge} (hE : E.length ≤ m) (H : ∀ E' : List Edge, E'.length ≤ 2 * m → (colR en t E').length ≤ N) (hj : j ≤ (nearL (t + 1) E).length) : (colP en t E j).length ≤ N + m * (N + 2) := by
  have h1 := H _ (Nat.le_trans (rest_len (t + 1) E) (by lia))
  have h2 := near_len (t + 1) E
  have h3 : (((List.range j).map fun i => partR (colR en t) (en (t + 1)) (t + 1) E i).flatten).length ≤ j * (N + 2) := by
    have := flat_len_le (c := N + 2) (L := (List.range j).map fun i => partR (colR en t) (en (t + 1)) (t + 1) E i) fun l hl => by
      obtain ⟨i, _, rfl⟩ := List.mem_map.mp hl
      rw [part_len]
      have := H _ (Nat.le_trans (join_len (t + 1) E i) (by lia))
      lia
    rwa [List.length_map, List.length_range] at this
  have h4 : j * (N + 2) ≤ m * (N + 2) := Nat.mul_le_mul_right _ (by lia)
  unfold colP
  rw [List.length_append, List.length_map]; lia
noncomputable def capE (t : Nat) : Nat := [48, 24, 12, 6].getD t 0
noncomputable def capN (t : Nat) : Nat := [1, 73, 973, 6823].getD t 0
theorem capE_succ : ∀ t, t < 3 → 2 * capE (t + 1) ≤ capE t ∧ capN t + capE (t + 1) * (capN t + 2) ≤ capN (t + 1) := by decide
theorem col_cap {en : Nat → List Nat} : ∀ t, t < 4 → ∀ E : List Edge, E.length ≤ capE t → (colR en t E).length ≤ capN t
  | 0, _, E, _ => Nat.le_refl 1
  | t + 1, ht, E, hE => by
    obtain ⟨h1, h2⟩ := capE_succ t (by lia)
    exact Nat.le_trans (colP_len hE (fun E' h => col_cap t (by lia) E' (by lia)) (Nat.le_refl _)) h2
theorem colP_cap {en : Nat → List Nat} {t j : Nat} {E : List Edge} (ht : t < 3) (hE : E.length ≤ capE (t + 1)) (hj : j ≤ (nearL (t + 1) E).length) : (colP en t E j).length ≤ capN (t + 1) := by
  obtain ⟨h1, h2⟩ := capE_succ t ht
  exact Nat.le_trans (colP_len hE (fun E' h => col_cap t (by lia) E' (by lia)) hj) h2
theorem capN_le : ∀ t, t < 4 → capN t ≤ 6823 := by decide
theorem capE_le : ∀ t, t < 4 → capE t ≤ 48 := by decide
theorem colP_sub {en : Nat → List Nat} {t j : Nat} {E : List Edge} (hj : j ≤ (nearL (t + 1) E).length) : ∀ r ∈ colP en t E j, r ∈ colR en (t + 1) E := fun r h => by
  rcases List.mem_append.mp h with h | h
  · exact List.mem_append.mpr (.inl h)
  · obtain ⟨l, hl, hr⟩ := List.mem_flatten.mp h
    obtain ⟨i, hi, rfl⟩ := List.mem_map.mp hl
    have := List.mem_range.mp hi
    exact List.mem_append.mpr (.inr (List.mem_flatten.mpr ⟨_, List.mem_map.mpr ⟨i, List.mem_range.mpr (by lia), rfl⟩, hr⟩))
theorem end_len : ∀ e ∈ Ends, e.length ≤ 4 := by decide
theorem end_mem : ∀ e ∈ Ends, ∀ c ∈ e, c < 128 := by decide
theorem ends_mem : ∀ n, n < 4 → ends n ∈ Ends := by decide
theorem tail_len : ∀ n, n < 4 → (tailL n).length ≤ 3 := by decide
theorem tail_mem : ∀ n, n < 4 → ∀ c ∈ tailL n, c < 128 := by decide
theorem row_len {t : Nat} (ht : t < 4) {r : Row2} (h1 : r.1 ≤ 4) (h2 : r.2 ∈ Ends) : (rowL (tailL t) r).length ≤ 11 := by
  have h3 := end_len _ h2
  have h4 := tail_len t ht
  unfold rowL
  split
  · rw [List.length_cons]; lia
  · unfold dots
    rw [List.length_append, List.length_append, List.length_replicate]; lia
theorem whole_len {t : Nat} (ht : t < 4) {rs : List Row2} (h : ∀ r ∈ rs, r.1 ≤ 4 ∧ r.2 ∈ Ends) : (wholeL (tailL t) rs).length ≤ rs.length * 11 := by
  have := flat_len_le (c := 11) (L := rs.map (rowL (tailL t))) fun l hl => by
    obtain ⟨r, hr, rfl⟩ := List.mem_map.mp hl
    exact row_len ht (h r hr).1 (h r hr).2
  rwa [List.length_map] at this
theorem whole_mem {t : Nat} (ht : t < 4) {rs : List Row2} (h : ∀ r ∈ rs, r.2 ∈ Ends) : ∀ c ∈ wholeL (tailL t) rs, c < 128 := fun c hc => by
  obtain ⟨l, hl, hc⟩ := List.mem_flatten.mp hc
  obtain ⟨r, hr, rfl⟩ := List.mem_map.mp hl
  have he := end_mem _ (h r hr)
  unfold rowL at hc
  split at hc
  · rcases List.mem_cons.mp hc with rfl | hc
    · decide
    · exact he c hc
  · rcases List.mem_append.mp hc with hc | hc
    · have := List.eq_of_mem_replicate hc; lia
    · rcases List.mem_append.mp hc with hc | hc
      · exact tail_mem t ht c hc
      · exact he c hc
theorem whole_app (tail : List Nat) (a b : List Row2) : wholeL tail (a ++ b) = wholeL tail a ++ wholeL tail b := by
  unfold wholeL
  rw [List.map_append, List.flatten_append]
theorem col_ne {en : Nat → List Nat} : ∀ t (E : List Edge), colR en t E ≠ []
  | 0, E => by intro h; cases h
  | t + 1, E => fun h => by
    have h1 := (List.append_eq_nil_iff.mp h).1
    exact col_ne t _ (List.map_eq_nil_iff.mp h1)
theorem whole_ne {tail : List Nat} {rs : List Row2} (h : rs ≠ []) : wholeL tail rs ≠ [] := by
  match rs, h with
  | (0, e) :: rs, _ => intro z; cases z
  | (n + 1, e) :: rs, _ => intro z; cases z
end Mine
end

noncomputable section
open PySem PySem.W PyProof.Rows
set_option maxRecDepth 100000
namespace Mine
variable {C : Cx} {k : Nat} {sc : Scope} {ns : List Str} {Γ : List Sl} {e : Expr}

noncomputable def edgeD (e : Edge) : PyData := .tuple [.int (e.1 : Nat), .int (e.2 : Nat)]
theorem shaped_edge (e : Edge) : SeqAt.shaped (edgeD e) = true := rfl
theorem int_eq {a b : Nat} : ((a : Int) == (b : Int)) = (a == b) := by
  rw [Bool.eq_iff_iff, beq_iff_eq, beq_iff_eq]; lia
theorem eqv_edge (a b : Edge) : PyData.eqv (edgeD a) (edgeD b) = (a == b) := by
  show ((((a.1 : Nat) : Int) == ((b.1 : Nat) : Int)) && ((((a.2 : Nat) : Int) == ((b.2 : Nat) : Int)) && true)) = _
  rw [int_eq, int_eq, Bool.and_true]; rfl
theorem any_edge (x : Edge) (E : List Edge) : ((E.map edgeD).any fun y => PyData.eqv y (edgeD x)) = E.contains x := by
  induction E with
  | nil => rfl
  | cons y E ih =>
    rw [List.map_cons, List.any_cons, ih, eqv_edge, List.contains_cons]
    rw [show (y == x) = (x == y) from Bool.eq_iff_iff.mpr (by rw [beq_iff_eq, beq_iff_eq]; exact eq_comm)]
theorem Ev.catM (W : Wf C) {l r : Expr} {p : Pos} {a b : List Nat} (hl : Ev C k sc ns Γ l (.str (mkS a))) (hr : Ev C k sc ns Γ r (.str (mkS b))) (h : a.length + b.length ≤ 1000000) : Ev C k sc ns Γ (.BinOp l .Add r p) (.str (mkS (a ++ b))) :=
  Ev.cast (Ev.bin W hl hr (BinOk.cat (by have := sizeLine_eq; rw [mk_len, mk_len]; lia))) (by rw [mk_cat])
theorem Ev.strM {kk : Nat} {p : Pos} {x : Str} {l : List Nat} (h : x = mkS l) : Ev C k sc ns Γ (.Constant (.str x) kk p) (.str (mkS l)) := h ▸ Ev.str
theorem intD (L : List Nat) : L.map (fun a => PyData.int (a : Nat)) = (L.map fun a => ((a : Nat) : Int)).map .int := by rw [List.map_map]; rfl
noncomputable def hitsL (e : List Nat) : Nat := if e = [10, 13] ∨ e = [13, 10, 13, 10] then 2 else 1
theorem end_repl : ∀ e ∈ Ends, (Txt.replace (mkS e) "\u000d\n" "\n").length = hitsL e := by decide +kernel
theorem end_mul : ∀ e ∈ Ends, Txt.mul "\u000d\n" ((hitsL e : Nat) : Int) = mkS (sentE e) := by decide +kernel
theorem hits_le (e : List Nat) : hitsL e ≤ 2 := by unfold hitsL; split <;> lia
noncomputable abbrev nsC : List Str := ["top", "edges", "cells", "end", "rest", "near", "mail", "rows", "k", "joined", "part", "lines"]
structure GCol (C : Cx) (f ft a1 a2 a3 fq fp fe : Addr) : Prop where
  P : GPre C
  M : GMail C a1 a2 a3 fq fp fe
  T : GTail C ft
  s0 : C.mg "sorted" = .none
  s1 : C.mb "sorted" = some (.builtin "sorted")
  d : Df C PG 21 "_law_coloured" ["top", "edges", "cells"] nsC f
variable {f ft a1 a2 a3 fq fp fe : Addr}
noncomputable abbrev enC (cs : List Int) (i : Nat) : List Nat := ends (way (cs.getD i 0) 2)
noncomputable abbrev tlC (cs : List Int) : List Nat := tailL (way (cs.getD 0 0) 8)
theorem end_eq (n : Nat) (h : n < 4) : (["\n", "\u000d", "\u000d\n", "\n\u000d"] : List Str).getD n "" = mkS (ends n) :=
  four h (P := fun n => (["\n", "\u000d", "\u000d\n", "\n\u000d"] : List Str).getD n "" = mkS (ends n)) (by decide +kernel) (by decide +kernel) (by decide +kernel) (by decide +kernel)
noncomputable def pairCol (tail : List Nat) (rs : List Row2) : PyData := .tuple [.str (mkS (wholeL tail rs)), .list (rs.map rowD)]
set_option maxHeartbeats 8000000 in
theorem col_zero (G : GCol C f ft a1 a2 a3 fq fp fe) {cs : List Int} (hc : 4 ≤ cs.length) (E : List Edge) :
    Fn C (k + 2) f [.int ((0 : Nat) : Int), .list (E.map edgeD), .list (cs.map .int)] (pairCol (tlC cs) (colR (enC cs) 0 E)) := by
  have W := G.P.W
  have hw := way_lt (cs.getD 0 0) 2
  have hw8 := way_lt (cs.getD 0 0) 8
  have hel : (enC cs 0).length ≤ 4 := end_len _ (ends_mem _ hw)
  have htl : (tlC cs).length ≤ 3 := tail_len _ hw8
  have htl2 : (tailL (way (cs.getD 0 0) 8)).length ≤ 3 := htl
  refine G.d.toFn W 9 rfl ?_
  refine Ex.assign W 3 (ev_pick (n := way (cs.getD 0 0) 2) (txs := ["\n", "\u000d", "\u000d\n", "\n\u000d"]) W (.cons Ev.str (.cons Ev.str (.cons Ev.str (.cons Ev.str .nil)))) (Ev.way (m := 2) W (Ev.item (i := ((0 : Nat) : Int)) W (Ev.loc 2) (Ev.loc 0) (by decide) (by decide) (int_at (by lia))) (by decide) (by decide)) hw (by decide) (end_eq _ hw)) ?_
  refine Ex.ite W (Ts.cmp W (Ev.loc 0) Ev.int CmpOk.eqi) (fun _ => ?_) (fun z => by cases z)
  have e1 : PyData.tuple [.str (mkS (([46] ++ tlC cs) ++ enC cs 0)), .list [.tuple [.int 1, .str (mkS (enC cs 0))]]] = pairCol (tlC cs) (colR (enC cs) 0 E) := by
    unfold pairCol
    have : wholeL (tlC cs) (colR (enC cs) 0 E) = ([46] ++ tlC cs) ++ enC cs 0 := by
      show (dots 1 ++ (tlC cs ++ enC cs 0)) ++ [] = _
      rw [List.append_nil, List.append_assoc]; rfl
    rw [this]; rfl
  exact Ex.ret W (Ev.cast (Ev.tuple W (.cons (Ev.catM W (Ev.catM W (Ev.strM dot_str) (G.T.d.call W rfl (.cons (Ev.loc 2) .nil) (fn_tail G.T (by lia))) (by show 1 + _ ≤ _; lia)) (Ev.loc 3) (by rw [List.length_append]; show 1 + _ + _ ≤ _; lia)) (.cons (Ev.list W (.cons (Ev.tuple W (.cons Ev.int (.cons (Ev.loc 3) .nil))) .nil)) .nil))) e1) rfl
end Mine
end

noncomputable section
open PySem PySem.W PyProof.Rows
set_option maxRecDepth 100000
namespace Mine
variable {C : Cx} {k : Nat} {sc : Scope} {ns : List Str} {Γ : List Sl} {e : Expr}
variable {f ft a1 a2 a3 fq fp fe : Addr}

noncomputable def nearI (l : List Nat) : List PyData := (l.map fun a => ((a : Nat) : Int)).map .int
theorem nearI_len (l : List Nat) : (nearI l).length = l.length := by unfold nearI; rw [List.length_map, List.length_map]
theorem nearI_at {l : List Nat} {j : Nat} (h : j < l.length) : (nearI l)[((j : Int)).toNat]? = some (.int (l.getD j 0 : Nat)) := by
  unfold nearI
  rw [Int.toNat_natCast, List.getElem?_map, List.getElem?_map, List.getD_eq_getElem?_getD, List.getElem?_eq_getElem h]; rfl
theorem nearI_drop (l : List Nat) (j : Nat) : (nearI l).drop j = (l.drop j).map fun a => PyData.int (a : Nat) := by
  unfold nearI
  rw [List.map_map, ← List.map_drop]; rfl
theorem flat_if {α β : Type} (p : α → Bool) (g : α → β) (l : List α) : ((l.map fun x => if p x = true then [g x] else []).flatten).length ≤ l.length := by
  rw [flat_filter, List.length_map]; exact List.length_filter_le _ _
set_option maxHeartbeats 8000000 in
theorem col_turn (G : GCol C f ft a1 a2 a3 fq fp fe) {cs : List Int} {t j : Nat} {near : List Nat} {rest : List Edge} {done lines : List Row2} {en tl : List Nat} {dE : PyData} {b c d : Sl} (hnl : near.length ≤ 48) (hj : j < near.length) (hp : rest.length + (joinL near rest j).length ≤ 48) (hel : en.length ≤ 4) (hc1 : done.length + (1 + (lines.length + 1)) ≤ 6823)
    (hw1 : (wholeL tl (done ++ ([(0, en)] ++ (lines ++ [(0, en)])))).length ≤ 75053) (ih : Fn C (k + t + 2) f [.int ((t : Nat) : Int), .list ((rest ++ joinL near rest j).map edgeD), .list (cs.map .int)] (pairCol tl lines)) {Q : Out → Prop}
    (q : Q (.next [.v (.int ((t + 1 : Nat) : Int)), .v dE, .v (.list (cs.map .int)), .v (.str (mkS en)), .v (.list (rest.map edgeD)), .v (.list (nearI near)), .v (.str (mkS (wholeL tl (done ++ ([(0, en)] ++ (lines ++ [(0, en)])))))), .v (.list ((done ++ ([(0, en)] ++ (lines ++ [(0, en)]))).map rowD)), .v (.int (j : Int)), .v (.list ((joinL near rest j).map edgeD)), .v (.str (mkS (wholeL tl lines))), .v (.list (lines.map rowD))])) :
    Ex C (k + t + 2) (scopeAt PG 21) nsC [.v (.int ((t + 1 : Nat) : Int)), .v dE, .v (.list (cs.map .int)), .v (.str (mkS en)), .v (.list (rest.map edgeD)), .v (.list (nearI near)), .v (.str (mkS (wholeL tl done))), .v (.list (done.map rowD)), .v (.int (j : Int)), b, c, d] (stForB ((bodyAt PG 21).getD 7 (.Pass ⟨0, 0, 0, 0⟩))) Q := by
  have W := G.P.W
  have hs := sizeLine_eq
  -- joined
  refine Ex.assignComp W 9 ["a"] ["k", "near", "rest"] ((near.drop (j + 1)).map fun a => if (!(rest.contains (near.getD j 0, a))) = true then [edgeD (near.getD j 0, a)] else []) (ys := (joinL near rest j).map edgeD) (by decide +kernel) (xs := (near.drop (j + 1)).map fun a => .int (a : Nat))
    (Src.list W (Ev.cast (Ev.slice (lo' := some ((j + 1 : Nat) : Int)) (hi' := none) W (Ev.loc 5) (Ev.bin W (Ev.loc 8) (Ev.int (i := ((1 : Nat) : Int))) BinOk.addN) trivial (by rw [nearI_len]; lia)) (by rw [lslice_from (by rw [nearI_len]; lia), nearI_drop])))
    (All2.maps fun a ha ts hts => ?_) (Nat.le_trans (flat_if _ _ _) (by rw [List.length_drop]; lia)) (by rw [flat_filter (fun a => !(rest.contains (near.getD j 0, a))) (fun a => edgeD (near.getD j 0, a))]; unfold joinL; rw [List.map_map]; rfl) ?_
  · obtain ⟨t0, rfl⟩ := List.length_eq_one_iff.mp hts
    have hpair : ∀ {k' sc' p1 p2 p3 p4 p5}, Ev C k' sc' ["a", "k", "near", "rest"] [.v (.int (a : Nat)), .v (.int (j : Int)), .v (.list (nearI near)), .v (.list (rest.map edgeD))] (.Tuple [.Subscript (.Name "near" p1) (.Name "k" p2) p3, .Name "a" p4] 0 p5) (edgeD (near.getD j 0, a)) := fun {k' sc' p1 p2 p3 p4 p5} =>
      Ev.tuple W (.cons (Ev.item (i := (j : Int)) W (Ev.loc 2) (Ev.loc 1) (by lia) (by lia) (nearI_at hj)) (.cons (Ev.loc 0) .nil))
    refine ⟨[.v (.int (a : Nat))], rfl, AsgOk.name W 0, !(rest.contains (near.getD j 0, a)), ?_, fun z => by rw [z]; rfl, fun z => ⟨edgeD (near.getD j 0, a), hpair, by rw [z]; rfl⟩⟩
    exact Ts.cast (Ts.cmp W hpair (Ev.loc 3) (CmpOk.notInL (shaped_edge _) (fun y hy => by obtain ⟨q, _, rfl⟩ := List.mem_map.mp hy; exact shaped_edge q))) (by rw [any_edge])
  have hadd : BinOk C (k + t + 2) .Add (.list (rest.map edgeD)) (.list ((joinL near rest j).map edgeD)) (.list ((rest ++ joinL near rest j).map edgeD)) := (BinOk.addL (by rw [List.length_map, List.length_map]; lia)).cast (by rw [List.map_append])
  have hsub : PyData.int (((t + 1 : Nat) : Int) - 1) = .int ((t : Nat) : Int) := int2 (by lia)
  refine Ex.tup W (ds := [.str (mkS (wholeL tl lines)), .list (lines.map rowD)]) (.cons 10 (.cons 11 .nil)) (G.d.call W rfl (.cons (Ev.cast (Ev.bin W (Ev.loc 0) Ev.int BinOk.sub) hsub) (.cons (Ev.bin W (Ev.loc 4) (Ev.loc 9) hadd) (.cons (Ev.loc 2) .nil))) ih) ?_
  have ew : wholeL tl (done ++ ([(0, en)] ++ (lines ++ [(0, en)]))) = ((((wholeL tl done ++ [34]) ++ en) ++ wholeL tl lines) ++ [34]) ++ en := by
    rw [whole_app, whole_app, whole_app]
    show _ ++ ((34 :: en ++ []) ++ (_ ++ (34 :: en ++ []))) = _
    simp
  have er : (done ++ ([(0, en)] ++ (lines ++ [(0, en)]))).map rowD = ((done.map rowD ++ [rowD (0, en)]) ++ lines.map rowD) ++ [rowD (0, en)] := by simp
  rw [ew] at hw1
  simp only [List.length_append] at hw1
  refine Ex.assign (d := .str (mkS (wholeL tl (done ++ ([(0, en)] ++ (lines ++ [(0, en)])))))) W 6 (Ev.cast (Ev.catM W (Ev.catM W (Ev.catM W (Ev.catM W (Ev.catM W (Ev.loc 6) (Ev.strM mark_mk) ?_) (Ev.loc 3) ?_) (Ev.loc 10) ?_) (Ev.strM mark_mk) ?_) (Ev.loc 3) ?_) (by rw [ew])) ?_
  · lia
  · simp only [List.length_append]; lia
  · simp only [List.length_append]; lia
  · simp only [List.length_append]; lia
  · simp only [List.length_append]; lia
  have e0 : PyData.list [.tuple [.int 0, .str (mkS en)]] = .list [rowD (0, en)] := rfl
  refine Ex.assign (d := .list ((done ++ ([(0, en)] ++ (lines ++ [(0, en)]))).map rowD)) W 7 (Ev.cast (Ev.bin W (Ev.bin W (Ev.bin W (Ev.loc 7) (Ev.cast (Ev.list W (.cons (Ev.tuple W (.cons Ev.int (.cons (Ev.loc 3) .nil))) .nil)) e0) (BinOk.addL ?_)) (Ev.loc 11) (BinOk.addL ?_)) (Ev.cast (Ev.list W (.cons (Ev.tuple W (.cons Ev.int (.cons (Ev.loc 3) .nil))) .nil)) e0) (BinOk.addL ?_)) (by rw [er])) ?_
  · rw [List.length_map]; show _ + 1 ≤ _; lia
  · rw [List.length_append, List.length_map, List.length_map]; show _ + 1 + _ ≤ _; lia
  · rw [List.length_append, List.length_append, List.length_map, List.length_map]; show _ + 1 + _ + 1 ≤ _; lia
  exact Ex.nil q
noncomputable def colG (cs : List Int) (t : Nat) (E : List Edge) (j : Nat) (a b c d : Sl) : List Sl := [.v (.int ((t + 1 : Nat) : Int)), .v (.list (E.map edgeD)), .v (.list (cs.map .int)), .v (.str (mkS (enC cs (t + 1)))), .v (.list ((restL (t + 1) E).map edgeD)), .v (.list (nearI (nearL (t + 1) E))), .v (.str (mkS (wholeL (tlC cs) (colP (enC cs) t E j)))), .v (.list ((colP (enC cs) t E j).map rowD)), a, b, c, d]
noncomputable def colJ (cs : List Int) (t : Nat) (E : List Edge) (rem : List PyData) (Γ : List Sl) : Prop := ∃ (j : Nat) (a b c d : Sl), j ≤ (nearL (t + 1) E).length ∧ rem = ((List.range (nearL (t + 1) E).length).drop j).map (fun (i : Nat) => PyData.int (i : Int)) ∧ Γ = colG cs t E j a b c d
theorem colJ.mk {cs : List Int} {t : Nat} {E : List Edge} {rem : List PyData} (j : Nat) (a b c d : Sl) (h0 : j ≤ (nearL (t + 1) E).length) (h1 : rem = ((List.range (nearL (t + 1) E).length).drop j).map (fun (i : Nat) => PyData.int (i : Int))) : colJ cs t E rem (colG cs t E j a b c d) := ⟨j, a, b, c, d, h0, h1, rfl⟩
theorem colJ.elim {cs : List Int} {t : Nat} {E : List Edge} {rem : List PyData} {Γ : List Sl} {P : Prop} (h : colJ cs t E rem Γ) (k : ∀ (j : Nat) (a b c d : Sl), (j ≤ (nearL (t + 1) E).length) → (rem = ((List.range (nearL (t + 1) E).length).drop j).map (fun (i : Nat) => PyData.int (i : Int))) → Γ = (colG cs t E j a b c d) → P) : P := by
  obtain ⟨j, a, b, c, d, h0, h1, rfl⟩ := h
  exact k j a b c d h0 h1 rfl
set_option maxHeartbeats 8000000 in
theorem col_loop (G : GCol C f ft a1 a2 a3 fq fp fe) {cs : List Int} {t : Nat} (ht : t < 3) {E : List Edge} (hE : E.length ≤ capE (t + 1))
    (ih : ∀ E' : List Edge, E'.length ≤ capE t → Fn C (k + t + 2) f [.int ((t : Nat) : Int), .list (E'.map edgeD), .list (cs.map .int)] (pairCol (tlC cs) (colR (enC cs) t E'))) {b8 b9 b10 b11 : Sl} :
    Ex C (k + t + 2) (scopeAt PG 21) nsC [.v (.int ((t + 1 : Nat) : Int)), .v (.list (E.map edgeD)), .v (.list (cs.map .int)), .v (.str (mkS (enC cs (t + 1)))), .v (.list ((restL (t + 1) E).map edgeD)), .v (.list (nearI (nearL (t + 1) E))), .v (.str (mkS (wholeL (tlC cs) (colP (enC cs) t E 0)))), .v (.list ((colP (enC cs) t E 0).map rowD)), b8, b9, b10, b11] ((bodyAt PG 21).drop 7)
      (fun o => o = .ret (pairCol (tlC cs) (colR (enC cs) (t + 1) E))) := by
  have W := G.P.W
  have hs := sizeLine_eq
  have hnl : (nearL (t + 1) E).length ≤ 48 := Nat.le_trans (near_len _ _) (Nat.le_trans hE (capE_le _ (by lia)))
  have hrl : (restL (t + 1) E).length ≤ 48 := Nat.le_trans (rest_len _ _) (Nat.le_trans hE (capE_le _ (by lia)))
  have hw8 := way_lt (cs.getD 0 0) 8
  have hen : ∀ i, enC cs i ∈ Ends := fun i => ends_mem _ (way_lt _ _)
  have hel : (enC cs (t + 1)).length ≤ 4 := end_len _ (hen _)
  have hcE := (capE_succ t ht).1
  have hok : ∀ j, j ≤ (nearL (t + 1) E).length → ∀ r ∈ colP (enC cs) t E j, r.1 ≤ 4 ∧ r.2 ∈ Ends := fun j hj r hr => ⟨Nat.le_trans (col_dots _ _ r (colP_sub hj r hr)) (by lia), col_ends hen _ _ r (colP_sub hj r hr)⟩
  have hcl : ∀ j, j ≤ (nearL (t + 1) E).length → (colP (enC cs) t E j).length ≤ 6823 := fun j hj => Nat.le_trans (colP_cap ht hE hj) (capN_le _ (by lia))
  have hwl : ∀ j, j ≤ (nearL (t + 1) E).length → (wholeL (tlC cs) (colP (enC cs) t E j)).length ≤ 75053 := fun j hj => by
    have h1 : (wholeL (tlC cs) (colP (enC cs) t E j)).length ≤ _ := whole_len hw8 (hok j hj)
    have h2 := hcl j hj
    lia
  have hlen : Bi C (k + t + 2) (.builtin "len") [.list (nearI (nearL (t + 1) E))] (.int ((nearL (t + 1) E).length : Nat)) := (Bi.lenL (by rw [nearI_len]; lia)).cast (by rw [nearI_len])
  refine Ex.for W (Src.range (n := ((nearL (t + 1) E).length : Nat)) W rfl G.P.r0 G.P.r1 (Ev.callB W rfl G.P.l0 G.P.l1 (.cons (Ev.loc 5) .nil) hlen) (by lia) (by lia))
    (colJ cs t E) ?_ ?_ ?_
  · exact (colJ.mk 0 _ _ _ _ (Nat.zero_le _) rfl)
  · intro x rem Γ₁ hJ
    refine hJ.elim fun j a b c d hj hrem hΓ => ?_
    subst hΓ
    obtain ⟨hj, rfl, hrem'⟩ := range_next hrem
    refine ⟨_, AsgOk.name W 8, ?_⟩
    have hjoinE : (restL (t + 1) E ++ joinL (nearL (t + 1) E) (restL (t + 1) E) j).length ≤ capE t := Nat.le_trans (join_len _ _ _) (by lia)
    have hst := colP_succ (enC cs) t E j
    have hpart : partR (colR (enC cs) t) (enC cs (t + 1)) (t + 1) E j = [(0, enC cs (t + 1))] ++ (colR (enC cs) t (restL (t + 1) E ++ joinL (nearL (t + 1) E) (restL (t + 1) E) j) ++ [(0, enC cs (t + 1))]) := rfl
    rw [hpart] at hst
    have hc1 := hcl (j + 1) hj
    have hw1 := hwl (j + 1) hj
    rw [hst] at hc1 hw1
    rw [List.length_append, List.length_append, List.length_append] at hc1
    have hp := hjoinE
    rw [List.length_append] at hp
    have hcap := capE_le t (by lia)
    exact col_turn G hnl hj (by lia) hel hc1 hw1 (ih _ hjoinE) ⟨j + 1, _, _, _, _, by lia, hrem', by unfold colG; rw [hst]⟩
  · intro Γ₁ hJ
    refine hJ.elim fun j a b c d hj hrem hΓ => ?_
    subst hΓ
    have hj : j = (nearL (t + 1) E).length := by have := range_done hrem; lia
    subst hj
    exact Ex.ret W (Ev.tuple W (.cons (Ev.loc 6) (.cons (Ev.loc 7) .nil))) rfl
end Mine
end

noncomputable section
open PySem PySem.W PyProof.Rows
set_option maxRecDepth 100000
namespace Mine
variable {C : Cx} {k : Nat} {sc : Scope} {ns : List Str} {Γ : List Sl} {e : Expr}
variable {f ft a1 a2 a3 fq fp fe : Addr}

theorem send_dots (n : Nat) : (if decide ((0 : Int) < (n : Nat)) = true then PyData.int (((n : Nat) : Int) + 1) else .int 0) = .int ((if n = 0 then 0 else n + 1 : Nat) : Int) := by
  rcases Nat.eq_zero_or_pos n with z | z
  · rw [z]; rfl
  · rw [if_pos (decide_eq_true (by lia)), if_neg (by lia)]; exact int2 (by lia)
set_option maxHeartbeats 8000000 in
theorem col_rows (G : GCol C f ft a1 a2 a3 fq fp fe) {cs : List Int} {t : Nat} (ht : t < 3) {E : List Edge} (hE : E.length ≤ capE (t + 1))
    (ih : ∀ E' : List Edge, E'.length ≤ capE t → Fn C (k + t + 2) f [.int ((t : Nat) : Int), .list (E'.map edgeD), .list (cs.map .int)] (pairCol (tlC cs) (colR (enC cs) t E'))) :
    Ex C (k + t + 2) (scopeAt PG 21) nsC [.v (.int ((t + 1 : Nat) : Int)), .v (.list (E.map edgeD)), .v (.list (cs.map .int)), .v (.str (mkS (enC cs (t + 1)))), .v (.list ((restL (t + 1) E).map edgeD)), .v (.list (nearI (nearL (t + 1) E))), .v (.str (mkS (wholeL (tlC cs) ((colR (enC cs) t (restL (t + 1) E)).map sendRow)))), .v (.list ((colR (enC cs) t (restL (t + 1) E)).map rowD)), .un, .un, .un, .un] ((bodyAt PG 21).drop 6)
      (fun o => o = .ret (pairCol (tlC cs) (colR (enC cs) (t + 1) E))) := by
  have W := G.P.W
  have hs := sizeLine_eq
  have hen : ∀ i, enC cs i ∈ Ends := fun i => ends_mem _ (way_lt _ _)
  have hcE := (capE_succ t ht).1
  have hrl : (colR (enC cs) t (restL (t + 1) E)).length ≤ 6823 := Nat.le_trans (col_cap t (by lia) _ (Nat.le_trans (rest_len _ _) (by lia))) (capN_le _ (by lia))
  have hre := col_ends hen t (restL (t + 1) E)
  have hl := col_loop (k := k) G ht hE ih (b8 := .un) (b9 := .un) (b10 := .un) (b11 := .un)
  rw [colP_zero] at hl
  generalize colR (enC cs) t (restL (t + 1) E) = R at *
  refine Ex.assignComp W 7 ["dots", "old"] [] (R.map fun r => [rowD (sendRow r)]) (ys := (R.map sendRow).map rowD) (by decide +kernel) (xs := R.map rowD) (Src.list W (Ev.loc 7)) (All2.maps fun r hr ts hts => ?_) (by rw [flat_single, List.length_map]; lia) (by rw [flat_single, List.map_map]; rfl) hl
  match ts, hts with
  | [t0, t1], _ =>
    have he := hre r hr
    have hel := end_len _ he
    have hh := hits_le r.2
    refine ⟨[.v (.int (r.1 : Nat)), .v (.str (mkS r.2))], rfl, AsgOk.tup (ds := [.int (r.1 : Nat), .str (mkS r.2)]) (is := [0, 1]) W (.cons 0 (.cons 1 .nil)), true, rfl, fun z => (by cases z), fun _ => ⟨rowD (sendRow r), ?_, rfl⟩⟩
    have hr1 := end_repl _ he
    have hm1 := end_mul _ he
    have hx : ("\u000d\n" : Str).length = 2 := by decide +kernel
    exact Ev.tuple W (.cons (Ev.cast (Ev.ite W (Ts.cmp W (Ev.loc 0) Ev.int CmpOk.gt) (fun _ => Ev.bin W (Ev.loc 0) Ev.int BinOk.add) (fun _ => Ev.int)) (send_dots r.1))
      (.cons (Ev.cast (Ev.bin W Ev.str (Ev.callB W rfl G.P.l0 G.P.l1 (.cons (Ev.replace W (Ev.loc 1) (by decide +kernel) (by rw [mk_len, show ("\n" : Str).length = 1 by decide +kernel]; lia)) .nil) ((Bi.lenS (by rw [hr1]; lia)).cast (by rw [hr1]))) (BinOk.rep (mul_ok (n := hitsL r.2) (by rw [hx]; lia) (by lia)))) (by rw [hm1]; rfl)) .nil))
set_option maxHeartbeats 8000000 in
theorem col_succ (G : GCol C f ft a1 a2 a3 fq fp fe) {cs : List Int} (hc : 4 ≤ cs.length) {t : Nat} (ht : t < 3) {E : List Edge} (hE : E.length ≤ capE (t + 1))
    (ih : ∀ E' : List Edge, E'.length ≤ capE t → Fn C (k + t + 2) f [.int ((t : Nat) : Int), .list (E'.map edgeD), .list (cs.map .int)] (pairCol (tlC cs) (colR (enC cs) t E'))) :
    Fn C (k + t + 3) f [.int ((t + 1 : Nat) : Int), .list (E.map edgeD), .list (cs.map .int)] (pairCol (tlC cs) (colR (enC cs) (t + 1) E)) := by
  have W := G.P.W
  have hs := sizeLine_eq
  have hw := way_lt (cs.getD (t + 1) 0) 2
  have hw8 := way_lt (cs.getD 0 0) 8
  have hen : ∀ i, enC cs i ∈ Ends := fun i => ends_mem _ (way_lt _ _)
  have hcE := (capE_succ t ht).1
  have hcap := capE_le (t + 1) (by lia)
  have hi : (cs.map PyData.int)[(((t + 1 : Nat) : Int)).toNat]? = some (.int (cs.getD (t + 1) 0)) := int_at (by lia)
  refine G.d.toFn W 9 rfl ?_
  refine Ex.assign W 3 (ev_pick (n := way (cs.getD (t + 1) 0) 2) (txs := ["\n", "\u000d", "\u000d\n", "\n\u000d"]) W (.cons Ev.str (.cons Ev.str (.cons Ev.str (.cons Ev.str .nil)))) (Ev.way (m := 2) W (Ev.item (i := ((t + 1 : Nat) : Int)) W (Ev.loc 2) (Ev.loc 0) (by lia) (by lia) hi) (by decide) (by decide)) hw (by decide) (end_eq _ hw)) ?_
  refine Ex.ite W (Ts.cmp W (Ev.loc 0) Ev.int CmpOk.eqi) (fun z => ?_) (fun _ => Ex.nil ?_)
  · have := eq_of_beq z; lia
  refine Ex.assignS W 4 (Ev.listComp W ["a", "b"] ["top"] (E.map fun e => if (!(e.2 == t + 1)) = true then [edgeD e] else []) (ys := (restL (t + 1) E).map edgeD) (by decide +kernel) (xs := E.map edgeD) (Src.list W (Ev.loc 1)) (All2.maps fun e he ts hts => ?_) (Nat.le_trans (flat_if _ _ _) (by lia)) (flat_filter (fun e : Edge => !(e.2 == t + 1)) edgeD E)) ?_ (fun env h => swaps_cell h rfl)
  · match ts, hts with
    | [t0, t1], _ =>
      refine ⟨[.v (.int (e.1 : Nat)), .v (.int (e.2 : Nat))], rfl, AsgOk.tup (ds := [.int (e.1 : Nat), .int (e.2 : Nat)]) (is := [0, 1]) W (.cons 0 (.cons 1 .nil)), !(e.2 == t + 1), ?_, fun z => by rw [z]; rfl, fun z => ⟨edgeD e, Ev.tuple W (.cons (Ev.loc 0) (.cons (Ev.loc 1) .nil)), by rw [z]; rfl⟩⟩
      have hne : CmpOk C (k + t + 2) .NotEq (.int (e.2 : Nat)) (.int ((t + 1 : Nat) : Int)) (!(((e.2 : Nat) : Int) == ((t + 1 : Nat) : Int))) := CmpOk.ne rfl rfl
      exact Ts.cast (Ts.cmp W (Ev.loc 1) (Ev.loc 2) hne) (by rw [int_eq])
  have hnl := near_len (t + 1) E
  have hsort : Bi C (k + t + 2) (.builtin "sorted") [.list (((E.filter fun e => e.2 == t + 1).map fun e => ((e.1 : Nat) : Int)).map .int)] (.list (nearI (nearL (t + 1) E))) := by
    refine Bi.sorted (by rw [List.length_map]; have := List.length_filter_le (fun e : Edge => e.2 == t + 1) E; lia) _ ?_ ?_
    · have := (isort_perm ((E.filter fun e => e.2 == t + 1).map (·.1))).map fun a => ((a : Nat) : Int)
      rwa [List.map_map] at this
    · exact List.pairwise_map.mpr ((isort_sorted _).imp fun h => by lia)
  refine Ex.assign W 5 (Ev.callB W rfl G.s0 G.s1 (.cons (Ev.listComp W ["a", "b"] ["top"] (E.map fun e => if (e.2 == t + 1) = true then [PyData.int (e.1 : Nat)] else []) (ys := ((E.filter fun e => e.2 == t + 1).map fun e => ((e.1 : Nat) : Int)).map .int) (by decide +kernel) (xs := E.map edgeD) (Src.list W (Ev.loc 1)) (All2.maps fun e he ts hts => ?_) (Nat.le_trans (flat_if _ _ _) (by lia)) (by rw [flat_filter (fun e : Edge => e.2 == t + 1) (fun e => PyData.int (e.1 : Nat)), List.map_map]; rfl)) .nil) hsort) ?_
  · match ts, hts with
    | [t0, t1], _ =>
      refine ⟨[.v (.int (e.1 : Nat)), .v (.int (e.2 : Nat))], rfl, AsgOk.tup (ds := [.int (e.1 : Nat), .int (e.2 : Nat)]) (is := [0, 1]) W (.cons 0 (.cons 1 .nil)), e.2 == t + 1, ?_, fun z => by rw [z]; rfl, fun z => ⟨.int (e.1 : Nat), Ev.loc 0, by rw [z]; rfl⟩⟩
      exact Ts.cast (Ts.cmp W (Ev.loc 1) (Ev.loc 2) CmpOk.eqi) int_eq
  have hrest : (restL (t + 1) E).length ≤ capE t := Nat.le_trans (rest_len _ _) (by lia)
  have hsub : PyData.int (((t + 1 : Nat) : Int) - 1) = .int ((t : Nat) : Int) := int2 (by lia)
  have hrl : (colR (enC cs) t (restL (t + 1) E)).length ≤ 6823 := Nat.le_trans (col_cap t (by lia) _ hrest) (capN_le _ (by lia))
  have hok : ∀ r ∈ colR (enC cs) t (restL (t + 1) E), r.1 ≤ 4 ∧ r.2 ∈ Ends := fun r hr => ⟨Nat.le_trans (col_dots _ _ r hr) (by lia), col_ends hen _ _ r hr⟩
  have hwl : (wholeL (tlC cs) (colR (enC cs) t (restL (t + 1) E))).length ≤ _ := whole_len hw8 hok
  have hsend : dotL true (eolL (wholeL (tlC cs) (colR (enC cs) t (restL (t + 1) E)))) = wholeL (tlC cs) ((colR (enC cs) t (restL (t + 1) E)).map sendRow) := send_whole hw8 _ fun r hr => (hok r hr).2
  have hne : wholeL (tlC cs) ((colR (enC cs) t (restL (t + 1) E)).map sendRow) ≠ [] := whole_ne fun z => col_ne t _ (List.map_eq_nil_iff.mp z)
  have hmem : ∀ c ∈ wholeL (tlC cs) (colR (enC cs) t (restL (t + 1) E)), c < 128 := whole_mem hw8 fun r hr => (hok r hr).2
  have hrows := col_rows (k := k) G ht hE ih
  refine Ex.tup W (ds := [.str (mkS (wholeL (tlC cs) (colR (enC cs) t (restL (t + 1) E)))), .list ((colR (enC cs) t (restL (t + 1) E)).map rowD)]) (.cons 6 (.cons 7 .nil)) (G.d.call W rfl (.cons (Ev.cast (Ev.bin W (Ev.loc 0) Ev.int BinOk.sub) hsub) (.cons (Ev.loc 4) (.cons (Ev.loc 2) .nil))) (ih _ hrest)) ?_
  generalize colR (enC cs) t (restL (t + 1) E) = R at *
  generalize hM : wholeL (tlC cs) R = M at *
  have hq : 4 * (mkS M).length + 10 ≤ sizeLine := by rw [mk_len]; lia
  refine Ex.ite W (Ts.cmp W (Ev.bit (m := 8) W (Ev.item (i := ((t + 1 : Nat) : Int)) W (Ev.loc 2) (Ev.loc 0) (by lia) (by lia) hi) (by decide) (by decide)) Ev.int CmpOk.eqi) (fun _ => ?_) (fun _ => ?_)
  · have fq := fn_qd (x := mkS M) (k := k + t + 1) G.M hq
    rw [SL_mk, hsend] at fq
    exact Ex.assign W 6 (G.M.qd.call W rfl (.cons (Ev.loc 6) .nil) fq) (Ex.nil hrows)
  · have eo : PyData.str (mkS (dotL true (eolL (SL (mkS M))))) = .str (mkS (wholeL (tlC cs) (R.map sendRow))) := by rw [SL_mk, hsend]
    exact Ex.assign W 6 (Ev.cast (ev_octets (x := mkS M) (k := k + t + 1) G.M rfl rfl (Ev.loc 6) (by rw [SL_mk]; exact hmem) hq (by rw [SL_mk, hsend]; exact hne)) eo) (Ex.nil hrows)
theorem fn_coloured (G : GCol C f ft a1 a2 a3 fq fp fe) {cs : List Int} (hc : 4 ≤ cs.length) : ∀ (t : Nat), t < 4 → ∀ E : List Edge, E.length ≤ capE t →
    Fn C (k + t + 2) f [.int ((t : Nat) : Int), .list (E.map edgeD), .list (cs.map .int)] (pairCol (tlC cs) (colR (enC cs) t E))
  | 0, _, E, _ => col_zero G hc E
  | t + 1, h, E, hE => col_succ G hc (by lia) hE (fn_coloured G hc t (by lia))
end Mine
end

noncomputable section
open PySem PySem.W PyProof.Rows
namespace Mine

noncomputable def mx1 : List Nat → Nat
  | [] => 0
  | a :: l => max (a + 1) (mx1 l)
theorem mx1_snoc (a : Nat) : ∀ l, mx1 (l ++ [a]) = max (mx1 l) (a + 1)
  | [] => by show max (a + 1) 0 = max 0 (a + 1); lia
  | b :: l => by
    show max (b + 1) (mx1 (l ++ [a])) = max (max (b + 1) (mx1 l)) (a + 1)
    rw [mx1_snoc a l]; lia
theorem mx1_le {a : Nat} : ∀ {l : List Nat}, a ∈ l → a + 1 ≤ mx1 l
  | b :: l, h => by
    show _ ≤ max (b + 1) (mx1 l)
    rcases List.mem_cons.mp h with rfl | h
    · lia
    · have := mx1_le h; lia
theorem mx1_mem : ∀ {l : List Nat}, l ≠ [] → ∃ a ∈ l, mx1 l = a + 1
  | [a], _ => ⟨a, .head _, by show max (a + 1) 0 = _; lia⟩
  | a :: b :: l, _ => by
    obtain ⟨c, hc, e⟩ := mx1_mem (l := b :: l) (by simp)
    rcases Nat.le_total (mx1 (b :: l)) (a + 1) with h | h
    · exact ⟨a, .head _, Nat.max_eq_left h⟩
    · exact ⟨c, .tail _ hc, by rw [← e]; exact Nat.max_eq_right h⟩
noncomputable def triedOf (row : List Nat) : List (List Nat) := (List.range (mx1 row + 1)).map fun k => row ++ [k]
noncomputable def triedL (rows : List (List Nat)) : List (List Nat) := (rows.map triedOf).flatten
noncomputable def clash (E : List Edge) (v : Nat) (row : List Nat) : List Edge := E.filter fun e => e.2 == v && row.getD e.1 0 == row.getD v 0
noncomputable def stepR (E : List Edge) (rows : List (List Nat)) (v : Nat) : List (List Nat) := (triedL rows).filter fun row => (clash E v row).isEmpty
noncomputable def rowsR (E : List Edge) : Nat → List (List Nat)
  | 0 => [[]]
  | v + 1 => stepR E (rowsR E v) v
noncomputable def roomsR (E : List Edge) : List Nat := (List.range 5).map fun k => ((rowsR E 4).filter fun row => mx1 row == k).length
theorem rowsR_ok (E : List Edge) : ∀ v, ∀ row ∈ rowsR E v, row.length = v ∧ mx1 row ≤ v
  | 0, row, h => by rw [List.mem_singleton.mp h]; exact ⟨rfl, Nat.le_refl _⟩
  | v + 1, row, h => by
    obtain ⟨l, hl, hr⟩ := List.mem_flatten.mp (List.mem_filter.mp h).1
    obtain ⟨r, hm, rfl⟩ := List.mem_map.mp hl
    obtain ⟨k, hk, rfl⟩ := List.mem_map.mp hr
    have := List.mem_range.mp hk
    obtain ⟨h1, h2⟩ := rowsR_ok E v r hm
    rw [List.length_append, mx1_snoc]
    exact ⟨by rw [h1]; rfl, by lia⟩
theorem tried_ok {E : List Edge} {v : Nat} : ∀ row ∈ triedL (rowsR E v), row.length = v + 1 := fun row h => by
  obtain ⟨l, hl, hr⟩ := List.mem_flatten.mp h
  obtain ⟨r, hm, rfl⟩ := List.mem_map.mp hl
  obtain ⟨k, hk, rfl⟩ := List.mem_map.mp hr
  rw [List.length_append, (rowsR_ok E v r hm).1]; rfl
theorem tried_len {E : List Edge} {v : Nat} (hv : v ≤ 4) : (triedL (rowsR E v)).length ≤ (rowsR E v).length * 5 := by
  have := flat_len_le (c := 5) (L := (rowsR E v).map triedOf) fun l hl => by
    obtain ⟨r, hm, rfl⟩ := List.mem_map.mp hl
    unfold triedOf
    rw [List.length_map, List.length_range]
    have := (rowsR_ok E v r hm).2
    lia
  rwa [List.length_map] at this
theorem rows_len {E : List Edge} : ∀ v, v ≤ 4 → (rowsR E v).length ≤ 5 ^ v
  | 0, _ => Nat.le_refl _
  | v + 1, h => by
    have h1 := rows_len (E := E) v (by lia)
    have h2 := tried_len (E := E) (v := v) (by lia)
    have h3 := List.length_filter_le (fun row => (clash E v row).isEmpty) (triedL (rowsR E v))
    show (stepR E (rowsR E v) v).length ≤ _
    unfold stepR
    rw [Nat.pow_succ]; lia
theorem pow5_le : ∀ v, v < 5 → 5 ^ v ≤ 625 := by decide
theorem rows_len' {E : List Edge} {v : Nat} (h : v ≤ 4) : (rowsR E v).length ≤ 625 := Nat.le_trans (rows_len v h) (pow5_le v (by lia))
end Mine
end

noncomputable section
open PySem PySem.W PyProof.Rows
set_option maxRecDepth 100000
namespace Mine
variable {C : Cx} {k : Nat} {sc : Scope} {ns : List Str} {Γ : List Sl} {e : Expr}

noncomputable def rowI (row : List Nat) : PyData := .list (nearI row)
theorem canLay_ints : ∀ xs : List Nat, PyData.canLayAll0 (nearI xs) = true
  | [] => rfl
  | x :: xs => by
    show (true && PyData.canLayAll0 (nearI xs)) = true
    rw [canLay_ints xs]; rfl
theorem depth_ints : ∀ xs : List Nat, PyData.depthAll (nearI xs) = 0
  | [] => rfl
  | x :: xs => by
    show max 0 (PyData.depthAll (nearI xs)) = 0
    rw [depth_ints xs]; rfl
theorem shaped_ints (xs : List Nat) : SeqAt.shaped (.list (nearI xs)) = true := by
  show (PyData.canLayAll0 (nearI xs) && decide (PyData.depthAll (nearI xs) + 1 ≤ 64)) = true
  rw [canLay_ints, depth_ints]; rfl
theorem eqv_empty (xs : List Nat) : PyData.eqv (.list (nearI xs)) (.list []) = xs.isEmpty := by
  cases xs <;> rfl
theorem nearI_snoc (row : List Nat) (a : Nat) : nearI row ++ [.int (a : Nat)] = nearI (row ++ [a]) := by
  unfold nearI
  rw [List.map_append, List.map_append]; rfl
structure GRooms (C : Cx) (f : Addr) : Prop where
  P : GPre C
  x0 : C.mg "max" = .none
  x1 : C.mb "max" = some (.builtin "max")
  d : Df C PG 25 "_law_rooms" ["edges"] ["edges", "rows", "v", "tried"] f
theorem max_row (W : Wf C) (row : List Nat) : Bi C k (.builtin "max") [.list (((-1) :: row.map fun a => ((a : Nat) : Int)).map .int)] (.int (((mx1 row : Nat) : Int) - 1)) := by
  refine Bi.max W ?_ ?_
  · rcases row with _ | ⟨a, l⟩
    · exact .head _
    · obtain ⟨c, hc, e⟩ := mx1_mem (l := a :: l) (by simp)
      rw [e]
      exact .tail _ (List.mem_map.mpr ⟨c, hc, by lia⟩)
  · intro x hx
    rcases List.mem_cons.mp hx with rfl | hx
    · lia
    · obtain ⟨c, hc, rfl⟩ := List.mem_map.mp hx
      have := mx1_le hc; lia
theorem max_row' (W : Wf C) {row : List Nat} (h : row ≠ []) : Bi C k (.builtin "max") [rowI row] (.int (((mx1 row : Nat) : Int) - 1)) := by
  refine Bi.max W ?_ ?_
  · obtain ⟨c, hc, e⟩ := mx1_mem h
    rw [e]
    exact List.mem_map.mpr ⟨c, hc, by lia⟩
  · intro x hx
    obtain ⟨c, hc, rfl⟩ := List.mem_map.mp hx
    have := mx1_le hc; lia
theorem tried_map (rows : List (List Nat)) : ((rows.map fun row => (triedOf row).map rowI).flatten) = (triedL rows).map rowI := by
  unfold triedL
  rw [List.map_flatten, List.map_map]; rfl
noncomputable def EdgesOk (E : List Edge) : Prop := E.length ≤ 6 ∧ ∀ e ∈ E, e.1 < e.2 ∧ e.2 < 4
noncomputable def roomsJ (E : List Edge) (rem : List PyData) (Γ : List Sl) : Prop := ∃ (v : Nat) (a b : Sl), v ≤ 4 ∧ rem = ((List.range 4).drop v).map (fun (i : Nat) => PyData.int (i : Int)) ∧ Γ = [.v (.list (E.map edgeD)), .v (.list ((rowsR E v).map rowI)), a, b]
theorem roomsJ.mk {E : List Edge} {rem : List PyData} (v : Nat) (a b : Sl) (h0 : v ≤ 4) (h1 : rem = ((List.range 4).drop v).map (fun (i : Nat) => PyData.int (i : Int))) : roomsJ E rem [.v (.list (E.map edgeD)), .v (.list ((rowsR E v).map rowI)), a, b] := ⟨v, a, b, h0, h1, rfl⟩
theorem roomsJ.elim {E : List Edge} {rem : List PyData} {Γ : List Sl} {P : Prop} (h : roomsJ E rem Γ) (k : ∀ (v : Nat) (a b : Sl), (v ≤ 4) → (rem = ((List.range 4).drop v).map (fun (i : Nat) => PyData.int (i : Int))) → Γ = [.v (.list (E.map edgeD)), .v (.list ((rowsR E v).map rowI)), a, b] → P) : P := by
  obtain ⟨v, a, b, h0, h1, rfl⟩ := h
  exact k v a b h0 h1 rfl
set_option maxHeartbeats 8000000 in
theorem fn_rooms {f : Addr} (G : GRooms C f) {E : List Edge} (hE : EdgesOk E) : Fn C (k + 1) f [.list (E.map edgeD)] (.list ((roomsR E).map fun n => .int (n : Nat))) := by
  have W := G.P.W
  have hs := sizeLine_eq
  refine G.d.toFn W 3 rfl ?_
  refine Ex.assign W 1 (Ev.list W (.cons (Ev.list W .nil) .nil)) ?_
  refine Ex.for W (Src.range (n := ((4 : Nat) : Int)) W rfl G.P.r0 G.P.r1 Ev.int (by lia) (by lia)) (roomsJ E) ?_ ?_ ?_
  · exact (roomsJ.mk 0 _ _ (Nat.zero_le _) rfl)
  · intro x rem Γ₁ hJ
    refine hJ.elim fun v a b hv hrem hΓ => ?_
    subst hΓ
    obtain ⟨hv, rfl, hrem'⟩ := range_next hrem
    refine ⟨_, AsgOk.name W 2, ?_⟩
    have hrl := rows_len' (E := E) (v := v) (by lia)
    have htl := tried_len (E := E) (v := v) (by lia)
    refine Ex.assignG W 3 ["row", "k"] [] (by decide +kernel) (xs := (rowsR E v).map rowI) (ys := (triedL (rowsR E v)).map rowI) (J := fun ts => ts.length = 2) (Src.list W (Ev.loc 1)) rfl ((loop2 W rfl rfl rfl rfl (fun _ _ => rfl) (yss := (rowsR E v).map fun row => (triedOf row).map rowI) (All2.maps fun row hrow ts hts => ?_)).cast (tried_map _)) (by rw [List.length_map]; lia) ?_
    · match ts, hts with
      | [t0, t1], _ =>
        obtain ⟨h1, h2⟩ := rowsR_ok E v row hrow
        have e1 : PyData.int (((mx1 row : Nat) : Int) - 1 + 2) = .int ((mx1 row + 1 : Nat) : Int) := int2 (by lia)
        have e2 : BinOk C k .Add (.list [.int (-1)]) (rowI row) (.list (((-1) :: row.map fun a => ((a : Nat) : Int)).map .int)) := BinOk.addL (by rw [nearI_len]; show 1 + _ ≤ _; lia)
        have e3 : (((List.range (mx1 row + 1)).map fun i => [rowI (row ++ [i])]).flatten) = (triedOf row).map rowI := by rw [flat_single]; unfold triedOf; rw [List.map_map]; rfl
        refine ⟨[.v (rowI row), t1], AsgOk.name W 0, rfl, fun ts => ∃ t, ts = [.v (rowI row), t], (List.range (mx1 row + 1)).map fun (i : Nat) => PyData.int (i : Int), ⟨t1, rfl⟩, fun ts h => by obtain ⟨t, rfl⟩ := h; rfl, Src.range (n := ((mx1 row + 1 : Nat) : Int)) W rfl G.P.r0 G.P.r1 (Ev.cast (Ev.bin W (Ev.callB W rfl G.x0 G.x1 (.cons (Ev.bin W (Ev.list W (.cons (Ev.neg W Ev.int) .nil)) (Ev.loc 0) e2) .nil) (max_row W row)) Ev.int BinOk.add) e1) (by lia) (by lia), (loop1 W rfl rfl rfl (All2.maps fun i hi ts hts => ?_)).cast e3⟩
        obtain ⟨t, rfl⟩ := hts
        have e4 : BinOk C k .Add (rowI row) (.list [.int ((i : Nat) : Int)]) (rowI (row ++ [i])) := (BinOk.addL (by rw [nearI_len]; show _ + 1 ≤ _; lia)).cast (by rw [nearI_snoc]; rfl)
        exact ⟨[.v (rowI row), .v (.int (i : Int))], ⟨_, rfl⟩, AsgOk.name W 1, true, rfl, fun z => (by cases z), fun _ => ⟨rowI (row ++ [i]), Ev.bin W (Ev.loc 0) (Ev.list W (.cons (Ev.loc 1) .nil)) e4, rfl⟩⟩
    refine Ex.assignS W 1 (Ev.listComp W ["row"] ["edges", "v"] ((triedL (rowsR E v)).map fun row => if (clash E v row).isEmpty = true then [rowI row] else []) (ys := (rowsR E (v + 1)).map rowI) (by decide +kernel) (xs := (triedL (rowsR E v)).map rowI) (Src.list W (Ev.loc 3)) (All2.maps fun row hrow ts hts => ?_) (Nat.le_trans (flat_if _ _ _) (by lia)) (flat_filter (fun row => (clash E v row).isEmpty) rowI _)) ?_ (fun env h => swaps_cell h rfl)
    · obtain ⟨t0, rfl⟩ := List.length_eq_one_iff.mp hts
      have hrl := tried_ok row hrow
      refine ⟨[.v (rowI row)], rfl, AsgOk.name W 0, (clash E v row).isEmpty, ?_, fun z => by rw [z]; rfl, fun z => ⟨rowI row, Ev.loc 0, by rw [z]; rfl⟩⟩
      have hcl : ((clash E v row).map fun e => PyData.int (e.1 : Nat)) = nearI ((clash E v row).map (·.1)) := by unfold nearI; rw [List.map_map, List.map_map]; rfl
      refine Ts.cast (Ts.cmp W (Ev.listComp W ["a", "b"] ["row", "v"] (E.map fun e => if (e.2 == v && row.getD e.1 0 == row.getD v 0) = true then [PyData.int (e.1 : Nat)] else []) (ys := nearI ((clash E v row).map (·.1))) (by decide +kernel) (xs := E.map edgeD) (Src.list W (Ev.loc 1)) (All2.maps fun e he ts hts => ?_) (Nat.le_trans (flat_if _ _ _) (by have := hE.1; lia)) ((flat_filter (fun e : Edge => e.2 == v && row.getD e.1 0 == row.getD v 0) (fun e => PyData.int (e.1 : Nat)) E).trans hcl)) (Ev.list W .nil) (CmpOk.eq (shaped_ints _) rfl)) (by rw [eqv_empty, List.isEmpty_map])
      match ts, hts with
      | [t0, t1], _ =>
        refine ⟨[.v (.int (e.1 : Nat)), .v (.int (e.2 : Nat))], rfl, AsgOk.tup (ds := [.int (e.1 : Nat), .int (e.2 : Nat)]) (is := [0, 1]) W (.cons 0 (.cons 1 .nil)), e.2 == v && row.getD e.1 0 == row.getD v 0, ?_, fun z => by rw [z]; rfl, fun z => ⟨.int (e.1 : Nat), Ev.loc 0, by rw [z]; rfl⟩⟩
        refine Ts.and W (Ts.cast (Ts.cmp W (Ev.loc 1) (Ev.loc 3) CmpOk.eqi) int_eq) fun hb => ?_
        have hb : e.2 = v := eq_of_beq hb
        have h1 := (hE.2 e he).1
        exact Ts.cast (Ts.cmp W (Ev.item (i := ((e.1 : Nat) : Int)) W (Ev.loc 2) (Ev.loc 0) (by lia) (by lia) (nearI_at (by lia))) (Ev.item (i := ((v : Nat) : Int)) W (Ev.loc 2) (Ev.loc 3) (by lia) (by lia) (nearI_at (by lia))) CmpOk.eqi) int_eq
    exact Ex.nil (roomsJ.mk (v + 1) _ _ (by lia) hrem')
  · intro Γ₁ hJ
    refine hJ.elim fun v a b hv hrem hΓ => ?_
    subst hΓ
    have hv : v = 4 := by have := range_done hrem; lia
    subst hv
    have hrl := rows_len' (E := E) (v := 4) (by lia)
    refine Ex.ret W (Ev.listComp W ["k"] ["rows"] ((List.range 5).map fun k => [.int (((rowsR E 4).filter fun row => mx1 row == k).length : Nat)]) (ys := (roomsR E).map fun n => .int (n : Nat)) (by decide +kernel) (xs := (List.range 5).map fun (i : Nat) => PyData.int (i : Int)) (Src.range (n := ((5 : Nat) : Int)) W rfl G.P.r0 G.P.r1 Ev.int (by lia) (by lia)) (All2.maps fun i hi ts hts => ?_) (by rw [flat_single, List.length_map, List.length_range]; lia) (by rw [flat_single]; unfold roomsR; rw [List.map_map]; rfl)) rfl
    obtain ⟨t0, rfl⟩ := List.length_eq_one_iff.mp hts
    refine ⟨[.v (.int (i : Int))], rfl, AsgOk.name W 0, true, rfl, fun z => (by cases z), fun _ => ⟨.int (((rowsR E 4).filter fun row => mx1 row == i).length : Nat), ?_, rfl⟩⟩
    have hlen : Bi C k (.builtin "len") [.list (((rowsR E 4).filter fun row => mx1 row == i).map rowI)] (.int (((rowsR E 4).filter fun row => mx1 row == i).length : Nat)) := (Bi.lenL (by rw [List.length_map]; have := List.length_filter_le (fun row => mx1 row == i) (rowsR E 4); lia)).cast (by rw [List.length_map])
    refine Ev.callB W rfl G.P.l0 G.P.l1 (.cons (Ev.listComp W ["row"] ["k"] ((rowsR E 4).map fun row => if (mx1 row == i) = true then [rowI row] else []) (ys := ((rowsR E 4).filter fun row => mx1 row == i).map rowI) (by decide +kernel) (xs := (rowsR E 4).map rowI) (Src.list W (Ev.loc 1)) (All2.maps fun row hrow ts hts => ?_) (Nat.le_trans (flat_if _ _ _) (by lia)) (flat_filter (fun row => mx1 row == i) rowI _)) .nil) hlen
    obtain ⟨t0, rfl⟩ := List.length_eq_one_iff.mp hts
    have hne : row ≠ [] := fun z => by have := (rowsR_ok E 4 row hrow).1; rw [z] at this; cases this
    have he : ((((mx1 row : Nat) : Int) - 1) == ((i : Int) - 1)) = (mx1 row == i) := by
      rw [Bool.eq_iff_iff, beq_iff_eq, beq_iff_eq]; lia
    exact ⟨[.v (rowI row)], rfl, AsgOk.name W 0, mx1 row == i, Ts.cast (Ts.cmp W (Ev.callB W rfl G.x0 G.x1 (.cons (Ev.loc 0) .nil) (max_row' W hne)) (Ev.bin W (Ev.loc 1) Ev.int BinOk.sub) CmpOk.eqi) he, fun z => by rw [z]; rfl, fun z => ⟨rowI row, Ev.loc 0, by rw [z]; rfl⟩⟩
end Mine
end

noncomputable section
open PySem PySem.W PyProof.Rows
namespace Mine

noncomputable def insAt (v : Nat) (o : List Nat) (k : Nat) : List Nat := (o.take k ++ [v]) ++ o.drop k
noncomputable def insAll (v : Nat) (o : List Nat) : List (List Nat) := (List.range (v + 1)).map fun k => insAt v o k
noncomputable def ordersR : Nat → List (List Nat)
  | 0 => [[]]
  | v + 1 => ((ordersR v).map (insAll v)).flatten
noncomputable def wayOf (E : List Edge) (o : List Nat) : List Bool := E.map fun e => decide (o.idxOf e.1 < o.idxOf e.2)
noncomputable def waysR (E : List Edge) : List (List Nat) → List (List Bool) → List (List Bool)
  | [], acc => acc
  | o :: os, acc => waysR E os (if (!acc.contains (wayOf E o)) = true then acc ++ [wayOf E o] else acc)
theorem waysR_c {E : List Edge} {o : List Nat} {os : List (List Nat)} {acc : List (List Bool)} : waysR E (o :: os) acc = waysR E os (if (!acc.contains (wayOf E o)) = true then acc ++ [wayOf E o] else acc) := rfl
noncomputable def directedR (E : List Edge) : Nat := (waysR E (ordersR 4) []).length
theorem orders_ok : ∀ v, v < 5 → ∀ o ∈ ordersR v, o.length = v := by decide +kernel
theorem orders_len : ∀ v, v < 5 → (ordersR v).length ≤ 24 := by decide +kernel
theorem orders_mem : ∀ o ∈ ordersR 4, ∀ a, a < 4 → a ∈ o := by decide +kernel
theorem orders_succ : ∀ v, v < 4 → (ordersR (v + 1)).length ≤ 24 := by decide +kernel
end Mine
end

noncomputable section
open PySem PySem.W PyProof.Rows
set_option maxRecDepth 100000
namespace Mine
variable {C : Cx} {k : Nat} {sc : Scope} {ns : List Str} {Γ : List Sl} {e : Expr}

noncomputable def wayD (w : List Bool) : PyData := .list (w.map .bool)
theorem canLay_bools : ∀ xs : List Bool, PyData.canLayAll0 (xs.map .bool) = true
  | [] => rfl
  | x :: xs => by
    show (true && PyData.canLayAll0 (xs.map .bool)) = true
    rw [canLay_bools xs]; rfl
theorem depth_bools : ∀ xs : List Bool, PyData.depthAll (xs.map .bool) = 0
  | [] => rfl
  | x :: xs => by
    show max 0 (PyData.depthAll (xs.map .bool)) = 0
    rw [depth_bools xs]; rfl
theorem shaped_way (w : List Bool) : SeqAt.shaped (wayD w) = true := by
  show (PyData.canLayAll0 (w.map .bool) && decide (PyData.depthAll (w.map .bool) + 1 ≤ 64)) = true
  rw [canLay_bools, depth_bools]; rfl
theorem eqv_way : ∀ (a b : List Bool), PyData.eqv (wayD a) (wayD b) = (a == b)
  | [], [] => rfl
  | [], _ :: _ => rfl
  | _ :: _, [] => rfl
  | x :: a, y :: b => by
    show ((x == y) && PyData.eqv (wayD a) (wayD b)) = _
    rw [eqv_way a b]; rfl
theorem any_way (x : List Bool) (L : List (List Bool)) : ((L.map wayD).any fun y => PyData.eqv y (wayD x)) = L.contains x := by
  induction L with
  | nil => rfl
  | cons y L ih =>
    rw [List.map_cons, List.any_cons, ih, eqv_way, List.contains_cons]
    rw [show (y == x) = (x == y) from Bool.eq_iff_iff.mpr (by rw [beq_iff_eq, beq_iff_eq]; exact eq_comm)]
theorem idx_at {o : List Nat} {a : Nat} (h : a ∈ o) (hl : o.length ≤ 4) : Bi C k (.builtin "list.index") [rowI o, .int (a : Nat)] (.int (o.idxOf a : Nat)) := by
  have hj := List.idxOf_lt_length_of_mem h
  refine Bi.indexL rfl (fun y hy => ?_) (by lia) ⟨.int (a : Nat), ?_, ?_⟩ fun m y hm hy => ?_
  · obtain ⟨i, _, rfl⟩ := List.mem_map.mp hy; rfl
  · have := nearI_at hj
    rw [Int.toNat_natCast] at this
    rw [this, List.getD_eq_getElem?_getD, List.getElem?_eq_getElem hj, Option.getD_some, List.getElem_idxOf hj]
  · exact beq_self_eq_true _
  · have hm' : m < o.length := by lia
    have := nearI_at hm'
    rw [Int.toNat_natCast] at this
    rw [this] at hy
    cases hy
    show (((o.getD m 0 : Nat) : Int) == ((a : Nat) : Int)) = false
    rw [int_eq, List.getD_eq_getElem?_getD, List.getElem?_eq_getElem hm', Option.getD_some]
    have := List.not_of_lt_findIdx (p := (· == a)) (xs := o) (i := m) hm
    simpa using this
structure GDir (C : Cx) (f : Addr) : Prop where
  P : GPre C
  d : Df C PG 26 "_law_directed" ["edges"] ["edges", "orders", "v", "order", "ways", "way"] f
theorem ins_map (v : Nat) (os : List (List Nat)) : ((os.map fun o => (insAll v o).map rowI).flatten) = (os.map (insAll v)).flatten.map rowI := by
  rw [List.map_flatten, List.map_map]; rfl
theorem sl_noOwn {sv : Sl} (h : (∃ d, sv = .v d) ∨ sv = .un) {a b : PyData} : noOwn [.v a, .v b, sv, .un, .un, .un] = true := by
  rcases h with ⟨d, rfl⟩ | rfl <;> rfl
noncomputable def ordJ (E : List Edge) (rem : List PyData) (Γ : List Sl) : Prop := ∃ (v : Nat) (sv : Sl), v ≤ 4 ∧ ((∃ d, sv = .v d) ∨ sv = .un) ∧ rem = ((List.range 4).drop v).map (fun (i : Nat) => PyData.int (i : Int)) ∧ Γ = [.v (.list (E.map edgeD)), .v (.list ((ordersR v).map rowI)), sv, .un, .un, .un]
noncomputable def dirJ (E : List Edge) (sv : Sl) (rem : List PyData) (Γ : List Sl) : Prop := ∃ (os : List (List Nat)) (acc : List (List Bool)) (a b : Sl), rem = os.map rowI ∧ (∀ o ∈ os, o ∈ ordersR 4) ∧ waysR E os acc = waysR E (ordersR 4) [] ∧ acc.length + os.length ≤ 24 ∧ Γ = [.v (.list (E.map edgeD)), .v (.list ((ordersR 4).map rowI)), sv, a, .own (acc.map wayD), b]
set_option maxHeartbeats 8000000 in
theorem fn_directed {f : Addr} (G : GDir C f) {E : List Edge} (hE : EdgesOk E) : Fn C (k + 1) f [.list (E.map edgeD)] (.int (directedR E : Nat)) := by
  have W := G.P.W
  have hs := sizeLine_eq
  refine G.d.toFn W 5 rfl ?_
  refine Ex.assign W 1 (Ev.list W (.cons (Ev.list W .nil) .nil)) ?_
  refine Ex.for W (Src.range (n := ((4 : Nat) : Int)) W rfl G.P.r0 G.P.r1 Ev.int (by lia) (by lia)) (ordJ E) ?_ ?_ ?_
  · exact ⟨0, .un, Nat.zero_le _, .inr rfl, rfl, rfl⟩
  · rintro x rem Γ₁ ⟨v, sv, hv, hsv, hrem, rfl⟩
    obtain ⟨hv, rfl, hrem'⟩ := range_next hrem
    have hol := orders_succ v hv
    refine ⟨_, AsgOk.name W 2, ?_⟩
    refine Ex.assignG W 1 ["order", "k"] ["v"] (by decide +kernel) (xs := (ordersR v).map rowI) (ys := (ordersR (v + 1)).map rowI) (J := fun ts => ts.length = 2) (Src.list W (Ev.loc 1)) rfl ((loop2 W rfl rfl rfl rfl (fun _ _ => rfl) (yss := (ordersR v).map fun o => (insAll v o).map rowI) (All2.maps fun o ho ts hts => ?_)).cast (ins_map v _)) (by rw [List.length_map]; lia) (Ex.nil ⟨v + 1, _, by lia, .inl ⟨_, rfl⟩, hrem', rfl⟩)
    match ts, hts with
    | [t0, t1], _ =>
      have h1 := orders_ok v (by lia) o ho
      have e3 : (((List.range (v + 1)).map fun i => [rowI (insAt v o i)]).flatten) = (insAll v o).map rowI := by rw [flat_single]; unfold insAll; rw [List.map_map]; rfl
      refine ⟨[.v (rowI o), t1], AsgOk.name W 0, rfl, fun ts => ∃ t, ts = [.v (rowI o), t], (List.range (v + 1)).map fun (i : Nat) => PyData.int (i : Int), ⟨t1, rfl⟩, fun ts h => by obtain ⟨t, rfl⟩ := h; rfl, Src.range (n := ((v + 1 : Nat) : Int)) W rfl G.P.r0 G.P.r1 (Ev.bin W (Ev.loc 2) (Ev.int (i := ((1 : Nat) : Int))) BinOk.addN) (by lia) (by lia), (loop1 W rfl rfl rfl (All2.maps fun i hi ts hts => ?_)).cast e3⟩
      obtain ⟨t, rfl⟩ := hts
      have hi := List.mem_range.mp hi
      have s1 : lslice (nearI o) none (some (i : Int)) none = nearI (o.take i) := by rw [lslice_to (by rw [nearI_len]; lia)]; unfold nearI; rw [← List.map_take, ← List.map_take]
      have s2 : lslice (nearI o) (some (i : Int)) none none = nearI (o.drop i) := by rw [lslice_from (by rw [nearI_len]; lia)]; unfold nearI; rw [← List.map_drop, ← List.map_drop]
      have e4 : BinOk C k .Add (.list (nearI (o.take i))) (.list [.int ((v : Nat) : Int)]) (.list (nearI (o.take i ++ [v]))) := (BinOk.addL (by rw [nearI_len, List.length_take]; show _ + 1 ≤ _; lia)).cast (by rw [nearI_snoc])
      have e5 : BinOk C k .Add (.list (nearI (o.take i ++ [v]))) (.list (nearI (o.drop i))) (rowI (insAt v o i)) := (BinOk.addL (by rw [nearI_len, nearI_len, List.length_append, List.length_take, List.length_drop]; show _ + 1 + _ ≤ _; lia)).cast (by unfold rowI insAt nearI; simp only [List.map_append])
      exact ⟨[.v (rowI o), .v (.int (i : Int))], ⟨_, rfl⟩, AsgOk.name W 1, true, rfl, fun z => (by cases z), fun _ => ⟨rowI (insAt v o i), Ev.bin W (Ev.bin W (Ev.cast (Ev.slice (lo' := none) (hi' := some (i : Int)) W (Ev.loc 0) trivial (Ev.loc 1) (by rw [nearI_len]; lia)) (by rw [s1])) (Ev.list W (.cons (Ev.loc 2) .nil)) e4) (Ev.cast (Ev.slice (lo' := some (i : Int)) (hi' := none) W (Ev.loc 0) (Ev.loc 1) trivial (by rw [nearI_len]; lia)) (by rw [s2])) e5, rfl⟩⟩
  · rintro Γ₁ ⟨v, sv, hv, hsv, hrem, rfl⟩
    have hv : v = 4 := by have := range_done hrem; lia
    subst hv
    refine Ex.newOwn W 4 ?_ rfl (of_decide_eq_true rfl) (sl_noOwn hsv)
    refine Ex.for W (Src.list W (Ev.loc 1)) (dirJ E sv) ?_ ?_ ?_
    · exact ⟨ordersR 4, [], _, _, rfl, fun o h => h, rfl, by rw [List.length_nil, Nat.zero_add]; exact orders_len 4 (by lia), rfl⟩
    · rintro x rem Γ₁ ⟨os, acc, a, b, hrem, hos, hw, hlen, rfl⟩
      cases os with
      | nil => cases hrem
      | cons o os =>
        cases hrem
        have ho := hos o (.head _)
        have h4 := orders_ok 4 (by lia) o ho
        rw [List.length_cons] at hlen
        refine ⟨_, AsgOk.name W 3, ?_⟩
        refine Ex.assignComp W 5 ["a", "b"] ["order"] (E.map fun e => [PyData.bool (decide (o.idxOf e.1 < o.idxOf e.2))]) (ys := (wayOf E o).map .bool) (by decide +kernel) (xs := E.map edgeD) (Src.list W (Ev.loc 0)) (All2.maps fun e he ts hts => ?_) (by rw [flat_single, List.length_map]; have := hE.1; lia) (by rw [flat_single]; unfold wayOf; rw [List.map_map]; rfl) ?_
        · match ts, hts with
          | [t0, t1], _ =>
            obtain ⟨q1, q2⟩ := hE.2 e he
            have hlt : decide (((o.idxOf e.1 : Nat) : Int) < ((o.idxOf e.2 : Nat) : Int)) = decide (o.idxOf e.1 < o.idxOf e.2) := by rw [decide_eq_decide]; lia
            exact ⟨[.v (.int (e.1 : Nat)), .v (.int (e.2 : Nat))], rfl, AsgOk.tup (ds := [.int (e.1 : Nat), .int (e.2 : Nat)]) (is := [0, 1]) W (.cons 0 (.cons 1 .nil)), true, rfl, fun z => (by cases z), fun _ => ⟨.bool (decide (o.idxOf e.1 < o.idxOf e.2)), Ev.cast (Ev.cmp W (Ev.methL W (Ev.loc 2) (.cons (Ev.loc 0) .nil) F.slot_list_index F.type_list_index (idx_at (orders_mem o ho _ (by lia)) (by lia))) (Ev.methL W (Ev.loc 2) (.cons (Ev.loc 1) .nil) F.slot_list_index F.type_list_index (idx_at (orders_mem o ho _ (by lia)) (by lia))) CmpOk.lt) (by rw [hlt]), rfl⟩⟩
        have hos' : ∀ o ∈ os, o ∈ ordersR 4 := fun y hy => hos y (.tail _ hy)
        rw [waysR_c] at hw
        refine Ex.ite W (Ts.cast (Ts.cmp W (Ev.loc 5) (Ev.loc 4) (CmpOk.notInL (shaped_way _) (fun y hy => by obtain ⟨q, _, rfl⟩ := List.mem_map.mp hy; exact shaped_way q))) (by rw [any_way])) (fun hb => ?_) (fun hb => ?_)
        · rw [if_pos hb] at hw
          exact Ex.append W 4 (Ev.loc 5) (Ex.nil (Ex.nil ⟨os, acc ++ [wayOf E o], _, _, rfl, hos', hw, by rw [List.length_append, List.length_singleton]; lia, by rw [List.map_append]; rfl⟩)) (by rw [List.length_map]; lia)
        · rw [if_neg (by rw [hb]; exact Bool.false_ne_true)] at hw
          exact Ex.nil (Ex.nil ⟨os, acc, _, _, rfl, hos', hw, by lia, rfl⟩)
    · rintro Γ₁ ⟨os, acc, a, b, hrem, hos, hw, hlen, rfl⟩
      have hq : os = [] := by cases os with | nil => rfl | cons => cases hrem
      subst hq
      have hw : acc = waysR E (ordersR 4) [] := hw
      have hl : Bi C k (.builtin "len") [.list (acc.map wayD)] (.int (directedR E : Nat)) := (Bi.lenL (by rw [List.length_map]; lia)).cast (by rw [List.length_map, hw]; rfl)
      exact Ex.ret W (Ev.callB W rfl G.P.l0 G.P.l1 (.cons (Ev.loc 4) .nil) hl) rfl
end Mine
end

noncomputable section
open PySem PySem.W PyProof.Rows
namespace Mine

noncomputable def up1 (n : Nat) : Nat := if n = 0 then 0 else n + 1
noncomputable def dotR : Nat → List Edge → List Nat
  | 0, _ => [1]
  | t + 1, E => (dotR t (restL (t + 1) E)).map up1 ++ ((List.range (nearL (t + 1) E).length).map fun j => 0 :: (dotR t (restL (t + 1) E ++ joinL (nearL (t + 1) E) (restL (t + 1) E) j) ++ [0])).flatten
theorem col_map (en : Nat → List Nat) : ∀ t (E : List Edge), (colR en t E).map (·.1) = dotR t E
  | 0, _ => rfl
  | t + 1, E => by
    show ((colR en t (restL (t + 1) E)).map sendRow ++ _).map (fun r : Row2 => r.1) = _ ++ _
    rw [List.map_append, ← col_map en t, List.map_map, List.map_map, List.map_flatten, List.map_map]
    refine congrArg (_ ++ ·) (congrArg List.flatten (List.map_congr_left fun j _ => ?_))
    show 0 :: ((colR en t _ ++ [(0, en (t + 1))]).map (fun r : Row2 => r.1)) = _
    rw [List.map_append, col_map en t]; rfl
noncomputable def flip1 (b : Bool) : List Nat → Bool
  | [] => b
  | n :: l => flip1 (if n = 0 then !b else b) l
theorem flip_app (a c : List Nat) : ∀ b, flip1 b (a ++ c) = flip1 (flip1 b a) c := by
  induction a with
  | nil => intro b; rfl
  | cons n a ih => intro b; exact ih _
theorem flip_up (l : List Nat) : ∀ b, flip1 b (l.map up1) = flip1 b l := by
  induction l with
  | nil => intro b; rfl
  | cons n l ih =>
    intro b
    show flip1 (if up1 n = 0 then !b else b) (l.map up1) = flip1 (if n = 0 then !b else b) l
    rw [ih]
    unfold up1
    split
    · rfl
    · rw [if_neg (by lia)]
theorem flip_flat {L : List (List Nat)} (h : ∀ l ∈ L, ∀ b, flip1 b l = b) : ∀ b, flip1 b L.flatten = b := by
  induction L with
  | nil => intro b; rfl
  | cons l L ih =>
    intro b
    rw [List.flatten_cons, flip_app, h l (.head _), ih fun x hx => h x (.tail _ hx)]
theorem flip_dot : ∀ t (E : List Edge) b, flip1 b (dotR t E) = b
  | 0, _, b => rfl
  | t + 1, E, b => by
    show flip1 b (_ ++ _) = b
    rw [flip_app, flip_up, flip_dot t]
    refine flip_flat (fun l hl b => ?_) b
    obtain ⟨j, _, rfl⟩ := List.mem_map.mp hl
    show flip1 (!b) (dotR t _ ++ [0]) = b
    rw [flip_app, flip_dot t]
    show (!(!b)) = b
    rw [Bool.not_not]
theorem inEnd_flip : ∀ (rs : List Row2) b, inEnd b rs = flip1 b (rs.map (·.1))
  | [], b => rfl
  | r :: rs, b => by
    show _ = flip1 (if r.1 = 0 then !b else b) (rs.map (·.1))
    rw [inEnd_c]
    split
    · rename_i h
      exact inEnd_flip rs _
    · rename_i h
      exact inEnd_flip rs _
theorem col_in (en : Nat → List Nat) (t : Nat) (E : List Edge) (b : Bool) : inEnd b (colR en t E) = b := by
  rw [inEnd_flip, col_map, flip_dot]

noncomputable def pairsN : List Edge := [(0, 1), (0, 2), (1, 2), (0, 3), (1, 3), (2, 3)]
noncomputable def edgesB (b : Nat → Bool) : List Edge := ((List.range 6).filter b).map fun k => pairsN.getD k (0, 0)
noncomputable def coefR (E : List Edge) (k : Nat) : Int := ((outD false (dotR 3 E)).count (k + 1) : Int) - ((outD true (dotR 3 E)).count (k + 1) : Int)
noncomputable def factsOk (E : List Edge) : Bool :=
  let r := roomsR E
  let r1 : Int := (r.getD 1 0 : Nat)
  let r2 : Int := (r.getD 2 0 : Nat)
  let r3 : Int := (r.getD 3 0 : Nat)
  let w : Int := (directedR E : Nat)
  let c0 := coefR E 0
  let c1 := coefR E 1
  let c2 := coefR E 2
  let c3 := coefR E 3
  r.length == 5 && r.getD 0 0 == 0 && r.getD 4 0 == 1 && decide (r1 ≤ 7) && decide (r2 ≤ 7) && decide (r3 ≤ 7) && decide (1 ≤ w) && decide (w ≤ 24) &&
  c3 == 1 && c2 == r3 - 6 && c1 == r2 - 3 * r3 + 11 && c0 == r1 - r2 + 2 * r3 - 6 && c0 - c1 + c2 - c3 == -w
noncomputable def ofBits (a b c d e f : Bool) : Nat → Bool := fun k => [a, b, c, d, e, f].getD k false
theorem facts_all : ∀ a b c d e f : Bool, factsOk (edgesB (ofBits a b c d e f)) = true := by decide +kernel
theorem edges_all : ∀ a b c d e f : Bool, (decide ((edgesB (ofBits a b c d e f)).length ≤ 6) && (edgesB (ofBits a b c d e f)).all fun e => decide (e.1 < e.2) && decide (e.2 < 4)) = true := by decide +kernel
theorem edgesB_eq (b : Nat → Bool) : edgesB b = edgesB (ofBits (b 0) (b 1) (b 2) (b 3) (b 4) (b 5)) := by
  unfold edgesB
  refine congrArg _ (List.filter_congr fun k hk => ?_)
  have := List.mem_range.mp hk
  match k, this with
  | 0, _ | 1, _ | 2, _ | 3, _ | 4, _ | 5, _ => rfl
end Mine
end

noncomputable section
open PySem PySem.W PyProof.Rows
namespace Mine

noncomputable def hornN (x r1 r2 r3 : Nat) : Nat := x * (r1 + (x - 1) * (r2 + (x - 2) * (r3 + (x - 3))))
theorem poly_id (y r1 r2 r3 : Int) : (0 : Int) + ((r1 - r2 + 2 * r3 - 6) + ((r2 - 3 * r3 + 11) + ((r3 - 6) + (1 + 0 * (y + 3)) * (y + 3)) * (y + 3)) * (y + 3)) * (y + 3) = (y + 3) * (r1 + (y + 2) * (r2 + (y + 1) * (r3 + y))) := by grind
theorem num_eq {w : Nat} (hw : 5 ≤ w) {c0 c1 c2 c3 : Int} {r1 r2 r3 : Nat} (h3 : c3 = 1) (h2 : c2 = (r3 : Int) - 6) (h1 : c1 = (r2 : Int) - 3 * r3 + 11) (h0 : c0 = (r1 : Int) - r2 + 2 * r3 - 6) :
    dval w [0, c0, c1, c2, c3] = ((hornN (2 ^ w) r1 r2 r3 : Nat) : Int) := by
  have hp : 2 ^ 5 ≤ 2 ^ w := Nat.pow_le_pow_right (by decide) hw
  obtain ⟨y, hy⟩ : ∃ y, 2 ^ w = y + 3 := ⟨2 ^ w - 3, by lia⟩
  have e : (2 : Int) ^ w = ((y : Int) + 3) := by rw [← natCast_pow2, hy]; push_cast; rfl
  unfold hornN
  rw [hy, show y + 3 - 1 = y + 2 from rfl, show y + 3 - 2 = y + 1 from rfl, show y + 3 - 3 = y from rfl]
  show 0 + (c0 + (c1 + (c2 + (c3 + 0 * (2 : Int) ^ w) * (2 : Int) ^ w) * (2 : Int) ^ w) * (2 : Int) ^ w) * (2 : Int) ^ w = _
  rw [e, h0, h1, h2, h3, poly_id]
  push_cast; rfl
theorem horn_step {r m h : Nat} (hr : r < m) : (r + m * h) / m = h ∧ (r + m * h) % m = r :=
  ⟨by rw [Nat.add_mul_div_left _ _ (by lia), Nat.div_eq_of_lt hr, Nat.zero_add], by rw [Nat.add_mul_mod_self_left, Nat.mod_eq_of_lt hr]⟩
noncomputable def quoN (x N : Nat) : Nat → Nat
  | 0 => N
  | j + 1 => quoN x N j / (x - j)
theorem quoN_s {x N j : Nat} : quoN x N (j + 1) = quoN x N j / (x - j) := rfl
theorem quo_all {x r1 r2 r3 : Nat} (hx : 32 ≤ x) (h1 : r1 ≤ 7) (h2 : r2 ≤ 7) (h3 : r3 ≤ 7) :
    ((List.range 4).map fun j => quoN x (hornN x r1 r2 r3) j % (x - j)) ++ [quoN x (hornN x r1 r2 r3) 4] = [0, r1, r2, r3, 1] := by
  have e0 : hornN x r1 r2 r3 = 0 + (x - 0) * (r1 + (x - 1) * (r2 + (x - 2) * (r3 + (x - 3) * 1))) := by
    unfold hornN
    rw [Nat.zero_add, Nat.sub_zero, Nat.mul_one]
  obtain ⟨a1, b1⟩ := horn_step (r := 0) (m := x - 0) (h := r1 + (x - 1) * (r2 + (x - 2) * (r3 + (x - 3) * 1))) (by lia)
  obtain ⟨a2, b2⟩ := horn_step (r := r1) (m := x - 1) (h := r2 + (x - 2) * (r3 + (x - 3) * 1)) (by lia)
  obtain ⟨a3, b3⟩ := horn_step (r := r2) (m := x - 2) (h := r3 + (x - 3) * 1) (by lia)
  obtain ⟨a4, b4⟩ := horn_step (r := r3) (m := x - 3) (h := 1) (by lia)
  have q0 : quoN x (hornN x r1 r2 r3) 0 = 0 + (x - 0) * (r1 + (x - 1) * (r2 + (x - 2) * (r3 + (x - 3) * 1))) := e0
  have q1 : quoN x (hornN x r1 r2 r3) 1 = r1 + (x - 1) * (r2 + (x - 2) * (r3 + (x - 3) * 1)) := by rw [quoN_s, q0, a1]
  have q2 : quoN x (hornN x r1 r2 r3) 2 = r2 + (x - 2) * (r3 + (x - 3) * 1) := by rw [quoN_s, q1, a2]
  have q3 : quoN x (hornN x r1 r2 r3) 3 = r3 + (x - 3) * 1 := by rw [quoN_s, q2, a3]
  have q4 : quoN x (hornN x r1 r2 r3) 4 = 1 := by rw [quoN_s, q3, a4]
  show [_ % (x - 0), _ % (x - 1), _ % (x - 2), _ % (x - 3)] ++ [_] = _
  rw [q0, q1, q2, q3, q4, b1, b2, b3, b4]; rfl
theorem dir_id (y r1 r2 r3 w : Int) (h : (r1 - r2 + 2 * r3 - 6) - (r2 - 3 * r3 + 11) + (r3 - 6) - 1 = -w) : r1 + (y + 2) * (r2 + (y + 1) * (r3 + y)) = (y + 4 - w) + (y + 4) * (((r2 - 3 * r3 + 11) + (r3 - 6) * (y + 2) + (y * y + 5 * y + 7)) - 1) := by grind
theorem dir_mod {x r1 r2 r3 w : Nat} (hx : 32 ≤ x) (hw1 : 1 ≤ w) (hw : w ≤ 24) (h : ((r1 : Int) - r2 + 2 * r3 - 6) - ((r2 : Int) - 3 * r3 + 11) + ((r3 : Int) - 6) - 1 = -(w : Int)) :
    hornN x r1 r2 r3 % (x * (x + 1)) = x * (x + 1 - w) := by
  unfold hornN
  rw [Nat.mul_mod_mul_left]
  congr 1
  obtain ⟨y, rfl⟩ : ∃ y, x = y + 3 := ⟨x - 3, by lia⟩
  rw [show y + 3 - 1 = y + 2 from rfl, show y + 3 - 2 = y + 1 from rfl, show y + 3 - 3 = y from rfl]
  have := dir_id y r1 r2 r3 w h
  have e : (((r1 + (y + 2) * (r2 + (y + 1) * (r3 + y)) : Nat)) : Int) % (((y + 3 + 1 : Nat)) : Int) = ((y + 3 + 1 - w : Nat) : Int) := by
    rw [show (((r1 + (y + 2) * (r2 + (y + 1) * (r3 + y)) : Nat)) : Int) = (r1 : Int) + ((y : Int) + 2) * (r2 + (y + 1) * (r3 + y)) by push_cast; rfl, this, show (((y + 3 + 1 : Nat)) : Int) = (y : Int) + 4 by push_cast; lia, Int.add_mul_emod_self_left, Int.emod_eq_of_lt (by lia) (by lia)]
    lia
  exact Int.ofNat.inj (by rw [← Int.natCast_emod] at e; exact e)
theorem horn_lt {x r1 r2 r3 : Nat} (hx : 32 ≤ x) (h1 : r1 ≤ 7) (h2 : r2 ≤ 7) (h3 : r3 ≤ 7) : hornN x r1 r2 r3 < x * (x * (x * (x * x))) := by
  unfold hornN
  have e3 : r3 + (x - 3) < x * x := by
    have : 32 * x ≤ x * x := Nat.mul_le_mul_right _ hx
    lia
  have step : ∀ {r m h H : Nat}, r ≤ 7 → m + 1 ≤ x → 32 ≤ H → h < H → r + m * h < x * H := fun {r m h H} hr hm hH hh => by
    have a1 : m * h ≤ m * H := Nat.mul_le_mul_left _ (Nat.le_of_lt hh)
    have a2 : (m + 1) * H ≤ x * H := Nat.mul_le_mul_right _ hm
    rw [Nat.add_mul, Nat.one_mul] at a2
    lia
  have p2 : 32 ≤ x * x := Nat.le_trans hx (Nat.le_mul_of_pos_left _ (by lia))
  have p3 : 32 ≤ x * (x * x) := Nat.le_trans p2 (Nat.le_mul_of_pos_left _ (by lia))
  have e2 := step h2 (m := x - 2) (by lia) p2 e3
  have e1 := step h1 (m := x - 1) (by lia) p3 e2
  exact Nat.mul_lt_mul_of_pos_left e1 (by lia)
end Mine
end

noncomputable section
open PySem PySem.W PyProof.Rows
set_option maxRecDepth 100000
namespace Mine
variable {C : Cx} {k : Nat} {sc : Scope} {ns : List Str} {Γ : List Sl} {e : Expr}

theorem ndig_le {n a t : Nat} (h : nbits a ≤ n * t) (hn : 0 < n) : ndig n a ≤ t := by
  unfold ndig
  have : (nbits a + n - 1) / n < t + 1 := (Nat.div_lt_iff_lt_mul hn).mpr (by rw [Nat.add_mul, Nat.one_mul, Nat.mul_comm t n]; lia)
  lia
noncomputable abbrev nsLaw : List Str := ["script", "own", "cells", "pairs", "edges", "width", "base", "mail", "rows", "tail", "left", "hidden", "turned", "due", "seen", "unseen", "digits", "number", "told", "what", "k", "rest", "ways", "more"]
structure GLaw (C : Cx) (ft fc fw fo fdt fr fd fl fi fs a1 a2 a3 fq fp fe d2 d3 i2 di dp : Addr) : Prop where
  P : GPre C
  col : GCol C fc ft a1 a2 a3 fq fp fe
  whole : GWhole C fw
  out : GOut C fo
  dots : GDots C fdt
  rooms : GRooms C fr
  dir : GDir C fd
  strip : GStrip C fi fs
  pos : GPos C d2 d3 i2 di dp
  law : Df C PG 27 "law" ["script"] nsLaw fl
variable {ft fc fw fo fdt fr fd fl fi fs a1 a2 a3 fq fp fe d2 d3 i2 di dp : Addr}

theorem quo_le (x N : Nat) : ∀ j, quoN x N j ≤ N
  | 0 => Nat.le_refl _
  | j + 1 => Nat.le_trans (Nat.div_le_self _ _) (quo_le x N j)
theorem pos_call (G : GPos C d2 d3 i2 di dp) {a b w : Nat} (ha : nbits a ≤ w * 5) (hw : 0 < w) (hb : 2 ^ (w - 1) ≤ b) (hb2 : b < 2 ^ 8999) : Fn C 12 dp [.int (a : Nat), .int (b : Nat)] (.tuple [.int (a / b : Nat), .int (a % b : Nat)]) := by
  have h1 : w ≤ nbits b := by have := nbits_ge hb; lia
  have h2 : ndig (nbits b) a ≤ 5 := ndig_le (Nat.le_trans ha (Nat.mul_le_mul_right _ h1)) (by lia)
  exact (fn_pos G (K := 6) (Nat.lt_of_lt_of_le (Nat.two_pow_pos _) hb) (nbits_le hb2) (by lia) (by lia) (by lia)).mono (by lia)
structure Facts (E : List Edge) (r1 r2 r3 ways : Nat) : Prop where
  rooms : roomsR E = [0, r1, r2, r3, 1]
  h1 : r1 ≤ 7
  h2 : r2 ≤ 7
  h3 : r3 ≤ 7
  dir : directedR E = ways
  w1 : 1 ≤ ways
  w2 : ways ≤ 24
  id : ((r1 : Int) - r2 + 2 * r3 - 6) - ((r2 : Int) - 3 * r3 + 11) + ((r3 : Int) - 6) - 1 = -(ways : Int)
  c3 : coefR E 3 = 1
  c2 : coefR E 2 = (r3 : Int) - 6
  c1 : coefR E 1 = (r2 : Int) - 3 * r3 + 11
  c0 : coefR E 0 = (r1 : Int) - r2 + 2 * r3 - 6
theorem horn_bits {w r1 r2 r3 : Nat} (hw : 5 ≤ w) (h1 : r1 ≤ 7) (h2 : r2 ≤ 7) (h3 : r3 ≤ 7) : hornN (2 ^ w) r1 r2 r3 < 2 ^ (w * 5) := by
  have hp : 2 ^ 5 ≤ 2 ^ w := Nat.pow_le_pow_right (by decide) hw
  have := horn_lt (x := 2 ^ w) hp h1 h2 h3
  rw [← Nat.pow_add, ← Nat.pow_add, ← Nat.pow_add, ← Nat.pow_add] at this
  rwa [show w * 5 = w + (w + (w + (w + w))) by lia]
theorem pow_lt {a b : Nat} (h : a < b) : 2 ^ a < 2 ^ b := (Nat.pow_lt_pow_iff_right (by decide)).mpr h
noncomputable abbrev stC (E : List Edge) (X N : Nat) (d0 d1 d2 d3 d5 d7 d8 d9 d10 d11 d12 d13 d14 d15 d16 : PyData) (t : List Sl) : List Sl :=
  .v d0 :: .v d1 :: .v d2 :: .v d3 :: .v (.list (E.map edgeD)) :: .v d5 :: .v (.int ((X : Nat) : Int)) :: .v d7 :: .v d8 :: .v d9 :: .v d10 :: .v d11 :: .v d12 :: .v d13 :: .v d14 :: .v d15 :: .v d16 :: .v (.int (N : Nat)) :: t
variable {e0 e1 e2 e3 e5 e7 e8 e9 e10 e11 e12 e13 e14 e15 e16 : PyData}
set_option maxHeartbeats 8000000 in
theorem law_end (G : GLaw C ft fc fw fo fdt fr fd fl fi fs a1 a2 a3 fq fp fe d2 d3 i2 di dp) {E : List Edge} (hE : EdgesOk E) {w r1 r2 r3 ways : Nat} (hw : 5 ≤ w) (hw2 : w ≤ 4404) (H : Facts E r1 r2 r3 ways) {t0 : PyData} {b20 b21 : Sl} :
    Ex C 12 (scopeAt PG 27) nsLaw (stC E (2 ^ w) (hornN (2 ^ w) r1 r2 r3) e0 e1 e2 e3 e5 e7 e8 e9 e10 e11 e12 e13 e14 e15 e16 [.own [.int (0 : Nat), .int (r1 : Nat), .int (r2 : Nat), .int (r3 : Nat)], .v (.int ((1 : Nat) : Int)), b20, b21, .un, .un]) ((bodyAt PG 27).drop 20) (fun o => o = .ret (.bool true)) := by
  have W := G.P.W
  have hs := sizeLine_eq
  have hp : 2 ^ 5 ≤ 2 ^ w := Nat.pow_le_pow_right (by decide) hw
  have hN := horn_bits hw H.h1 H.h2 H.h3
  have hNb := nbits_le hN
  have hrooms : Fn C 12 fr [.list (E.map edgeD)] (.list (nearI (roomsR E))) := by
    have := fn_rooms (k := 11) G.rooms hE
    rwa [intD] at this
  have hdir := fn_directed (k := 11) G.dir hE
  have hmod := dir_mod (x := 2 ^ w) hp H.w1 H.w2 H.id
  rw [H.rooms] at hrooms
  rw [H.dir] at hdir
  generalize hNN : hornN (2 ^ w) r1 r2 r3 = N at *
  have hbb : 2 ^ w * (2 ^ w + 1) < 2 ^ (2 * w + 1) := by
    have e1 : 2 ^ (2 * w + 1) = 2 ^ w * (2 ^ w * 2) := by rw [← Nat.pow_succ, ← Nat.pow_add]; congr 1; lia
    rw [e1]
    exact Nat.mul_lt_mul_of_pos_left (by lia) (by lia)
  have hbb2 : 2 ^ w * (2 ^ w + 1) < 2 ^ 8999 := Nat.lt_trans hbb (pow_lt (by lia))
  have hbb3 : 2 ^ (w - 1) ≤ 2 ^ w * (2 ^ w + 1) := Nat.le_trans (Nat.pow_le_pow_right (by decide) (by lia)) (Nat.le_mul_of_pos_right _ (by lia))
  have hpos := pos_call (a := N) G.pos hNb (by lia) hbb3 hbb2
  have hX : nbits (2 ^ w) ≤ w + 1 := nbits_le (pow_lt (by lia))
  have hX1 : 2 ^ w + 1 < 2 ^ (w + 1) := by rw [Nat.pow_succ]; lia
  have hX1b := nbits_le hX1
  have hbase : BinOk C 12 .Mult (.int ((2 ^ w : Nat) : Int)) (.int ((2 ^ w + 1 : Nat) : Int)) (.int ((2 ^ w * (2 ^ w + 1) : Nat) : Int)) := BinOk.mulN (by lia)
  have hsub : BinOk C 12 .Sub (.int ((2 ^ w + 1 : Nat) : Int)) (.int ((ways : Nat) : Int)) (.int ((2 ^ w + 1 - ways : Nat) : Int)) := BinOk.subN (by have := H.w2; lia)
  have hXw : nbits (2 ^ w + 1 - ways) ≤ w + 1 := nbits_le (Nat.lt_of_le_of_lt (Nat.sub_le _ _) hX1)
  have hbase2 : BinOk C 12 .Mult (.int ((2 ^ w : Nat) : Int)) (.int ((2 ^ w + 1 - ways : Nat) : Int)) (.int ((2 ^ w * (2 ^ w + 1 - ways) : Nat) : Int)) := BinOk.mulN (by lia)
  have hQ : nbits (N / (2 ^ w * (2 ^ w + 1))) ≤ w * 5 := nbits_le (Nat.lt_of_le_of_lt (Nat.div_le_self _ _) hN)
  have hm1 : BinOk C 12 .Mult (.int ((N / (2 ^ w * (2 ^ w + 1)) : Nat) : Int)) (.int ((2 ^ w : Nat) : Int)) (.int ((N / (2 ^ w * (2 ^ w + 1)) * 2 ^ w : Nat) : Int)) := BinOk.mulN (by lia)
  have hm1b : nbits (N / (2 ^ w * (2 ^ w + 1)) * 2 ^ w) ≤ w * 6 := nbits_le (by
    have q : N / (2 ^ w * (2 ^ w + 1)) < 2 ^ (w * 5) := Nat.lt_of_le_of_lt (Nat.div_le_self _ _) hN
    have e2 : 2 ^ (w * 6) = 2 ^ (w * 5) * 2 ^ w := by rw [← Nat.pow_add]; congr 1
    rw [e2]
    exact Nat.mul_lt_mul_of_pos_right q (by lia))
  have hm2 : BinOk C 12 .Mult (.int ((N / (2 ^ w * (2 ^ w + 1)) * 2 ^ w : Nat) : Int)) (.int ((2 ^ w + 1 : Nat) : Int)) (.int ((N / (2 ^ w * (2 ^ w + 1)) * 2 ^ w * (2 ^ w + 1) : Nat) : Int)) := BinOk.mulN (by lia)
  have hfin : N / (2 ^ w * (2 ^ w + 1)) * 2 ^ w * (2 ^ w + 1) + N % (2 ^ w * (2 ^ w + 1)) = N := by
    rw [Nat.mul_assoc, Nat.mul_comm]; exact Nat.div_add_mod N _
  generalize 2 ^ w = X at *
  generalize hq : N / (X * (X + 1)) = Q at *
  generalize hr : N % (X * (X + 1)) = R at *
  subst hmod
  have hl : BinOk C 12 .Add (.list [.int (0 : Nat), .int (r1 : Nat), .int (r2 : Nat), .int (r3 : Nat)]) (.list [.int ((1 : Nat) : Int)]) (.list (nearI [0, r1, r2, r3, 1])) := BinOk.addL (by show 4 + 1 ≤ _; lia)
  have heqr : (!PyData.eqv (.list (nearI [0, r1, r2, r3, 1])) (.list (nearI [0, r1, r2, r3, 1]))) = false := by
    rw [PySem.SeqAt.eqv_refl (.list (nearI [0, r1, r2, r3, 1])) (canLay_ints _)]; rfl
  refine Ex.ite W (b := false) (Ts.cast (Ts.cmp W (Ev.bin W (Ev.loc 18) (Ev.list W (.cons (Ev.loc 19) .nil)) hl) (G.rooms.d.call W rfl (.cons (Ev.loc 4) .nil) hrooms) (CmpOk.ne (shaped_ints _) (shaped_ints _))) heqr) (fun z => by cases z) (fun _ => Ex.nil ?_)
  refine Ex.assign W 22 (G.dir.d.call W rfl (.cons (Ev.loc 4) .nil) hdir) ?_
  refine Ex.assign W 23 (G.pos.pos.call W rfl (.cons (Ev.loc 17) (.cons (Ev.bin W (Ev.loc 6) (Ev.bin W (Ev.loc 6) (Ev.int (i := ((1 : Nat) : Int))) BinOk.addN) hbase) .nil)) hpos) ?_
  have hev : PyData.eqv (.tuple [.int (Q : Nat), .int (X * (X + 1 - ways) : Nat)]) (.tuple [.int (Q : Nat), .int (X * (X + 1 - ways) : Nat)]) = true := PySem.SeqAt.eqv_refl _ rfl
  have he2 : (((Q * X * (X + 1) + X * (X + 1 - ways) : Nat) : Int) == ((N : Nat) : Int)) = true := by rw [hfin]; exact beq_self_eq_true _
  refine Ex.ret W (Ev.and W (a := true) (b := true) (Ev.cast (Ev.cmp W (Ev.loc 23) (Ev.tuple W (.cons (Ev.itemT (i := 0) W (Ev.loc 23) Ev.int (by decide) (by decide) rfl) (.cons (Ev.bin W (Ev.loc 6) (Ev.bin W (Ev.bin W (Ev.loc 6) (Ev.int (i := ((1 : Nat) : Int))) BinOk.addN) (Ev.loc 22) hsub) hbase2) .nil))) (CmpOk.eq rfl rfl)) (by rw [hev])) (fun _ => Ev.cast (Ev.cmp W (Ev.bin W (Ev.bin W (Ev.bin W (Ev.itemT (i := 0) W (Ev.loc 23) Ev.int (by decide) (by decide) rfl) (Ev.loc 6) hm1) (Ev.bin W (Ev.loc 6) (Ev.int (i := ((1 : Nat) : Int))) BinOk.addN) hm2) (Ev.itemT (i := 1) W (Ev.loc 23) Ev.int (by decide) (by decide) rfl) BinOk.addN) (Ev.loc 17) CmpOk.eqi) (by rw [he2]))) rfl
end Mine
end

noncomputable section
open PySem PySem.W PyProof.Rows
set_option maxRecDepth 100000
namespace Mine
variable {C : Cx} {k : Nat} {sc : Scope} {ns : List Str} {Γ : List Sl} {e : Expr}
variable {ft fc fw fo fdt fr fd fl fi fs a1 a2 a3 fq fp fe d2 d3 i2 di dp : Addr} {e0 e1 e2 e3 e5 e7 e8 e9 e10 e11 e12 e13 e14 e15 e16 : PyData}

noncomputable def toldL (X N j : Nat) : List PyData := (List.range j).map fun i => PyData.int ((quoN X N i % (X - i) : Nat) : Int)
theorem told_succ (X N j : Nat) : toldL X N j ++ [.int ((quoN X N j % (X - j) : Nat) : Int)] = toldL X N (j + 1) := by
  unfold toldL
  rw [List.range_succ, List.map_append]; rfl
noncomputable def loopJ (E : List Edge) (w r1 r2 r3 : Nat) (e0 e1 e2 e3 e5 e7 e8 e9 e10 e11 e12 e13 e14 e15 e16 : PyData) (rem : List PyData) (Γ : List Sl) : Prop := ∃ (j : Nat) (a b : Sl), j ≤ 4 ∧ rem = ((List.range 4).drop j).map (fun (i : Nat) => PyData.int (i : Int)) ∧ Γ = stC E (2 ^ w) (hornN (2 ^ w) r1 r2 r3) e0 e1 e2 e3 e5 e7 e8 e9 e10 e11 e12 e13 e14 e15 e16 [.own (toldL (2 ^ w) (hornN (2 ^ w) r1 r2 r3) j), .v (.int ((quoN (2 ^ w) (hornN (2 ^ w) r1 r2 r3) j : Nat) : Int)), a, b, .un, .un]
theorem loopJ.mk {E : List Edge} {w r1 r2 r3 : Nat} {e0 e1 e2 e3 e5 e7 e8 e9 e10 e11 e12 e13 e14 e15 e16 : PyData} {rem : List PyData} (j : Nat) (a b : Sl) (h0 : j ≤ 4) (h1 : rem = ((List.range 4).drop j).map (fun (i : Nat) => PyData.int (i : Int))) : loopJ E w r1 r2 r3 e0 e1 e2 e3 e5 e7 e8 e9 e10 e11 e12 e13 e14 e15 e16 rem (stC E (2 ^ w) (hornN (2 ^ w) r1 r2 r3) e0 e1 e2 e3 e5 e7 e8 e9 e10 e11 e12 e13 e14 e15 e16 [.own (toldL (2 ^ w) (hornN (2 ^ w) r1 r2 r3) j), .v (.int ((quoN (2 ^ w) (hornN (2 ^ w) r1 r2 r3) j : Nat) : Int)), a, b, .un, .un]) := ⟨j, a, b, h0, h1, rfl⟩
theorem loopJ.elim {E : List Edge} {w r1 r2 r3 : Nat} {e0 e1 e2 e3 e5 e7 e8 e9 e10 e11 e12 e13 e14 e15 e16 : PyData} {rem : List PyData} {Γ : List Sl} {P : Prop} (h : loopJ E w r1 r2 r3 e0 e1 e2 e3 e5 e7 e8 e9 e10 e11 e12 e13 e14 e15 e16 rem Γ) (k : ∀ (j : Nat) (a b : Sl), (j ≤ 4) → (rem = ((List.range 4).drop j).map (fun (i : Nat) => PyData.int (i : Int))) → Γ = (stC E (2 ^ w) (hornN (2 ^ w) r1 r2 r3) e0 e1 e2 e3 e5 e7 e8 e9 e10 e11 e12 e13 e14 e15 e16 [.own (toldL (2 ^ w) (hornN (2 ^ w) r1 r2 r3) j), .v (.int ((quoN (2 ^ w) (hornN (2 ^ w) r1 r2 r3) j : Nat) : Int)), a, b, .un, .un]) → P) : P := by
  obtain ⟨j, a, b, h0, h1, rfl⟩ := h
  exact k j a b h0 h1 rfl
set_option maxHeartbeats 8000000 in
theorem law_loop (G : GLaw C ft fc fw fo fdt fr fd fl fi fs a1 a2 a3 fq fp fe d2 d3 i2 di dp) {E : List Edge} (hE : EdgesOk E) {w r1 r2 r3 ways : Nat} (hw : 5 ≤ w) (hw2 : w ≤ 4404) (H : Facts E r1 r2 r3 ways) :
    Ex C 12 (scopeAt PG 27) nsLaw (stC E (2 ^ w) (hornN (2 ^ w) r1 r2 r3) e0 e1 e2 e3 e5 e7 e8 e9 e10 e11 e12 e13 e14 e15 e16 [.un, .un, .un, .un, .un, .un]) ((bodyAt PG 27).drop 17) (fun o => o = .ret (.bool true)) := by
  have W := G.P.W
  have hs := sizeLine_eq
  have hp : 2 ^ 5 ≤ 2 ^ w := Nat.pow_le_pow_right (by decide) hw
  have hN := horn_bits hw H.h1 H.h2 H.h3
  have hq := quo_all (x := 2 ^ w) hp H.h1 H.h2 H.h3
  refine Ex.newOwn W 18 ?_
  refine Ex.assign W 19 (Ev.loc 17) ?_
  refine Ex.for W (Src.range (n := ((4 : Nat) : Int)) W rfl G.P.r0 G.P.r1 Ev.int (by lia) (by lia)) (loopJ E w r1 r2 r3 e0 e1 e2 e3 e5 e7 e8 e9 e10 e11 e12 e13 e14 e15 e16) ?_ ?_ ?_
  · exact (loopJ.mk 0 _ _ (Nat.zero_le _) rfl)
  · intro x rem Γ₁ hJ
    refine hJ.elim fun j a b hj hrem hΓ => ?_
    subst hΓ
    obtain ⟨hj, rfl, hrem'⟩ := range_next hrem
    refine ⟨_, AsgOk.name W 20, ?_⟩
    have hqb : nbits (quoN (2 ^ w) (hornN (2 ^ w) r1 r2 r3) j) ≤ w * 5 := nbits_le (Nat.lt_of_le_of_lt (quo_le _ _ _) hN)
    have hlow : 2 ^ (w - 1) ≤ 2 ^ w - j := by
      have e : 2 ^ w = 2 ^ (w - 1) * 2 := by rw [← Nat.pow_succ]; congr 1; lia
      lia
    have hhigh : 2 ^ w - j < 2 ^ 8999 := Nat.lt_of_le_of_lt (Nat.sub_le _ _) (pow_lt (by lia))
    have hpos := pos_call G.pos hqb (by lia) hlow hhigh
    have hts := told_succ (2 ^ w) (hornN (2 ^ w) r1 r2 r3) j
    have hlen : (toldL (2 ^ w) (hornN (2 ^ w) r1 r2 r3) j).length ≤ sizeLine := by unfold toldL; rw [List.length_map, List.length_range]; lia
    have hqs : quoN (2 ^ w) (hornN (2 ^ w) r1 r2 r3) (j + 1) = quoN (2 ^ w) (hornN (2 ^ w) r1 r2 r3) j / (2 ^ w - j) := rfl
    have hsub : BinOk C 12 .Sub (.int ((2 ^ w : Nat) : Int)) (.int ((j : Nat) : Int)) (.int ((2 ^ w - j : Nat) : Int)) := BinOk.subN (by lia)
    refine Ex.tup W (ds := [.int ((quoN (2 ^ w) (hornN (2 ^ w) r1 r2 r3) j / (2 ^ w - j) : Nat) : Int), .int ((quoN (2 ^ w) (hornN (2 ^ w) r1 r2 r3) j % (2 ^ w - j) : Nat) : Int)]) (.cons 19 (.cons 21 .nil)) (G.pos.pos.call W rfl (.cons (Ev.loc 19) (.cons (Ev.bin W (Ev.loc 6) (Ev.loc 20) hsub) .nil)) hpos) ?_
    refine Ex.append W 18 (Ev.loc 21) (Ex.nil ⟨j + 1, .v (.int ((j : Nat) : Int)), .v (.int ((quoN (2 ^ w) (hornN (2 ^ w) r1 r2 r3) j % (2 ^ w - j) : Nat) : Int)), by lia, hrem', ?_⟩) hlen
    rw [← hts, hqs]; rfl
  · intro Γ₁ hJ
    refine hJ.elim fun j a b hj hrem hΓ => ?_
    subst hΓ
    have hj : j = 4 := by have := range_done hrem; lia
    subst hj
    have h4 : toldL (2 ^ w) (hornN (2 ^ w) r1 r2 r3) 4 = [.int ((0 : Nat) : Int), .int (r1 : Nat), .int (r2 : Nat), .int (r3 : Nat)] ∧ quoN (2 ^ w) (hornN (2 ^ w) r1 r2 r3) 4 = 1 := by
      have h5 := List.append_inj' hq rfl (s₁ := (List.range 4).map fun j => quoN (2 ^ w) (hornN (2 ^ w) r1 r2 r3) j % (2 ^ w - j)) (s₂ := [0, r1, r2, r3]) (t₂ := [1])
      refine ⟨?_, List.singleton_inj.mp h5.2⟩
      have : toldL (2 ^ w) (hornN (2 ^ w) r1 r2 r3) 4 = ((List.range 4).map fun j => quoN (2 ^ w) (hornN (2 ^ w) r1 r2 r3) j % (2 ^ w - j)).map fun n => PyData.int ((n : Nat) : Int) := by unfold toldL; rw [List.map_map]; rfl
      rw [this, h5.1]; rfl
    rw [h4.1, h4.2]
    exact law_end G hE hw hw2 H (t0 := .none)
end Mine
end

noncomputable section
open PySem PySem.W PyProof.Rows
set_option maxRecDepth 100000
namespace Mine
variable {C : Cx} {k : Nat} {sc : Scope} {ns : List Str} {Γ : List Sl} {e : Expr}
variable {ft fc fw fo fdt fr fd fl fi fs a1 a2 a3 fq fp fe d2 d3 i2 di dp : Addr} {e0 e1 e2 e3 e5 e7 e8 e9 e10 e11 e12 e13 e14 e15 e16 : PyData}

theorem dval_abs {w : Nat} : ∀ (l : List Int), (∀ d ∈ l, d.natAbs < 2 ^ w) → (dval w l).natAbs < 2 ^ (w * l.length)
  | [], _ => Nat.one_pos
  | d :: l, h => by
    have h1 := dval_abs l fun x hx => h x (.tail _ hx)
    have h2 := h d (.head _)
    have e : (2 : Int) ^ w = ((2 ^ w : Nat) : Int) := (natCast_pow2 w).symm
    have h3 : (dval w (d :: l)).natAbs ≤ d.natAbs + (dval w l).natAbs * 2 ^ w := by
      show (d + dval w l * (2 : Int) ^ w).natAbs ≤ _
      refine Nat.le_trans (Int.natAbs_add_le _ _) ?_
      rw [Int.natAbs_mul, e, Int.natAbs_natCast]
      exact Nat.le_refl _
    have h4 : ((dval w l).natAbs + 1) * 2 ^ w ≤ 2 ^ (w * l.length) * 2 ^ w := Nat.mul_le_mul_right _ h1
    rw [Nat.add_mul, Nat.one_mul] at h4
    rw [List.length_cons, Nat.mul_succ, Nat.pow_add]
    lia
theorem bits_abs {x : Int} {m : Nat} (h : x.natAbs < 2 ^ m) : Builtin.Int.intBits x ≤ m := by
  have h1 := bits_le h
  have e : Builtin.Int.intBits ((x.natAbs : Nat) : Int) = Builtin.Int.intBits x := by
    unfold Builtin.Int.intBits
    rw [Int.natAbs_natCast]
    have : (((x.natAbs : Nat) : Int) == 0) = (x == 0) := by
      rw [Bool.eq_iff_iff, beq_iff_eq, beq_iff_eq]; lia
    rw [this]
  rwa [e] at h1
theorem count_ints (l : List Nat) (m : Nat) : ((nearI l).countP fun y => PyData.eqv y (.int ((m : Nat) : Int))) = l.count m := by
  unfold nearI
  rw [List.map_map, List.countP_map]
  exact List.countP_congr fun a _ => by
    show ((((a : Nat) : Int) == ((m : Nat) : Int)) = true) ↔ _
    rw [int_eq]
noncomputable abbrev stB (E : List Edge) (w X : Nat) (L Hd : List Nat) (d0 d1 d2 d3 d7 d8 d9 d12 d13 : PyData) : List Sl :=
  [.v d0, .v d1, .v d2, .v d3, .v (.list (E.map edgeD)), .v (.int ((w : Nat) : Int)), .v (.int ((X : Nat) : Int)), .v d7, .v d8, .v d9, .v (.str (mkS L)), .v (.str (mkS Hd)), .v d12, .v d13, .un, .un, .un, .un, .un, .un, .un, .un, .un, .un]
set_option maxHeartbeats 8000000 in
theorem law_num (G : GLaw C ft fc fw fo fdt fr fd fl fi fs a1 a2 a3 fq fp fe d2 d3 i2 di dp) {E : List Edge} (hE : EdgesOk E) {w r1 r2 r3 ways : Nat} (hw : 5 ≤ w) (hw2 : w ≤ 4404) (H : Facts E r1 r2 r3 ways) {L Hd : List Nat}
    (hL : dotsOf L = (outD false (dotR 3 E)).map fun n => ((n : Nat) : Int)) (hH : dotsOf Hd = (outD true (dotR 3 E)).map fun n => ((n : Nat) : Int)) (hLl : L.length ≤ 1000000) (hHl : Hd.length ≤ 1000000) :
    Ex C 12 (scopeAt PG 27) nsLaw (stB E w (2 ^ w) L Hd e0 e1 e2 e3 e7 e8 e9 e12 e13) ((bodyAt PG 27).drop 13) (fun o => o = .ret (.bool true)) := by
  have W := G.P.W
  have hs := sizeLine_eq
  have hsz : ∀ m, m < 5 → w * m ≤ 4404 * m := fun m _ => Nat.mul_le_mul_right _ hw2
  have f1 := fn_dots (k := 11) G.dots hLl
  have f2 := fn_dots (k := 11) G.dots hHl
  rw [hL] at f1
  rw [hH] at f2
  have f1 : Fn C 12 fdt [.str (mkS L)] (.list (nearI (outD false (dotR 3 E)))) := f1
  have f2 : Fn C 12 fdt [.str (mkS Hd)] (.list (nearI (outD true (dotR 3 E)))) := f2
  have hp : 2 ^ 5 ≤ 2 ^ w := Nat.pow_le_pow_right (by decide) hw
  have h1 := H.h1
  have h2 := H.h2
  have h3 := H.h3
  have hds : ∀ d ∈ [0, coefR E 0, coefR E 1, coefR E 2, coefR E 3], d.natAbs < 2 ^ w := fun d hd => by
    refine Nat.lt_of_lt_of_le ?_ hp
    simp only [List.mem_cons, List.not_mem_nil, or_false] at hd
    rcases hd with rfl | rfl | rfl | rfl | rfl
    · decide
    · rw [H.c0]; lia
    · rw [H.c1]; lia
    · rw [H.c2]; lia
    · rw [H.c3]; decide
  have hnum := num_eq hw H.c3 H.c2 H.c1 H.c0
  have hbits : ∀ j m : Nat, j + m ≤ [0, coefR E 0, coefR E 1, coefR E 2, coefR E 3].length → (Builtin.Int.intBits (dval w (([0, coefR E 0, coefR E 1, coefR E 2, coefR E 3].drop j).take m)) : Int) + w * ([0, coefR E 0, coefR E 1, coefR E 2, coefR E 3] : List Int).length ≤ 2 ^ 27 := fun j m hjm => by
    have hb := bits_abs (dval_abs _ fun d hd => hds d (List.mem_of_mem_drop (List.mem_of_mem_take hd)) : (dval w (([0, coefR E 0, coefR E 1, coefR E 2, coefR E 3].drop j).take m)).natAbs < 2 ^ (w * (([0, coefR E 0, coefR E 1, coefR E 2, coefR E 3].drop j).take m).length))
    have hl : (([0, coefR E 0, coefR E 1, coefR E 2, coefR E 3].drop j).take m).length ≤ 5 := by
      rw [List.length_take, List.length_drop]
      show min m (5 - j) ≤ 5
      lia
    have h5 := Nat.le_trans hb (Nat.mul_le_mul_left w hl)
    show _ + (w : Int) * ((5 : Nat) : Int) ≤ _
    lia
  have fnum := fn_d2i (n := w) (ds := [0, coefR E 0, coefR E 1, coefR E 2, coefR E 3]) W G.pos.d2i G.P.l0 G.P.l1 (by show 5 ≤ 1000; lia) hbits (by lia)
  rw [hnum] at fnum
  refine Ex.assign W 14 (G.dots.d.call W rfl (.cons (Ev.loc 10) .nil) f1) ?_
  refine Ex.assign W 15 (G.dots.d.call W rfl (.cons (Ev.loc 11) .nil) f2) ?_
  have hadd : BinOk C 12 .Add (.list [.int 0]) (.list ((List.range 4).map fun j => PyData.int (coefR E j))) (.list ([0, coefR E 0, coefR E 1, coefR E 2, coefR E 3].map .int)) := BinOk.addL (by rw [List.length_map, List.length_range]; show 1 + 4 ≤ _; lia)
  refine Ex.assign W 16 (Ev.bin W (Ev.list W (.cons Ev.int .nil)) (Ev.listComp W ["k"] ["seen", "unseen"] ((List.range 4).map fun j => [PyData.int (coefR E j)]) (ys := (List.range 4).map fun j => PyData.int (coefR E j)) (by decide +kernel) (xs := (List.range 4).map fun (i : Nat) => PyData.int (i : Int)) (Src.range (n := ((4 : Nat) : Int)) W rfl G.P.r0 G.P.r1 Ev.int (by lia) (by lia)) (All2.maps fun j hj ts hts => ?_) (by rw [flat_single, List.length_map, List.length_range]; lia) (flat_single _ _)) hadd) ?_
  · obtain ⟨t0, rfl⟩ := List.length_eq_one_iff.mp hts
    have hc : ∀ {k'} (l : List Nat), Bi C k' (.builtin "list.count") [.list (nearI l), .int ((j + 1 : Nat) : Int)] (.int (l.count (j + 1) : Nat)) := fun {k'} l => (Bi.countL rfl (fun y hy => by obtain ⟨q, _, rfl⟩ := List.mem_map.mp hy; rfl)).cast (by rw [count_ints])
    exact ⟨[.v (.int (j : Int))], rfl, AsgOk.name W 0, true, rfl, fun z => (by cases z), fun _ => ⟨.int (coefR E j), Ev.bin W (Ev.methL W (Ev.loc 1) (.cons (Ev.bin W (Ev.loc 0) (Ev.int (i := ((1 : Nat) : Int))) BinOk.addN) .nil) F.slot_list_count F.type_list_count (hc _)) (Ev.methL W (Ev.loc 2) (.cons (Ev.bin W (Ev.loc 0) (Ev.int (i := ((1 : Nat) : Int))) BinOk.addN) .nil) F.slot_list_count F.type_list_count (hc _)) BinOk.sub, rfl⟩⟩
  refine Ex.assign W 17 (Ev.call W rfl G.pos.d2i.glob G.pos.d2i.isFn (.cons (Ev.loc 16) (.cons (Ev.loc 5) .nil)) (fnum.mono (by show 5 + 1 ≤ 12; lia))) ?_
  exact law_loop G hE hw hw2 H
end Mine
end

noncomputable section
open PySem PySem.W PyProof.Rows
namespace Mine

theorem left_eq {t : Nat} (ht : t < 4) {en : Nat → List Nat} (he : ∀ i, en i ∈ Ends) (E : List Edge) : run [] none false (wholeL (tailL t) (colR en 3 E) ++ [34, 92]) = outL (tailL t) false (colR en 3 E) ++ [34, 92] := by
  have h := (strip_rows ht [34, 92] (colR en 3 E) (col_ends he 3 E) []).1
  rw [col_in] at h
  have h : run [] none false (wholeL (tailL t) (colR en 3 E) ++ [34, 92]) = run ([] ++ outL (tailL t) false (colR en 3 E)) none false [34, 92] := h
  rw [h]
  simp [run_e0, run_e1, run_n1, run_s1, run_n0, run_s0]
theorem hidden_eq {t : Nat} (ht : t < 4) {en : Nat → List Nat} (he : ∀ i, en i ∈ Ends) (E : List Edge) : run [] none false (34 :: (wholeL (tailL t) (colR en 3 E) ++ [92, 92, 34])) = outL (tailL t) true (colR en 3 E) := by
  have h := (strip_rows ht [92, 92, 34] (colR en 3 E) (col_ends he 3 E) []).2 [34]
  rw [col_in] at h
  obtain ⟨p, h⟩ : ∃ p, run [] (some [34]) false (wholeL (tailL t) (colR en 3 E) ++ [92, 92, 34]) = run ([] ++ outL (tailL t) true (colR en 3 E)) (some p) false [92, 92, 34] := h
  rw [run_n0, if_neg (by decide), if_pos rfl, h]
  simp [run_e0, run_e1, run_n1, run_s1, run_n0, run_s0]
theorem out_app (tail : List Nat) (c : List Row2) : ∀ (a : List Row2) (b : Bool), outL tail b (a ++ c) = outL tail b a ++ outL tail (inEnd b a) c
  | [], b => rfl
  | r :: a, b => by
    show outL tail b (r :: (a ++ c)) = _
    rw [outL_c, outL_c, inEnd_c]
    by_cases h : r.1 = 0
    · rw [if_pos h, if_pos h, if_pos h, out_app tail c a, List.append_assoc]
    · rw [if_neg h, if_neg h, if_neg h, out_app tail c a, List.append_assoc]
theorem turned_eq (tail : List Nat) (en : Nat → List Nat) (E : List Edge) : outL tail false ((0, []) :: (colR en 3 E ++ [(0, [])])) = outL tail true (colR en 3 E) := by
  show [] ++ outL tail true (colR en 3 E ++ [(0, [])]) = _
  rw [List.nil_append, out_app, col_in]
  show _ ++ ([] ++ []) = _
  rw [List.append_nil, List.append_nil]
theorem left_dots {t : Nat} (ht : t < 4) {en : Nat → List Nat} (he : ∀ i, en i ∈ Ends) (E : List Edge) : dotsOf (outL (tailL t) false (colR en 3 E) ++ [34, 92]) = (outD false (dotR 3 E)).map fun n => ((n : Nat) : Int) := by
  rw [dotsOf_eq, List.map_append]
  have := dots_out ht [34, 92] (colR en 3 E) (col_ends he 3 E) false
  rw [col_map] at this
  exact this.trans (List.append_nil _)
theorem hidden_dots {t : Nat} (ht : t < 4) {en : Nat → List Nat} (he : ∀ i, en i ∈ Ends) (E : List Edge) : dotsOf (outL (tailL t) true (colR en 3 E)) = (outD true (dotR 3 E)).map fun n => ((n : Nat) : Int) := by
  rw [dotsOf_eq]
  have := dots_out ht [] (colR en 3 E) (col_ends he 3 E) true
  rw [col_map, List.append_nil] at this
  exact this.trans (List.append_nil _)
theorem out_sub (tail : List Nat) : ∀ (rs : List Row2) (b : Bool), ∀ c ∈ outL tail b rs, c ∈ wholeL tail rs
  | [], _, c, h => by cases h
  | r :: rs, b, c, h => by
    rw [outL_c] at h
    show c ∈ rowL tail r ++ wholeL tail rs
    by_cases z : r.1 = 0
    · rw [if_pos z] at h
      rcases List.mem_append.mp h with h | h
      · refine List.mem_append.mpr (.inl ?_)
        unfold rowL
        rw [if_pos z]
        cases b
        · cases h
        · exact .tail _ h
      · exact List.mem_append.mpr (.inr (out_sub tail rs _ c h))
    · rw [if_neg z] at h
      rcases List.mem_append.mp h with h | h
      · cases b
        · exact List.mem_append.mpr (.inl h)
        · cases h
      · exact List.mem_append.mpr (.inr (out_sub tail rs _ c h))
end Mine
end

noncomputable section
open PySem PySem.W PyProof.Rows
set_option maxRecDepth 100000
namespace Mine
variable {C : Cx} {k : Nat} {sc : Scope} {ns : List Str} {Γ : List Sl} {e : Expr}
variable {ft fc fw fo fdt fr fd fl fi fs a1 a2 a3 fq fp fe d2 d3 i2 di dp : Addr} {e0 e1 e2 e3 e5 e7 e8 e9 e10 e11 e12 e13 e14 e15 e16 : PyData}

theorem facts_of (b : Nat → Bool) : ∃ r1 r2 r3 ways, Facts (edgesB b) r1 r2 r3 ways := by
  have h := facts_all (b 0) (b 1) (b 2) (b 3) (b 4) (b 5)
  rw [← edgesB_eq] at h
  unfold factsOk at h
  simp only [Bool.and_eq_true, beq_iff_eq, decide_eq_true_eq] at h
  obtain ⟨⟨⟨⟨⟨⟨⟨⟨⟨⟨⟨⟨q1, q2⟩, q3⟩, q4⟩, q5⟩, q6⟩, q7⟩, q8⟩, q9⟩, q10⟩, q11⟩, q12⟩, q13⟩ := h
  refine ⟨(roomsR (edgesB b)).getD 1 0, (roomsR (edgesB b)).getD 2 0, (roomsR (edgesB b)).getD 3 0, directedR (edgesB b), ?_, by lia, by lia, by lia, rfl, by lia, by lia, ?_, q9, q10, q11, q12⟩
  · have e : ∀ l : List Nat, l.length = 5 → l.getD 0 0 = 0 → l.getD 4 0 = 1 → l = [0, l.getD 1 0, l.getD 2 0, l.getD 3 0, 1] := fun l h1 h2 h3 => by
      match l, h1 with
      | [x0, x1, x2, x3, x4], _ =>
        have h2 : x0 = 0 := h2
        have h3 : x4 = 1 := h3
        rw [h2, h3]; rfl
    exact e _ q1 q2 q3
  · rw [q9, q10, q11, q12] at q13
    lia
theorem edges_ok (b : Nat → Bool) : EdgesOk (edgesB b) := by
  have h := edges_all (b 0) (b 1) (b 2) (b 3) (b 4) (b 5)
  rw [← edgesB_eq, Bool.and_eq_true, decide_eq_true_eq, List.all_eq_true] at h
  refine ⟨h.1, fun e he => ?_⟩
  have := h.2 e he
  rwa [Bool.and_eq_true, decide_eq_true_eq, decide_eq_true_eq] at this
theorem strip_fn (G : GStrip C fi fs) {l out : List Nat} (hl : l.length ≤ 100000) (h : run [] none false l = out) : Fn C 12 fs [.str (mkS l)] (.str (mkS out)) := by
  have := (fn_strip (k := 9) G (x := mkS l) (by have := sizeLine_eq; rw [mk_len]; lia)).mono (k' := 12) (by lia)
  rwa [SL_mk, h] at this
set_option maxHeartbeats 8000000 in
theorem law_mail (G : GLaw C ft fc fw fo fdt fr fd fl fi fs a1 a2 a3 fq fp fe d2 d3 i2 di dp) {b : Nat → Bool} {cs : List Int} (hc : cs.length = 6) {w : Nat} (hw : 5 ≤ w) (hw2 : w ≤ 4404) :
    Ex C 12 (scopeAt PG 27) nsLaw [.v e0, .v e1, .v (.list (cs.map .int)), .v e3, .v (.list ((edgesB b).map edgeD)), .v (.int ((w : Nat) : Int)), .v (.int ((2 ^ w : Nat) : Int)), .un, .un, .un, .un, .un, .un, .un, .un, .un, .un, .un, .un, .un, .un, .un, .un, .un] ((bodyAt PG 27).drop 6) (fun o => o = .ret (.bool true)) := by
  have W := G.P.W
  have hs := sizeLine_eq
  have hE := edges_ok b
  obtain ⟨r1, r2, r3, ways, H⟩ := facts_of b
  generalize edgesB b = E at *
  have hw8 := way_lt (cs.getD 0 0) 8
  have hen : ∀ i, enC cs i ∈ Ends := fun i => ends_mem _ (way_lt _ _)
  have hcap : E.length ≤ capE 3 := hE.1
  have hcol := (fn_coloured (k := 7) G.col (cs := cs) (by lia) 3 (by lia) E hcap).mono (k' := 12) (by lia)
  have hrl : (colR (enC cs) 3 E).length ≤ 6823 := col_cap 3 (by lia) E hcap
  have hok : ∀ r ∈ colR (enC cs) 3 E, r.1 ≤ 4 ∧ r.2 ∈ Ends := fun r hr => ⟨col_dots _ _ r hr, col_ends hen _ _ r hr⟩
  have hwl : (wholeL (tlC cs) (colR (enC cs) 3 E)).length ≤ _ := whole_len hw8 hok
  have htl : (tlC cs).length ≤ 3 := tail_len _ hw8
  have hsmall : RowsSmall (colR (enC cs) 3 E) := ⟨by lia, fun r hr => ⟨by have := (hok r hr).1; lia, by have := end_len _ (hok r hr).2; lia⟩⟩
  have hmem : ∀ c ∈ wholeL (tlC cs) (colR (enC cs) 3 E), c < 128 := whole_mem hw8 fun r hr => (hok r hr).2
  have hout : ∀ b', (outL (tlC cs) b' (colR (enC cs) 3 E)).length ≤ (wholeL (tlC cs) (colR (enC cs) 3 E)).length := fun b' => outL_len _ _ b'
  have hleft : run [] none false (wholeL (tlC cs) (colR (enC cs) 3 E) ++ [34, 92]) = outL (tlC cs) false (colR (enC cs) 3 E) ++ [34, 92] := left_eq hw8 hen E
  have hhid : run [] none false (([34] ++ wholeL (tlC cs) (colR (enC cs) 3 E)) ++ [92, 92, 34]) = outL (tlC cs) true (colR (enC cs) 3 E) := (congrArg _ (List.append_assoc ..)).trans (hidden_eq hw8 hen E)
  have hturn := turned_eq (tlC cs) (enC cs) E
  have hd1 : dotsOf (outL (tlC cs) false (colR (enC cs) 3 E) ++ [34, 92]) = _ := left_dots hw8 hen E
  have hd2 : dotsOf (outL (tlC cs) true (colR (enC cs) 3 E)) = _ := hidden_dots hw8 hen E
  have hm1 : ∀ c ∈ outL (tlC cs) false (colR (enC cs) 3 E) ++ [34, 92], c < 128 := fun c hc => by
    rcases List.mem_append.mp hc with hc | hc
    · exact hmem c (out_sub _ _ _ c hc)
    · simp only [List.mem_cons, List.not_mem_nil, or_false] at hc
      rcases hc with rfl | rfl <;> decide
  have hm2 : ∀ c ∈ outL (tlC cs) true (colR (enC cs) 3 E), c < 128 := fun c hc => hmem c (out_sub _ _ _ c hc)
  have ftail := fn_tail (k := 11) G.col.T (cs := cs) (by lia)
  have ftail : Fn C 12 ft [.list (cs.map .int)] (.str (mkS (tlC cs))) := ftail
  have fwhole := fn_whole (k := 11) G.whole (tail := tlC cs) (by lia) hsmall (by lia)
  have fout := fn_outside (k := 11) G.out (tail := tlC cs) (by lia) hsmall (by lia)
  have hsmall2 : RowsSmall ((0, []) :: (colR (enC cs) 3 E ++ [(0, [])])) := ⟨by rw [List.length_cons, List.length_append]; show _ + 1 + 1 ≤ _; lia, fun r hr => by
    rcases List.mem_cons.mp hr with rfl | hr
    · exact ⟨Nat.zero_le _, Nat.zero_le _⟩
    · rcases List.mem_append.mp hr with hr | hr
      · exact hsmall.2 r hr
      · rw [List.mem_singleton.mp hr]; exact ⟨Nat.zero_le _, Nat.zero_le _⟩⟩
  have hwl2 : (wholeL (tlC cs) ((0, []) :: (colR (enC cs) 3 E ++ [(0, [])]))).length ≤ 100000 := by
    show (34 :: [] ++ wholeL (tlC cs) (colR (enC cs) 3 E ++ [(0, [])])).length ≤ _
    rw [whole_app, List.length_append, List.length_append]
    show 1 + (_ + 1) ≤ _
    lia
  have fturn := fn_outside (k := 11) G.out (tail := tlC cs) (by lia) hsmall2 hwl2
  rw [hturn] at fturn
  have ho1 := hout false
  have ho2 := hout true
  have hnum := law_num (e0 := e0) (e1 := e1) (e2 := .list (cs.map .int)) (e3 := e3) (e7 := .str (mkS (wholeL (tlC cs) (colR (enC cs) 3 E)))) (e8 := .list ((colR (enC cs) 3 E).map rowD)) (e9 := .str (mkS (tlC cs))) (e12 := .list ((((0, []) :: (colR (enC cs) 3 E ++ [(0, [])])) : List Row2).map rowD))
    (e13 := .list [.str (mkS (wholeL (tlC cs) (colR (enC cs) 3 E))), .str (mkS (outL (tlC cs) false (colR (enC cs) 3 E) ++ [34, 92])), .str (mkS (outL (tlC cs) true (colR (enC cs) 3 E)))]) G hE hw hw2 H hd1 hd2 (by rw [List.length_append]; show _ + 2 ≤ _; lia) (by lia)
  generalize hR : colR (enC cs) 3 E = R at *
  generalize hM : wholeL (tlC cs) R = M at *
  generalize hO1 : outL (tlC cs) false R = O1 at *
  generalize hO2 : outL (tlC cs) true R = O2 at *
  have hcol : Fn C 12 fc [.int ((3 : Nat) : Int), .list (E.map edgeD), .list (cs.map .int)] (.tuple [.str (mkS M), .list (R.map rowD)]) := by
    unfold pairCol at hcol
    rw [hM] at hcol
    exact hcol
  have fs1 := strip_fn G.strip (l := M ++ [34, 92]) (by rw [List.length_append]; show _ + 2 ≤ _; lia) hleft
  have fs2 := strip_fn G.strip (l := ([34] ++ M) ++ [92, 92, 34]) (by rw [List.length_append, List.length_append]; show 1 + _ + 3 ≤ _; lia) hhid
  have x1 : ("\"\\" : Str) = mkS [34, 92] := by decide +kernel
  have x2 : ("\\\\\"" : Str) = mkS [92, 92, 34] := by decide +kernel
  have z0 : PyData.list [.tuple [.int 0, .str ""]] = .list [rowD (0, [])] := by rw [empty_mk]; rfl
  have za : BinOk C 12 .Add (.list [rowD (0, [])]) (.list (R.map rowD)) (.list (([(0, [])] ++ R).map rowD)) := (BinOk.addL (by rw [List.length_map]; show 1 + _ ≤ _; lia)).cast (by rw [List.map_append]; rfl)
  have zb : BinOk C 12 .Add (.list (([(0, [])] ++ R).map rowD)) (.list [rowD (0, [])]) (.list ((((0, []) :: (R ++ [(0, [])])) : List Row2).map rowD)) := (BinOk.addL (by rw [List.length_map, List.length_append]; show 1 + _ + 1 ≤ _; lia)).cast (by rw [show (((0, []) :: (R ++ [(0, [])])) : List Row2) = ([(0, [])] ++ R) ++ [(0, [])] from rfl, List.map_append (l₁ := [(0, [])] ++ R)]; rfl)
  refine Ex.tup W (ds := [.str (mkS M), .list (R.map rowD)]) (.cons 7 (.cons 8 .nil)) (G.col.d.call W rfl (.cons (Ev.int (i := ((3 : Nat) : Int))) (.cons (Ev.loc 4) (.cons (Ev.loc 2) .nil))) hcol) ?_
  refine Ex.assign W 9 (G.col.T.d.call W rfl (.cons (Ev.loc 2) .nil) ftail) ?_
  refine Ex.assign W 10 (G.strip.st.call W rfl (.cons (Ev.catM W (Ev.loc 7) (Ev.strM x1) (by show _ + 2 ≤ _; lia)) .nil) fs1) ?_
  refine Ex.assign W 11 (G.strip.st.call W rfl (.cons (Ev.catM W (Ev.catM W (Ev.strM mark_mk) (Ev.loc 7) (by show 1 + _ ≤ _; lia)) (Ev.strM x2) (by rw [List.length_append]; show 1 + _ + 3 ≤ _; lia)) .nil) fs2) ?_
  refine Ex.assign W 12 (Ev.bin W (Ev.bin W (Ev.cast (Ev.list W (.cons (Ev.tuple W (.cons Ev.int (.cons Ev.str .nil))) .nil)) z0) (Ev.loc 8) za) (Ev.cast (Ev.list W (.cons (Ev.tuple W (.cons Ev.int (.cons Ev.str .nil))) .nil)) z0) zb) ?_
  refine Ex.assign W 13 (Ev.list W (.cons (G.whole.d.call W rfl (.cons (Ev.loc 8) (.cons (Ev.loc 9) .nil)) fwhole) (.cons (Ev.catM W (G.out.d.call W rfl (.cons (Ev.loc 8) (.cons (Ev.loc 9) .nil)) fout) (Ev.strM x1) (by show _ + 2 ≤ _; lia)) (.cons (G.out.d.call W rfl (.cons (Ev.loc 12) (.cons (Ev.loc 9) .nil)) fturn) .nil)))) ?_
  have ok : ∀ x ∈ [mkS M, mkS (O1 ++ [34, 92]), mkS O2], PyData.strOk x = true := fun x hx => by
    simp only [List.mem_cons, List.not_mem_nil, or_false] at hx
    rcases hx with rfl | rfl | rfl
    · exact strOk_mk hmem
    · exact strOk_mk hm1
    · exact strOk_mk hm2
  have heqv : (!PyData.eqv (.list ([mkS M, mkS (O1 ++ [34, 92]), mkS O2].map .str)) (.list ([mkS M, mkS (O1 ++ [34, 92]), mkS O2].map .str))) = false := by rw [eqv_strs ok]; rfl
  exact Ex.ite W (b := false) (Ts.cast (Ts.cmp W (Ev.list W (.cons (Ev.loc 7) (.cons (Ev.loc 10) (.cons (Ev.loc 11) .nil)))) (Ev.loc 13) (CmpOk.ne (shaped_strs ok) (shaped_strs ok))) heqv) (fun z => by cases z) (fun _ => Ex.nil hnum)
end Mine
end

noncomputable section
open PySem PySem.W PyProof.Rows
set_option maxRecDepth 100000
namespace Mine
variable {C : Cx} {k : Nat} {sc : Scope} {ns : List Str} {Γ : List Sl} {e : Expr}
variable {ft fc fw fo fdt fr fd fl fi fs a1 a2 a3 fq fp fe d2 d3 i2 di dp : Addr}

theorem slice_step (script : List Int) (j : Nat) : ∃ ys : List Int, lslice (script.map .int) (some (j : Int)) none (some 6) = ys.map .int := lslice_ints _ _ _ _
noncomputable def pickL (script : List Int) (j : Nat) : List Int := (slice_step script j).choose
noncomputable def ownL : List Int := [10, 2, 7, 9, 0, 1]
noncomputable def cellL (script : List Int) (j : Nat) : Int := ownL.getD j 0 + (pickL script j).sum
theorem own_at {j : Nat} (h : j < 6) : ([PyData.int 10, .int 2, .int 7, .int 9, .int 0, .int 1])[((j : Int)).toNat]? = some (.int (ownL.getD j 0)) := by
  rw [Int.toNat_natCast]
  match j, h with
  | 0, _ | 1, _ | 2, _ | 3, _ | 4, _ | 5, _ => rfl
theorem pair_at {j : Nat} (h : j < 6) : (pairsN.map edgeD)[((j : Int)).toNat]? = some (edgeD (pairsN.getD j (0, 0))) := by
  rw [Int.toNat_natCast]
  match j, h with
  | 0, _ | 1, _ | 2, _ | 3, _ | 4, _ | 5, _ => rfl
set_option maxHeartbeats 8000000 in
theorem law_rest (G : GLaw C ft fc fw fo fdt fr fd fl fi fs a1 a2 a3 fq fp fe d2 d3 i2 di dp) {script : List Int} (hsz : script.length ≤ 1000) : Ex C 12 (scopeAt PG 27) nsLaw (([PyData.list (script.map .int)].map Sl.v ++ List.replicate 23 Sl.un).set 1 (.v (.list [.int 10, .int 2, .int 7, .int 9, .int 0, .int 1]))) ((bodyAt PG 27).drop 1) (fun o => o = .ret (.bool true)) := by
  have W := G.P.W
  have hs := sizeLine_eq
  have hcl : ((List.range 6).map (cellL script)).length = 6 := by rw [List.length_map, List.length_range]
  have hca : ∀ j, j < 6 → ((List.range 6).map (cellL script)).getD j 0 = cellL script j := fun j hj => by
    rw [List.getD_eq_getElem?_getD, List.getElem?_map, List.getElem?_range hj]; rfl
  refine Ex.assignS W 2 (Ev.listComp W ["k"] ["own", "script"] ((List.range 6).map fun j => [PyData.int (cellL script j)]) (ys := ((List.range 6).map (cellL script)).map .int) (by decide +kernel) (xs := (List.range 6).map fun (i : Nat) => PyData.int (i : Int)) (Src.range (n := ((6 : Nat) : Int)) W rfl G.P.r0 G.P.r1 Ev.int (by lia) (by lia)) (All2.maps fun j hj ts hts => ?_) (by rw [flat_single, List.length_map, List.length_range]; lia) (by rw [flat_single, List.map_map]; rfl)) ?_ (fun env h => swaps_cell h rfl)
  · obtain ⟨t0, rfl⟩ := List.length_eq_one_iff.mp hts
    have hj := List.mem_range.mp hj
    have hsum : Bi C 12 (.builtin "sum") [.list ((pickL script j).map .int)] (.int (pickL script j).sum) := Bi.sum W
    exact ⟨[.v (.int (j : Int))], rfl, AsgOk.name W 0, true, rfl, fun z => (by cases z), fun _ => ⟨.int (cellL script j), Ev.bin W (Ev.item (i := (j : Int)) W (Ev.loc 1) (Ev.loc 0) (by lia) (by lia) (own_at hj)) (Ev.callB W rfl G.P.s0 G.P.s1 (.cons (Ev.cast (Ev.sliceBy (lo' := some (j : Int)) (hi' := none) (st := 6) W (Ev.loc 2) (Ev.loc 0) trivial Ev.int (by decide) (by rw [List.length_map]; lia)) (by rw [(slice_step script j).choose_spec]; rfl)) .nil) hsum) BinOk.add, rfl⟩⟩
  obtain ⟨es, q1, q2, q3, hb, hes⟩ : ∃ es q1 q2 q3, (bodyAt PG 27).drop 2 = .Assign [.Name "pairs" q1] (.List es q2) q3 :: (bodyAt PG 27).drop 3 ∧ (∀ Γ, EvAll C 12 (scopeAt PG 27) nsLaw Γ es (pairsN.map edgeD)) :=
    ⟨_, _, _, _, rfl, fun Γ => .cons (Ev.tuple W (.cons Ev.int (.cons Ev.int .nil))) (.cons (Ev.tuple W (.cons Ev.int (.cons Ev.int .nil))) (.cons (Ev.tuple W (.cons Ev.int (.cons Ev.int .nil))) (.cons (Ev.tuple W (.cons Ev.int (.cons Ev.int .nil))) (.cons (Ev.tuple W (.cons Ev.int (.cons Ev.int .nil))) (.cons (Ev.tuple W (.cons Ev.int (.cons Ev.int .nil))) .nil)))))⟩
  show Ex _ _ _ _ _ ((bodyAt PG 27).drop 2) _
  rw [hb]
  refine Ex.assign W 3 (Ev.list W (hes _)) ?_
  refine Ex.assignComp W 4 ["k"] ["cells", "pairs"] ((List.range 6).map fun j => if ((cellL script j).fmod 2 == 1) = true then [edgeD (pairsN.getD j (0, 0))] else []) (ys := (edgesB fun j => (cellL script j).fmod 2 == 1).map edgeD) (by decide +kernel) (xs := (List.range 6).map fun (i : Nat) => PyData.int (i : Int)) (Src.range (n := ((6 : Nat) : Int)) W rfl G.P.r0 G.P.r1 Ev.int (by lia) (by lia)) (All2.maps fun j hj ts hts => ?_) (Nat.le_trans (flat_if _ _ _) (by rw [List.length_range]; lia)) (by rw [flat_filter (fun j => (cellL script j).fmod 2 == 1) (fun j => edgeD (pairsN.getD j (0, 0)))]; unfold edgesB; rw [List.map_map]; rfl) ?_
  · obtain ⟨t0, rfl⟩ := List.length_eq_one_iff.mp hts
    have hj := List.mem_range.mp hj
    have hit := int_at (cs := (List.range 6).map (cellL script)) (j := j) (by lia)
    rw [hca j hj] at hit
    exact ⟨[.v (.int (j : Int))], rfl, AsgOk.name W 0, (cellL script j).fmod 2 == 1, Ts.cmp W (Ev.bin W (Ev.item (i := (j : Int)) W (Ev.loc 1) (Ev.loc 0) (by lia) (by lia) hit) Ev.int (BinOk.fmod (by decide))) Ev.int CmpOk.eqi, fun z => by rw [z]; rfl, fun z => ⟨edgeD (pairsN.getD j (0, 0)), Ev.item (i := (j : Int)) W (Ev.loc 2) (Ev.loc 0) (by lia) (by lia) (pair_at hj), by rw [z]; rfl⟩⟩
  obtain ⟨r0, hr0, hr0'⟩ := nat_fmod (a := script.sum) (m := 4400) (by decide)
  have ew : PyData.int (5 + script.sum.fmod 4400) = .int ((5 + r0 : Nat) : Int) := by
    have : script.sum.fmod 4400 = (r0 : Int) := hr0
    rw [this]; push_cast; rfl
  refine Ex.assign W 5 (Ev.cast (Ev.bin W Ev.int (Ev.bin W (Ev.callB W rfl G.P.s0 G.P.s1 (.cons (Ev.loc 0) .nil) (Bi.sum W)) Ev.int (BinOk.fmod (by decide))) BinOk.add) ew) ?_
  refine Ex.assign W 6 (Ev.bin W Ev.int (Ev.loc 5) (BinOk.twoPow (by lia))) ?_
  exact law_mail G hcl (by lia) (by lia)
theorem law_first (G : GLaw C ft fc fw fo fdt fr fd fl fi fs a1 a2 a3 fq fp fe d2 d3 i2 di dp) {script : List Int} (hsz : script.length ≤ 1000) : ∃ (kk : Nat) (p0 p1 p2 p3 : Pos) (es : List Expr) (rest : List Stmt), bodyAt PG 27 = .Assign [.Name "own" p1] (.List (.Constant (.int 10) kk p0 :: es) p2) p3 :: rest ∧
    EvAll C 12 (scopeAt PG 27) nsLaw ([PyData.list (script.map .int)].map Sl.v ++ List.replicate 23 Sl.un) es [.int 2, .int 7, .int 9, .int 0, .int 1] ∧ Ex C 12 (scopeAt PG 27) nsLaw (([PyData.list (script.map .int)].map Sl.v ++ List.replicate 23 Sl.un).set 1 (.v (.list (.int 10 :: [.int 2, .int 7, .int 9, .int 0, .int 1])))) rest (fun o => o = .ret (.bool true)) :=
  ⟨_, _, _, _, _, _, (bodyAt PG 27).drop 1, rfl, .cons Ev.int (.cons Ev.int (.cons Ev.int (.cons Ev.int (.cons Ev.int .nil)))), law_rest G hsz⟩
end Mine
end

noncomputable section
open PySem PySem.W PyProof.Rows
set_option maxRecDepth 100000
namespace Mine

structure F02 (K : Frag) : Prop where
  d16 : DefIn K (bodyAt PG 16) (scopeAt PG 16) "quotedata" ["data"] 102 101
  d17 : DefIn K (bodyAt PG 17) (scopeAt PG 17) "_quote_periods" ["bindata"] 109 108
  d18 : DefIn K (bodyAt PG 18) (scopeAt PG 18) "_fix_eols" ["data"] 116 115
  d3 : DefIn K (bodyAt PG 3) (scopeAt PG 3) "_div2n1n" ["a", "b", "n"] 38 37
  d4 : DefIn K (bodyAt PG 4) (scopeAt PG 4) "_div3n2n" ["a12", "a3", "b", "b1", "b2", "n"] 45 44
  d5 : DefIn K (bodyAt PG 5) (scopeAt PG 5) "_int2digits" ["a", "n"] 52 51
  d6 : DefIn K (bodyAt PG 6) (scopeAt PG 6) "_digits2int" ["digits", "n"] 59 58
  d7 : DefIn K (bodyAt PG 7) (scopeAt PG 7) "_divmod_pos" ["a", "b"] 66 65
  d9 : DefIn K (bodyAt PG 9) (scopeAt PG 9) "_iter_escaped_chars" ["addr"] 73 72
  d10 : DefIn K (bodyAt PG 10) (scopeAt PG 10) "_strip_quoted_realnames" ["addr"] 80 79
  d20 : DefIn K (bodyAt PG 20) (scopeAt PG 20) "_law_tail" ["cells"] 123 122
  d21 : DefIn K (bodyAt PG 21) (scopeAt PG 21) "_law_coloured" ["top", "edges", "cells"] 128 127
  d22 : DefIn K (bodyAt PG 22) (scopeAt PG 22) "_law_whole" ["rows", "tail"] 133 132
  d23 : DefIn K (bodyAt PG 23) (scopeAt PG 23) "_law_outside" ["rows", "tail"] 140 139
  d24 : DefIn K (bodyAt PG 24) (scopeAt PG 24) "_law_dots" ["text"] 145 144
  d25 : DefIn K (bodyAt PG 25) (scopeAt PG 25) "_law_rooms" ["edges"] 150 149
  d26 : DefIn K (bodyAt PG 26) (scopeAt PG 26) "_law_directed" ["edges"] 155 154
  d27 : DefIn K (bodyAt PG 27) (scopeAt PG 27) "law" ["script"] 160 159
  p1 : PatIn K 85 84 code1 0
  r1 : nsIn K mainGlobals "_twin_re_1" = some (some (.ref 85))
  p2 : PatIn K 90 89 code1 1
  r2 : nsIn K mainGlobals "_twin_re_2" = some (some (.ref 90))
  p3 : PatIn K 95 94 code3 0
  r3 : nsIn K mainGlobals "_twin_re_3" = some (some (.ref 95))
  crlf : ∃ t, nsIn K mainGlobals "CRLF" = some (some (.str "\r\n" t))
  lim : ∃ t, nsIn K mainGlobals "_DIV_LIMIT" = some (some (.int 4000 t))
  n_len : nsIn K mainGlobals "len" = some none
  n_sum : nsIn K mainGlobals "sum" = some none
  n_range : nsIn K mainGlobals "range" = some none
  n_divmod : nsIn K mainGlobals "divmod" = some none
  n_reversed : nsIn K mainGlobals "reversed" = some none
  n_enumerate : nsIn K mainGlobals "enumerate" = some none
  n_sorted : nsIn K mainGlobals "sorted" = some none
  n_max : nsIn K mainGlobals "max" = some none
  c1 : codeHdIn K 51 47 = true
  c2 : codeHdIn K 58 54 = true
  t1 : K.lookup 47 = none
  t2 : K.lookup 54 = none
  all : (K.all fun x => decide (x.1 ≤ 160)) = true
  bm : nsIn K mainGlobals "__builtins__" = some (some (.ref 4))
  nb : K.lookup 4 = none
noncomputable abbrev q02a : Int × Int × Str := (((stPos innerI).line : Int), ((stPos innerI).col : Int), qualI)
noncomputable abbrev q02b : Int × Int × Str := (((stPos innerD).line : Int), ((stPos innerD).col : Int), qualD)
set_option maxHeartbeats 4000000 in
theorem top02 {K : Frag} {w : World} {mg mb : Str → Option Value} {s : Shared} (F : F02 K) (X : K.In s.heap) (hg : s.heap.Ns mainGlobals mg) (hb : s.heap.Ns builtinsNs mb) (hli : s.heap.NoLimit) (hmb : ∀ x : Str, x ≠ "__name__" → mb x = bootBuiltins x)
    (hbm : ∃ bm ob, mg "__builtins__" = some (.ref bm) ∧ bm ≠ builtinsNs ∧ s.heap.get? bm = some ob ∧ ob.cls = .type "module" ∧ ob.dict = some builtinsNs ∧ ob.data = .plain)
    (ht : ∀ P ∈ ([47, 54] : List Addr), s.heap.get? P = some (tabObj #[])) {l : List Int} (hl : l.length ≤ 63) {v : Value} (hv : Well w.params s.heap v (ofPy (.list (l.map .int)))) {fa : Addr} (hfa : mg "law" = some (.ref fa)) :
    ∃ C : Cx, (∀ a, C.T a → isCodeTable s.heap a ∧ s.heap.get? a = some (tabObj #[])) ∧ TabOk C s.heap ∧
      codeAny (model PG w) callerA (.call (.ref fa) ⟨[v], []⟩) (fun r s' => ∃ v, r = .ok (.ret v) ∧ KB C No s s' ∧ Rp s'.heap (fun _ => False) v (.bool true)) s := by
  obtain ⟨bm, ob, b1, b2, b3, b4, b5, b6⟩ := hbm
  rw [mg_of X hg F.bm] at b1
  cases b1
  have B : BmOk mg K 4 ob 47 54 := ⟨mg_of X hg F.bm, b2, by decide, by decide, by decide, b4, b5, b6, fun o e => by rw [F.nb] at e; cases e⟩
  have hlaw := mg_of X hg F.d27.glob
  rw [hfa] at hlaw
  cases hlaw
  obtain ⟨oL, hlast⟩ := F.d27.there
  let C : Cx := mkC PG w mg mb K 4 ob 47 54 q02a q02b 160
  have W : Wf C := mkC_wf F.all hlast (by decide) (by decide) (by decide) (by decide) B.n1 B.n2 B.same
  have ht' : ∀ a, a = 47 ∨ a = 54 → s.heap.get? a = some (tabObj #[]) := fun a z => by
    rcases z with z | z
    · exact ht a (by rw [z]; decide)
    · exact ht a (by rw [z]; decide)
  have I : Inv C { s with toks := s.toks + 1 } := mkC_inv X hg hb hli b3 ht'
  have boot : ∀ {x : Str} {v : Value}, x ≠ "__name__" → bootBuiltins x = some v → C.mb x = some v := fun h e => (hmb _ h).trans e
  have P : GPre C := ⟨W, mg_none_of X hg F.n_sum, boot (by decide) (by decide +kernel), mg_none_of X hg F.n_len, boot (by decide) (by decide +kernel), mg_none_of X hg F.n_range, boot (by decide) (by decide +kernel)⟩
  have e16 : Df C PG 16 "quotedata" ["data"] ["data"] 102 := df_chk ["data"] F.d16 X hg (by decide +kernel)
  have e17 : Df C PG 17 "_quote_periods" ["bindata"] ["bindata"] 109 := df_chk ["bindata"] F.d17 X hg (by decide +kernel)
  have e18 : Df C PG 18 "_fix_eols" ["data"] ["data"] 116 := df_chk ["data"] F.d18 X hg (by decide +kernel)
  have e3 : Df C PG 3 "_div2n1n" ["a", "b", "n"] ns_div2 38 := df_chk ns_div2 F.d3 X hg (by decide +kernel)
  have e4 : Df C PG 4 "_div3n2n" ["a12", "a3", "b", "b1", "b2", "n"] ns_div3 45 := df_chk ns_div3 F.d4 X hg (by decide +kernel)
  have e7 : Df C PG 7 "_divmod_pos" ["a", "b"] nsP 66 := df_chk nsP F.d7 X hg (by decide +kernel)
  have e10 : Df C PG 10 "_strip_quoted_realnames" ["addr"] nsS 80 := df_chk nsS F.d10 X hg (by decide +kernel)
  have e20 : Df C PG 20 "_law_tail" ["cells"] ["cells"] 123 := df_chk ["cells"] F.d20 X hg (by decide +kernel)
  have e21 : Df C PG 21 "_law_coloured" ["top", "edges", "cells"] nsC 128 := df_chk nsC F.d21 X hg (by decide +kernel)
  have e22 : Df C PG 22 "_law_whole" ["rows", "tail"] ["rows", "tail"] 133 := df_chk ["rows", "tail"] F.d22 X hg (by decide +kernel)
  have e23 : Df C PG 23 "_law_outside" ["rows", "tail"] ["rows", "tail", "kept", "inside", "dots", "end"] 140 := df_chk ["rows", "tail", "kept", "inside", "dots", "end"] F.d23 X hg (by decide +kernel)
  have e24 : Df C PG 24 "_law_dots" ["text"] ["text", "rows"] 145 := df_chk ["text", "rows"] F.d24 X hg (by decide +kernel)
  have e25 : Df C PG 25 "_law_rooms" ["edges"] ["edges", "rows", "v", "tried"] 150 := df_chk ["edges", "rows", "v", "tried"] F.d25 X hg (by decide +kernel)
  have e26 : Df C PG 26 "_law_directed" ["edges"] ["edges", "orders", "v", "order", "ways", "way"] 155 := df_chk ["edges", "orders", "v", "order", "ways", "way"] F.d26 X hg (by decide +kernel)
  have e27 : Df C PG 27 "law" ["script"] nsLaw 160 := df_chk nsLaw F.d27 X hg (by decide +kernel)
  obtain ⟨i1, i2, i3⟩ := dg_in (p := PG) (w := w) (mb := mb) (bm := 4) (ob := ob) (t1 := 47) (t2 := 54) (q1 := q02a) (q2 := q02b) (m := 160) nsE F.d9 X hg (by decide +kernel) (by decide +kernel) (by decide +kernel) (by decide +kernel) (by decide +kernel) (by decide +kernel) (by decide +kernel) (by decide) (by decide) (by decide) (by decide)
  obtain ⟨m1, fd1, m2, m3, m4, m5⟩ := parts_chk (p := PG) (w := w) (mb := mb) (bm := 4) (ob := ob) (t1 := 47) (t2 := 54) (q1 := q02a) (q2 := q02b) (m := 160) nsI F.d5 X hg (by decide +kernel)
  obtain ⟨k1, fd2, k2, k3, k4, k5⟩ := parts_chk (p := PG) (w := w) (mb := mb) (bm := 4) (ob := ob) (t1 := 47) (t2 := 54) (q1 := q02a) (q2 := q02b) (m := 160) nsD F.d6 X hg (by decide +kernel)
  have dv : GDiv C PG 3 4 38 45 := ⟨W, let ⟨t, e⟩ := F.lim; ⟨t, mg_of X hg e⟩, mg_none_of X hg F.n_divmod, boot (by decide) (by decide +kernel), e3, e4⟩
  have M1 : Maker C PG 5 "_int2digits" ["a", "n"] nsI 52 qualI (stPos innerI) := ⟨m1, fd1, 51, 47, m2, m3, m4, m5, nest_in (.inl rfl) B F.t1 F.t2 F.c1 rfl⟩
  have M2 : Maker C PG 6 "_digits2int" ["digits", "n"] nsD 59 qualD (stPos innerD) := ⟨k1, fd2, 58, 54, k2, k3, k4, k5, nest_in (.inr rfl) B F.t1 F.t2 F.c2 rfl⟩
  have ps : GPos C 38 45 52 59 66 := ⟨dv, M1, M2, e7, P.l0, P.l1, mg_none_of X hg F.n_reversed, boot (by decide) (by decide +kernel)⟩
  have it : GIter C 73 := ⟨W, i1, i2, i3, mg_none_of X hg F.n_enumerate, boot (by decide) (by decide +kernel)⟩
  have st : GStrip C 73 80 := ⟨it, e10, P.l0, P.l1⟩
  have ml : GMail C 85 90 95 102 109 116 := ⟨W, mg_of X hg F.r1, mg_of X hg F.r2, mg_of X hg F.r3, pat_in F.p1 (by decide) (by decide) (by decide) (by decide), pat_in F.p2 (by decide) (by decide) (by decide) (by decide), pat_in F.p3 (by decide) (by decide) (by decide) (by decide), let ⟨t, e⟩ := F.crlf; ⟨t, mg_of X hg e⟩, e16, e17, e18⟩
  have GL : GLaw C 123 128 133 140 145 150 155 160 73 80 85 90 95 102 109 116 38 45 52 59 66 := ⟨P, ⟨P, ml, ⟨P, e20⟩, mg_none_of X hg F.n_sorted, boot (by decide) (by decide +kernel), e21⟩, ⟨P, e22⟩, ⟨P, e23⟩, ⟨P, e24⟩, ⟨P, mg_none_of X hg F.n_max, boot (by decide) (by decide +kernel), e25⟩, ⟨P, e26⟩, st, ps, e27⟩
  refine ⟨C, fun a z => ?_, I.tab, ?_⟩
  · refine ⟨?_, ht' a z⟩
    rcases z with z | z
    · rw [z]; exact tab_in X F.c1
    · rw [z]; exact tab_in X F.c2
  · obtain ⟨fd, D, hsc⟩ := e27.ok
    obtain ⟨kk, p0, p1, p2, p3, es, rest, hbody, hes, hx⟩ := law_first GL (script := l) (by lia)
    rw [← hsc] at hx hes
    exact top_list (C := C) (k := 12) (m := 23) (i := 1) W D hbody hes (by decide) rfl (by decide) hx ⟨by decide, by decide, rfl⟩ I (fun a z => z.elim) (fun a z => z.elim) (.cons (rp_script hv) .nil)
end Mine
end

open PySem PySem.W PyProof.Rows
set_option maxRecDepth 100000 in
set_option maxHeartbeats 8000000 in
theorem PySem.Challenge.cw_rs0094_02_holds : PySem.Challenge.rw_rs0094_02.Holds := by
  w_on
  o_law
  k_head
  case hw => w_witness2
  k_fill
  intro w s₀ s₁ mg mb G Y fa o pm cd doc dV kV ho hd hcd hD hmg hg args vals as hpre hlay hrd hwl hlo
  have kin := km_in_of Y
  have ktab := km_tabs_of Y
  have hgens : s₁.gens = #[] := by assumption
  refine Ground.open G ?_
  intro T B D TE TW
  clear D B TE TW hD hcd hd ho
  wrow_args hpre hlay hrd hwl hlo
  rename_i l hs hl0 hL hr1 hl2 as1 as2 a vs as3 hIs ra w1 r0 hI hr hc1 hc2
  refine enter_call ?_
  obtain ⟨bm, ob, b1, b2, b3, b4, b5, b6⟩ := T.bmain
  refine Exists.elim (Mine.top02 (l := l) ?facts kin T.g T.b T.nolimit T.builtins ⟨bm, ob, b1, b2, b3, b4, b5, b6⟩ ktab (by lia) w1 hmg) fun C hC => ?_
  case facts =>
    constructor
    · exact Mine.defIn_of (by kernel_rfl) rfl rfl rfl rfl (by kernel_rfl) (by kernel_rfl) rfl rfl rfl (by kernel_rfl) (Mine.bind1 rfl fun a => rfl)
    · exact Mine.defIn_of (by kernel_rfl) rfl rfl rfl rfl (by kernel_rfl) (by kernel_rfl) rfl rfl rfl (by kernel_rfl) (Mine.bind1 rfl fun a => rfl)
    · exact Mine.defIn_of (by kernel_rfl) rfl rfl rfl rfl (by kernel_rfl) (by kernel_rfl) rfl rfl rfl (by kernel_rfl) (Mine.bind1 rfl fun a => rfl)
    · exact Mine.defIn_of (by kernel_rfl) rfl rfl rfl rfl (by kernel_rfl) (by kernel_rfl) rfl rfl rfl (by kernel_rfl) (Mine.bind3 rfl fun a b c => rfl)
    · exact Mine.defIn_of (by kernel_rfl) rfl rfl rfl rfl (by kernel_rfl) (by kernel_rfl) rfl rfl rfl (by kernel_rfl) (Mine.bind6 rfl fun a b c d e f => rfl)
    · exact Mine.defIn_of (by kernel_rfl) rfl rfl rfl rfl (by kernel_rfl) (by kernel_rfl) rfl rfl rfl (by kernel_rfl) (Mine.bind2 rfl fun a b => rfl)
    · exact Mine.defIn_of (by kernel_rfl) rfl rfl rfl rfl (by kernel_rfl) (by kernel_rfl) rfl rfl rfl (by kernel_rfl) (Mine.bind2 rfl fun a b => rfl)
    · exact Mine.defIn_of (by kernel_rfl) rfl rfl rfl rfl (by kernel_rfl) (by kernel_rfl) rfl rfl rfl (by kernel_rfl) (Mine.bind2 rfl fun a b => rfl)
    · exact Mine.defIn_of (by kernel_rfl) rfl rfl rfl rfl (by kernel_rfl) (by kernel_rfl) rfl rfl rfl (by kernel_rfl) (Mine.bind1 rfl fun a => rfl)
    · exact Mine.defIn_of (by kernel_rfl) rfl rfl rfl rfl (by kernel_rfl) (by kernel_rfl) rfl rfl rfl (by kernel_rfl) (Mine.bind1 rfl fun a => rfl)
    · exact Mine.defIn_of (by kernel_rfl) rfl rfl rfl rfl (by kernel_rfl) (by kernel_rfl) rfl rfl rfl (by kernel_rfl) (Mine.bind1 rfl fun a => rfl)
    · exact Mine.defIn_of (by kernel_rfl) rfl rfl rfl rfl (by kernel_rfl) (by kernel_rfl) rfl rfl rfl (by kernel_rfl) (Mine.bind3 rfl fun a b c => rfl)
    · exact Mine.defIn_of (by kernel_rfl) rfl rfl rfl rfl (by kernel_rfl) (by kernel_rfl) rfl rfl rfl (by kernel_rfl) (Mine.bind2 rfl fun a b => rfl)
    · exact Mine.defIn_of (by kernel_rfl) rfl rfl rfl rfl (by kernel_rfl) (by kernel_rfl) rfl rfl rfl (by kernel_rfl) (Mine.bind2 rfl fun a b => rfl)
    · exact Mine.defIn_of (by kernel_rfl) rfl rfl rfl rfl (by kernel_rfl) (by kernel_rfl) rfl rfl rfl (by kernel_rfl) (Mine.bind1 rfl fun a => rfl)
    · exact Mine.defIn_of (by kernel_rfl) rfl rfl rfl rfl (by kernel_rfl) (by kernel_rfl) rfl rfl rfl (by kernel_rfl) (Mine.bind1 rfl fun a => rfl)
    · exact Mine.defIn_of (by kernel_rfl) rfl rfl rfl rfl (by kernel_rfl) (by kernel_rfl) rfl rfl rfl (by kernel_rfl) (Mine.bind1 rfl fun a => rfl)
    · exact Mine.defIn_of (by kernel_rfl) rfl rfl rfl rfl (by kernel_rfl) (by kernel_rfl) rfl rfl rfl (by kernel_rfl) (Mine.bind1 rfl fun a => rfl)
    · exact Mine.patIn_of rfl rfl (by kernel_rfl) (by kernel_rfl) rfl (by kernel_rfl)
    · kernel_rfl
    · exact Mine.patIn_of rfl rfl (by kernel_rfl) (by kernel_rfl) rfl (by kernel_rfl)
    · kernel_rfl
    · exact Mine.patIn_of rfl rfl (by kernel_rfl) (by kernel_rfl) rfl (by kernel_rfl)
    · kernel_rfl
    · exact ⟨454, by kernel_rfl⟩
    · exact ⟨284, by kernel_rfl⟩
    · kernel_rfl
    · kernel_rfl
    · kernel_rfl
    · kernel_rfl
    · kernel_rfl
    · kernel_rfl
    · kernel_rfl
    · kernel_rfl
    · kernel_rfl
    · kernel_rfl
    · kernel_rfl
    · kernel_rfl
    · kernel_rfl
    · kernel_rfl
    · kernel_rfl
  exact codeAny_mono hC.2.2 fun r s' g => Mine.top_good (raisesW_false (by wrow_none_raised)) (by wrow_post) hC.1 (AllBare.of_eq hgens) hC.2.1 g
