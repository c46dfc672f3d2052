import PyProof.Rows.All
import Wide.All
import OpenK.AllK
import Wide.FinOn
import PyProof.IsiH_list
import KE.KSuperObj
import PyProof.SumAny
import PyProof.JoinWalk
import PyProof.GenCompT
import PyProof.GenArm
import PyProof.WalksPairs
import KE.KNestM
import KE.KCallOwn
import KE.BytesMake
import PyProof.StationsW
import KE.KBytesWalk
import PyProof.ExcFactsAll.ValueError
import KE.KLam
import PyProof.RulesAs
import PyProof.ExcStrCall
import PyProof.ExcStrAll.ValueError
import PyProof.AssignAttr
import PySem.Challenge.RW_nb0078_01
set_option Elab.async false
section
open PySem PySem.W PyProof.Rows
set_option Elab.async false
namespace Mine
section
local macro_rules | `(tactic| o_head $_) => `(tactic| assumption)
set_option maxRecDepth 100000 in
set_option maxHeartbeats 8000000 in
theorem hd (h : OpenRow.Holds PySem.Challenge.rw_nb0078_01.row) : OpenRow.Holds PySem.Challenge.rw_nb0078_01.row := by km_head
end
end Mine
end
section
open PySem PySem.W PyProof.Rows PySem.Calls
set_option Elab.async false
set_option maxRecDepth 100000
namespace Mine

noncomputable abbrev Pr : Program := PySem.Challenge.rw_nb0078_01.row.prog
noncomputable abbrev Kf (w : World) : Frag := Mine.hd.heap_1 w.params
noncomputable abbrev Ext (h h' : Heap) : Prop := ∀ b o, h.get? b = some o → h'.get? b = some o
theorem Ext.refl (h : Heap) : Ext h h := fun _ _ e => e
theorem Ext.trans {h h' h'' : Heap} (a : Ext h h') (b : Ext h' h'') : Ext h h'' := fun x o e => b x o (a x o e)
theorem Ext.push (h : Heap) (o : Obj) : Ext h (h.push o) := fun _ _ e => Heap.get?_push_of_some _ e

/-- the heap with all but p's addresses hidden -/
noncomputable def only (h : Heap) (p : Addr → Bool) : Heap := ⟨h.objs.mapIdx fun i o => if p i then o else { o with data := .freed }, h.life⟩
theorem only_get (h : Heap) (p : Addr → Bool) (a : Addr) : (only h p).get? a = if p a then h.get? a else none := by
  unfold only Heap.get?
  simp only [Array.getElem?_mapIdx]
  cases e : h.objs[a]? with
  | none => simp
  | some o =>
    by_cases q : p a = true
    · simp [q]
    · simp [q]
theorem only_size (h : Heap) (p : Addr → Bool) : (only h p).objs.size = h.objs.size := by simp [only]

structure Step (B h B' h' : Heap) : Prop where
  bb : Ext B B'
  bh : Ext B' h'
  hh : Ext h h'
  sz : h.objs.size ≤ h'.objs.size
  fresh : ∀ a o, B'.get? a = some o → B.get? a = some o ∨ h.objs.size ≤ a

theorem Step.refl {B h : Heap} (e : Ext B h) : Step B h B h := ⟨Ext.refl _, e, Ext.refl _, Nat.le_refl _, fun _ _ q => .inl q⟩
theorem Step.trans {B h B' h' B'' h'' : Heap} (a : Step B h B' h') (b : Step B' h' B'' h'') : Step B h B'' h'' :=
  ⟨a.bb.trans b.bb, b.bh, a.hh.trans b.hh, Nat.le_trans a.sz b.sz, fun x o e => (b.fresh x o e).elim (fun q => a.fresh x o q) fun q => .inr (Nat.le_trans a.sz q)⟩

noncomputable def grow (B h h' : Heap) : Heap := only h' fun a => (B.get? a).isSome || decide (h.objs.size ≤ a)
theorem grow_step {B h h' : Heap} (e : Ext B h) (k : Ext h h') (z : h.objs.size ≤ h'.objs.size) : Step B h (grow B h h') h' := by
  refine ⟨fun a o q => ?_, fun a o q => ?_, k, z, fun a o q => ?_⟩
  · rw [grow, only_get, q]; simp [k _ _ (e _ _ q)]
  · rw [grow, only_get] at q
    split at q
    · exact q
    · cases q
  · rw [grow, only_get] at q
    split at q
    · rename_i c
      simp only [Bool.or_eq_true, decide_eq_true_eq] at c
      rcases c with c | c
      · obtain ⟨o', ho⟩ := Option.isSome_iff_exists.mp c
        have := k _ _ (e _ _ ho)
        rw [this] at q
        exact .inl (by rw [ho]; exact q)
      · exact .inr c
    · cases q
theorem grow_new {B h h' : Heap} {a : Addr} (z : h.objs.size ≤ a) : (grow B h h').get? a = h'.get? a := by
  rw [grow, only_get]; simp [z]

/-- a step under a smaller base serves a greater one -/
theorem Step.lift {B B₁ h B' h' : Heap} (s : Step B h B' h') (e : Ext B B₁) (k : Ext B₁ h) : ∃ B₂, Step B₁ h B₂ h' ∧ Ext B' B₂ := by
  refine ⟨grow B₁ h h', grow_step k s.hh s.sz, fun a o q => ?_⟩
  rcases s.fresh a o q with c | c
  · exact (grow_step k s.hh s.sz).bb a o (e a o c)
  · rw [grow_new c]; exact s.bh a o q

noncomputable def Rd (h : Heap) (v : Value) (d : PyData) : Prop := ∃ as, Reads h v d as
noncomputable def RdAll (h : Heap) (vs : List Value) (ds : List PyData) : Prop := ∃ as, ReadsAll h vs ds as
theorem Rd.ext {h h' : Heap} {v : Value} {d : PyData} (r : Rd h v d) (e : Ext h h') : Rd h' v d := let ⟨as, q⟩ := r; ⟨as, Reads.keeps e q⟩
theorem RdAll.ext {h h' : Heap} {v : List Value} {d : List PyData} (r : RdAll h v d) (e : Ext h h') : RdAll h' v d := let ⟨as, q⟩ := r; ⟨as, ReadsAll.keeps e q⟩
theorem Rd.int (h : Heap) (i : Int) (t : Tok) : Rd h (.int i t) (.int i) := ⟨_, .int i t⟩
theorem Rd.str (h : Heap) (i : Str) (t : Tok) : Rd h (.str i t) (.str i) := ⟨_, .str i t⟩
theorem Rd.bool (h : Heap) (i : Bool) : Rd h (.bool i) (.bool i) := ⟨_, .bool i⟩
theorem Rd.none (h : Heap) : Rd h .none .none := ⟨_, .none⟩
theorem Rd.int_inv {h : Heap} {v : Value} {i : Int} (r : Rd h v (.int i)) : ∃ t, v = .int i t := let ⟨_, q⟩ := r; let ⟨t, e, _⟩ := reads_int_inv q; ⟨t, e⟩
theorem Rd.str_inv {h : Heap} {v : Value} {i : Str} (r : Rd h v (.str i)) : ∃ t, v = .str i t := let ⟨_, q⟩ := r; let ⟨t, e, _⟩ := reads_str_inv q; ⟨t, e⟩
theorem Rd.bool_inv {h : Heap} {v : Value} {i : Bool} (r : Rd h v (.bool i)) : v = .bool i := let ⟨_, q⟩ := r; (reads_bool_inv q).1
theorem Rd.none_inv {h : Heap} {v : Value} (r : Rd h v .none) : v = .none := let ⟨_, q⟩ := r; (reads_none_inv q).1
theorem RdAll.nil (h : Heap) : RdAll h [] [] := ⟨_, .nil⟩
theorem RdAll.cons {h : Heap} {v : Value} {vs : List Value} {d : PyData} {ds : List PyData} (a : Rd h v d) (b : RdAll h vs ds) : RdAll h (v :: vs) (d :: ds) := let ⟨_, x⟩ := a; let ⟨_, y⟩ := b; ⟨_, .cons x y⟩
theorem RdAll.nil_inv {h : Heap} {vs : List Value} (r : RdAll h vs []) : vs = [] := by
  obtain ⟨_, q⟩ := r; cases q; rfl
theorem RdAll.cons_inv {h : Heap} {vs : List Value} {d : PyData} {ds : List PyData} (r : RdAll h vs (d :: ds)) : ∃ v vs', vs = v :: vs' ∧ Rd h v d ∧ RdAll h vs' ds := by
  obtain ⟨_, q⟩ := r; cases q with | cons a b => exact ⟨_, _, rfl, ⟨_, a⟩, ⟨_, b⟩⟩
theorem RdAll.length {h : Heap} : ∀ {vs : List Value} {ds : List PyData}, RdAll h vs ds → vs.length = ds.length
  | _, [], r => by rw [r.nil_inv]; rfl
  | _, _ :: ds, r => by
    obtain ⟨v, vs', rfl, _, q⟩ := r.cons_inv
    simp [RdAll.length q]
theorem RdAll.append {h : Heap} : ∀ {vs ws : List Value} {ds es : List PyData}, RdAll h vs ds → RdAll h ws es → RdAll h (vs ++ ws) (ds ++ es)
  | _, _, [], _, r, q => by rw [r.nil_inv]; exact q
  | _, _, _ :: ds, _, r, q => by
    obtain ⟨v, vs', rfl, a, b⟩ := r.cons_inv
    exact .cons a (RdAll.append b q)
theorem RdAll.get {h : Heap} : ∀ {vs : List Value} {ds : List PyData} {i : Nat} {d : PyData}, RdAll h vs ds → ds[i]? = some d → ∃ v, vs[i]? = some v ∧ Rd h v d
  | _, [], _, _, _, e => by simp at e
  | _, _ :: ds, i, d, r, e => by
    obtain ⟨v, vs', rfl, a, b⟩ := r.cons_inv
    cases i with
    | zero => simp at e; subst e; exact ⟨v, rfl, a⟩
    | succ i => simpa using RdAll.get b (by simpa using e)
theorem RdAll.get' {h : Heap} {vs : List Value} {ds : List PyData} {i : Nat} {v : Value} (r : RdAll h vs ds) (e : vs[i]? = some v) : ∃ d, ds[i]? = some d ∧ Rd h v d := by
  have hl := r.length
  have hi : i < ds.length := by
    rw [← hl]
    exact (List.getElem?_eq_some_iff.mp e).1
  obtain ⟨v', e', q⟩ := r.get (i := i) (d := ds[i]) (by simp [hi])
  rw [e] at e'
  cases e'
  exact ⟨_, by simp [hi], q⟩
theorem RdAll.take {h : Heap} : ∀ {vs : List Value} {ds : List PyData} (k : Nat), RdAll h vs ds → RdAll h (vs.take k) (ds.take k)
  | _, [], k, r => by rw [r.nil_inv]; simp; exact .nil _
  | _, _ :: ds, k, r => by
    obtain ⟨v, vs', rfl, a, b⟩ := r.cons_inv
    cases k with
    | zero => simp; exact .nil _
    | succ k => simpa using RdAll.cons a (RdAll.take k b)
theorem RdAll.drop {h : Heap} : ∀ {vs : List Value} {ds : List PyData} (k : Nat), RdAll h vs ds → RdAll h (vs.drop k) (ds.drop k)
  | _, [], k, r => by rw [r.nil_inv]; simp; exact .nil _
  | _, _ :: ds, k, r => by
    obtain ⟨v, vs', rfl, a, b⟩ := r.cons_inv
    cases k with
    | zero => simpa using RdAll.cons a b
    | succ k => simpa using RdAll.drop k b
theorem Rd.list_inv {h : Heap} {v : Value} {ds : List PyData} (r : Rd h v (.list ds)) : ∃ a vs, v = .ref a ∧ h.IsList a vs.toArray ∧ RdAll h vs ds := by
  obtain ⟨_, q⟩ := r
  obtain ⟨a, o, vs, n, bs, e, h1, h2, h3, h4, _⟩ := reads_list_inv q
  exact ⟨a, vs.toList, e, ⟨o, h1, h2, n, by simpa using h3⟩, ⟨_, h4⟩⟩
theorem Rd.tuple_inv {h : Heap} {v : Value} {ds : List PyData} (r : Rd h v (.tuple ds)) : ∃ a vs, v = .ref a ∧ IsTup h a vs.toArray ∧ RdAll h vs ds := by
  obtain ⟨_, q⟩ := r
  obtain ⟨a, o, vs, n, e, h1, h2, h3, h4⟩ := reads_tuple_inv q
  exact ⟨a, vs.toList, e, ⟨o, h1, h2, n, by simpa using h3⟩, ⟨_, h4⟩⟩
theorem Rd.list {h : Heap} {a : Addr} {vs : List Value} {ds : List PyData} (l : h.IsList a vs.toArray) (r : RdAll h vs ds) : Rd h (.ref a) (.list ds) := by
  obtain ⟨o, h1, h2, n, h3⟩ := l
  obtain ⟨_, q⟩ := r
  exact ⟨_, reads_list_at h1 h2 h3 (by simpa using q)⟩
theorem Rd.tuple {h : Heap} {a : Addr} {vs : List Value} {ds : List PyData} (l : IsTup h a vs.toArray) (r : RdAll h vs ds) : Rd h (.ref a) (.tuple ds) := by
  obtain ⟨o, h1, h2, n, h3⟩ := l
  obtain ⟨_, q⟩ := r
  exact ⟨_, reads_tuple_at h1 h2 h3 (by simpa using q)⟩

/-- what stands around: k calls more fit -/
structure Ok (k : Nat) (A : Around) : Prop where
  handled : A.handled = none
  depth : A.depth + k < recursionLimit
  units : A.units + 10 * k + 200 < cLine
theorem Ok.deeper {k : Nat} {A : Around} (h : Ok (k + 1) A) (env : Env) : Ok k (A.deeper env) :=
  ⟨h.handled, by have := h.depth; simp only [Around.deeper]; omega, by have := h.units; simp only [Around.deeper]; omega⟩
theorem Ok.le {k j : Nat} {A : Around} (h : Ok k A) (q : j ≤ k) : Ok j A :=
  ⟨h.handled, by have := h.depth; omega, by have := h.units; omega⟩
theorem Ok.room {k : Nat} {A : Around} (h : Ok k A) : A.depth < recursionLimit := by have := h.depth; omega
theorem Ok.u64 {k : Nat} {A : Around} (h : Ok k A) : A.units + 64 < cLine := by have := h.units; omega

/-- a computation that makes things and changes none -/
noncomputable def PT {α : Type} (w : World) (k : Nat) (J : Heap → Prop) (B : Heap) (t : Sem α) (R : Heap → α → Prop) : Prop :=
  ∀ (A : Around) (s : Shared) (Q : α → Shared → Prop) (E : Value → Shared → Prop), Ok k A → Ext B s.heap → J s.heap →
    (∀ v B' h' tk, Step B s.heap B' h' → R B' v → Q v { s with heap := h', toks := tk }) → wpAny (model Pr w) A t Q E s

noncomputable def Mono (J : Heap → Prop) : Prop := ∀ h h', Ext h h' → J h → J h'

section
variable {α β : Type} {w : World} {k : Nat} {J : Heap → Prop} {B : Heap}
theorem PT.pure {a : α} {R : Heap → α → Prop} (h : R B a) : PT w k J B (pure a) R := fun _ s _ _ _ e _ q => wpAny_pure (q a B s.heap s.toks (.refl e) h)
theorem PT.ext {B' : Heap} {t : Sem α} {R : Heap → α → Prop} (p : PT w k J B t R) (e : Ext B B') (hR : ∀ x y v, Ext x y → R x v → R y v) : PT w k J B' t R :=
  fun A s Q E ok eb j q => p A s Q E ok (e.trans eb) j fun v B₁ h' tk st r => by
    obtain ⟨B₂, st', e'⟩ := st.lift e eb
    exact q v B₂ h' tk st' (hR _ _ _ e' r)
theorem PT.le {j : Nat} {t : Sem α} {R : Heap → α → Prop} (p : PT w j J B t R) (h : j ≤ k) : PT w k J B t R := fun A s Q E ok => p A s Q E (ok.le h)
theorem PT.weak {t : Sem α} {R R' : Heap → α → Prop} (p : PT w k J B t R) (h : ∀ x v, Ext B x → R x v → R' x v) : PT w k J B t R' :=
  fun A s Q E ok eb j q => p A s Q E ok eb j fun v B₁ h' tk st r => q v B₁ h' tk st (h _ _ st.bb r)
/-- one and then the next -/
theorem PT.seq {t : Sem α} {R : Heap → α → Prop} {R' : Heap → β → Prop} (hJ : Mono J) (p : PT w k J B t R) (f : α → Sem β) (q : ∀ v B', Ext B B' → R B' v → PT w k J B' (f v) R') : PT w k J B (t >>= f) R' :=
  fun A s Q E ok eb j c => wpAny_bind (p A s _ E ok eb j fun v B₁ h' tk st r =>
    q v B₁ st.bb r A _ Q E ok st.bh (hJ _ _ st.hh j) fun v' B₂ h'' tk' st' r' => c v' B₂ h'' tk' (st.trans st') r')
end
end Mine
end
section
open PySem PySem.W PyProof.Rows PySem.Calls
set_option Elab.async false
set_option maxRecDepth 100000
set_option linter.unusedVariables false
namespace Mine

/-- a frame's names and what else of the call's own is read -/
noncomputable def Fm (env : Env) (m : Str → Option Value) (cs : List (Addr × Obj)) : Heap → Prop := fun h => h.Ns env.locals m ∧ ∀ p ∈ cs, h.get? p.1 = some p.2
theorem Fm.mono {env : Env} {m : Str → Option Value} {cs : List (Addr × Obj)} : Mono (Fm env m cs) := fun _ _ e j => ⟨j.1.keeps e, fun p hp => e _ _ (j.2 p hp)⟩

structure PE (w : World) (k : Nat) (J : Heap → Prop) (env : Env) (B : Heap) (e : Expr) (d : PyData) : Prop where
  run : PT w k J B (eval e env) fun B' v => Rd B' v d
structure PEs (w : World) (k : Nat) (J : Heap → Prop) (env : Env) (pos : Pos) (B : Heap) (es : List Expr) (ds : List PyData) : Prop where
  run : PT w k J B (spliced (backTo pos (starEach es env))) fun B' vs => RdAll B' vs ds
/-- a test -/
structure TE (w : World) (k : Nat) (J : Heap → Prop) (env : Env) (B : Heap) (e : Expr) (b : Bool) : Prop where
  run : PT w k J B (isTrue e env (eval e env)) fun _ v => v = b

theorem PE.cast {w k J env B e d d'} (p : PE w k J env B e d) (q : d = d') : PE w k J env B e d' := q ▸ p
theorem PE.ext {w k J env B B' e d} (p : PE w k J env B e d) (q : Ext B B') : PE w k J env B' e d := ⟨PT.ext p.run q fun _ _ _ a b => Rd.ext b a⟩
theorem PEs.ext {w k J env pos B B' e d} (p : PEs w k J env pos B e d) (q : Ext B B') : PEs w k J env pos B' e d := ⟨PT.ext p.run q fun _ _ _ a b => RdAll.ext b a⟩
theorem TE.ext {w k J env B B' e d} (p : TE w k J env B e d) (q : Ext B B') : TE w k J env B' e d := ⟨PT.ext p.run q fun _ _ _ _ b => b⟩

section
variable {w : World} {k : Nat} {J : Heap → Prop} {env : Env} {B : Heap}

theorem pe_int {i : Int} {q : Nat} {pos : Pos} : PE w k J env B (.Constant (.int i) q pos) (.int i) := .mk fun _ s _ _ _ e _ c => wpAny_Constant_int (c _ B s.heap _ (.refl e) (.int ..))
theorem pe_str {i : Str} {q : Nat} {pos : Pos} : PE w k J env B (.Constant (.str i) q pos) (.str i) := .mk fun _ s _ _ _ e _ c => wpAny_Constant_str (c _ B s.heap _ (.refl e) (.str ..))
theorem pe_none {q : Nat} {pos : Pos} : PE w k J env B (.Constant .none q pos) .none := .mk fun _ s _ _ _ e _ c => wpAny_Constant_none (c _ B s.heap s.toks (.refl e) (.none ..))
theorem pe_local {x : Str} {pos : Pos} {m : Str → Option Value} {cs : List (Addr × Obj)} {v : Value} {d : PyData} (hv : m x = some v) (hr : Rd B v d)
    (hk : env.scope.kind = .function := by kernel_rfl) (hl : env.kindOf x = some .local := by kernel_rfl) (hd : (x == ("__debug__" : Str)) = false := by kernel_rfl) : PE w k (Fm env m cs) env B (.Name x pos) d :=
  .mk fun _ s _ _ _ e j c => wpAny_Name (wpAny_loadName_local hk hl j.1 hv (c _ B s.heap s.toks (.refl e) hr)) hd

/-- a step of two values -/
noncomputable def Bop (w : World) (op : Operator) (a b c : PyData) : Prop := ∀ (k : Nat) (J : Heap → Prop) (B : Heap) (x y : Value), Rd B x a → Rd B y b → PT w k J B (binaryOp op x y) fun B' v => Rd B' v c
theorem pe_bin {l r : Expr} {op : Operator} {pos : Pos} {a b c : PyData} (hJ : Mono J) (hl : PE w k J env B l a) (hr : PE w k J env B r b) (o : Bop w op a b c) : PE w k J env B (.BinOp l op r pos) c :=
  .mk fun A s Q E ok e j q => wpAny_BinOp (hl.run A s _ E ok e j fun x B₁ h₁ t₁ s₁ r₁ =>
    (hr.ext s₁.bb).run A _ _ E ok s₁.bh (hJ _ _ s₁.hh j) fun y B₂ h₂ t₂ s₂ r₂ =>
    o k J B₂ x y (r₁.ext s₂.bb) r₂ A _ Q E ok s₂.bh (hJ _ _ (s₁.hh.trans s₂.hh) j) fun v B₃ h₃ t₃ s₃ r₃ => q v B₃ h₃ t₃ ((s₁.trans s₂).trans s₃) r₃)
noncomputable def Cop (w : World) (op : CmpOp) (a b : PyData) (c : Bool) : Prop := ∀ (k : Nat) (J : Heap → Prop) (B : Heap) (x y : Value), Rd B x a → Rd B y b → PT w k J B (compareOp op x y) fun B' v => v = .bool c
theorem pe_cmp {l r : Expr} {op : CmpOp} {pos : Pos} {a b : PyData} {c : Bool} (hJ : Mono J) (hl : PE w k J env B l a) (hr : PE w k J env B r b) (o : Cop w op a b c) (hm : behindInMarks op r = false := by with_unfolding_all rfl) : PE w k J env B (.Compare l [op] [r] pos) (.bool c) :=
  .mk fun A s Q E ok e j q => wpAny_Compare1 (hl.run A s _ E ok e j fun x B₁ h₁ t₁ s₁ r₁ =>
    (hr.ext s₁.bb).run A _ _ E ok s₁.bh (hJ _ _ s₁.hh j) fun y B₂ h₂ t₂ s₂ r₂ =>
    o k J B₂ x y (r₁.ext s₂.bb) r₂ A _ Q E ok s₂.bh (hJ _ _ (s₁.hh.trans s₂.hh) j) fun v B₃ h₃ t₃ s₃ r₃ => q v B₃ h₃ t₃ ((s₁.trans s₂).trans s₃) (r₃ ▸ .bool ..)) hm
theorem te_cmp {l r : Expr} {op : CmpOp} {pos : Pos} {a b : PyData} {c : Bool} (hJ : Mono J) (hl : PE w k J env B l a) (hr : PE w k J env B r b) (o : Cop w op a b c) (hm : behindInMarks op r = false := by with_unfolding_all rfl) : TE w k J env B (.Compare l [op] [r] pos) c :=
  .mk fun A s Q E ok e j q => wpAny_isTrue_Compare1 (hl.run A s _ E ok e j fun x B₁ h₁ t₁ s₁ r₁ =>
    (hr.ext s₁.bb).run A _ _ E ok s₁.bh (hJ _ _ s₁.hh j) fun y B₂ h₂ t₂ s₂ r₂ =>
    o k J B₂ x y (r₁.ext s₂.bb) r₂ A _ _ E ok s₂.bh (hJ _ _ (s₁.hh.trans s₂.hh) j) fun v B₃ h₃ t₃ s₃ r₃ => by
      subst r₃
      exact wpAny_truthy_bool (q c B₃ h₃ t₃ ((s₁.trans s₂).trans s₃) rfl)) hm
theorem pe_neg {i : Int} {x : Expr} {pos : Pos} (hJ : Mono J) (h : PE w k J env B x (.int i)) : PE w k J env B (.UnaryOp .USub x pos) (.int (-i)) :=
  .mk fun A s Q E ok e j q => wpAny_UnaryOp (h.run A s _ E ok e j fun x B₁ h₁ t₁ s₁ r₁ => by
    obtain ⟨t, rfl⟩ := r₁.int_inv
    exact P.neg_int (q _ B₁ h₁ _ s₁ (.int ..)))

theorem pes_nil {pos : Pos} : PEs w k J env pos B [] [] := .mk fun A s Q E ok e j q => spliced_nil (q [] B s.heap s.toks (.refl e) (.nil _))
theorem pes_cons {pos : Pos} {x : Expr} {rest : List Expr} {d : PyData} {ds : List PyData} (hJ : Mono J) (h : PE w k J env B x d) (hr : PEs w k J env pos B rest ds)
    (he : starEach (x :: rest) env = (false, eval x env) :: starEach rest env := by kernel_rfl) : PEs w k J env pos B (x :: rest) (d :: ds) :=
  .mk fun A s Q E ok e j q => spliced_more (h.run A s _ E ok e j fun v B₁ h₁ t₁ s₁ r₁ =>
    (hr.ext s₁.bb).run A _ _ E ok s₁.bh (hJ _ _ s₁.hh j) fun vs B₂ h₂ t₂ s₂ r₂ => q _ B₂ h₂ t₂ (s₁.trans s₂) (.cons (r₁.ext s₂.bb) r₂)) he

/-- a new object of the call's own, frozen at once -/
theorem step_push {B h : Heap} (o : Obj) (e : Ext B h) (hf : o.isFreed = false) : ∃ B', Step B h B' (h.push o) ∧ B'.get? h.objs.size = some o :=
  ⟨grow B h (h.push o), grow_step e (Ext.push _ _) (by rw [Heap.size_push]; omega), by rw [grow_new (Nat.le_refl _)]; exact Heap.get?_push_size _ hf⟩
theorem pe_tuple {es : List Expr} {q : Nat} {pos : Pos} {ds : List PyData} (h : PEs w k J env pos B es ds) (hz : ds.length ≤ sizeLine := by first | decide | simp [sizeLine]) : PE w k J env B (.Tuple es q pos) (.tuple ds) :=
  .mk fun A s Q E ok e j q => Tuple_ (h.run A s _ E ok e j fun vs B₁ h₁ t₁ s₁ r₁ => by
    obtain ⟨B₂, s₂, g⟩ := step_push { cls := .type "tuple", data := .seq vs.toArray } s₁.bh rfl
    exact wpAny_newTuple (q _ B₂ _ _ (s₁.trans s₂) (Rd.tuple ⟨_, g, rfl, _, rfl⟩ (r₁.ext s₂.bb))) (by rw [r₁.length]; exact hz))
theorem pe_list {es : List Expr} {pos : Pos} {ds : List PyData} (h : PEs w k J env pos B es ds) (hz : ds.length ≤ sizeLine := by first | decide | simp [sizeLine]) : PE w k J env B (.List es pos) (.list ds) :=
  .mk fun A s Q E ok e j q => List_ (h.run A s _ E ok e j fun vs B₁ h₁ t₁ s₁ r₁ => by
    obtain ⟨B₂, s₂, g⟩ := step_push { cls := .type "list", data := .seq vs.toArray } s₁.bh rfl
    exact wpAny_newList (q _ B₂ _ _ (s₁.trans s₂) (Rd.list ⟨_, g, rfl, _, rfl⟩ (r₁.ext s₂.bb))) (by rw [r₁.length]; exact hz))

theorem bop_add (i j : Int) : Bop w .Add (.int i) (.int j) (.int (i + j)) := fun k J B x y rx ry A s Q E ok e _ q => by
  obtain ⟨t, rfl⟩ := rx.int_inv; obtain ⟨u, rfl⟩ := ry.int_inv
  exact P.add_int (q _ B s.heap _ (.refl e) (.int ..))
theorem bop_sub (i j : Int) : Bop w .Sub (.int i) (.int j) (.int (i - j)) := fun k J B x y rx ry A s Q E ok e _ q => by
  obtain ⟨t, rfl⟩ := rx.int_inv; obtain ⟨u, rfl⟩ := ry.int_inv
  exact P.sub_int (q _ B s.heap _ (.refl e) (.int ..))
theorem bop_mod (i j : Int) (h : j ≠ 0) : Bop w .Mod (.int i) (.int j) (.int (i.fmod j)) := fun k J B x y rx ry A s Q E ok e _ q => by
  obtain ⟨t, rfl⟩ := rx.int_inv; obtain ⟨u, rfl⟩ := ry.int_inv
  exact mod_int' h (q _ B s.heap _ (.refl e) (.int ..))
theorem bop_div (i j : Int) (h : j ≠ 0) (hp : Builtin.divisionGoesByPylong i j = false) : Bop w .FloorDiv (.int i) (.int j) (.int (i.fdiv j)) := fun k J B x y rx ry A s Q E ok e _ q => by
  obtain ⟨t, rfl⟩ := rx.int_inv; obtain ⟨u, rfl⟩ := ry.int_inv
  exact floordiv_int h (q _ B s.heap _ (.refl e) (.int ..)) (.inl hp)
theorem bop_pow (i j : Int) (h : 0 ≤ j) (hz : (Builtin.Int.intBits i : Int) * j ≤ 2 ^ 27) : Bop w .Pow (.int i) (.int j) (.int (i ^ j.toNat)) := fun k J B x y rx ry A s Q E ok e _ q => by
  obtain ⟨t, rfl⟩ := rx.int_inv; obtain ⟨u, rfl⟩ := ry.int_inv
  exact pow_int h hz (q _ B s.heap _ (.refl e) (.int ..))
theorem bop_list (a b : List PyData) (hz : a.length + b.length ≤ sizeLine) : Bop w .Add (.list a) (.list b) (.list (a ++ b)) := fun k J B x y rx ry A s Q E ok e _ q => by
  obtain ⟨l, vs, rfl, hl, ra⟩ := rx.list_inv
  obtain ⟨l2, ws, rfl, hl2, rb⟩ := ry.list_inv
  obtain ⟨⟨c1, d1, dt1, sl1⟩, h1, h2, n1, h3⟩ := hl
  obtain ⟨⟨c2, d2, dt2, sl2⟩, g1, g2, n2, g3⟩ := hl2
  simp only at h2 h3 g2 g3
  subst h2 h3 g2 g3
  have hz' : vs.toArray.size + ws.toArray.size ≤ sizeLine := by simpa [ra.length, rb.length] using hz
  refine concat_meets ⟨_, e _ _ h1, rfl⟩ ⟨_, e _ _ g1, rfl⟩ noFill_list_add seq_list_add PySem.F.slot_list_add PySem.F.entry_list_add (PySem.F.args_list_add_2 _ _) (list_addW l l2 vs.toArray ws.toArray n1 n2 d1 d2 sl1 sl2 hz') ⟨e _ _ h1, e _ _ g1, ?_⟩
  obtain ⟨B₂, s₂, g⟩ := step_push { cls := .type "list", data := .seq (vs.toArray ++ ws.toArray) } e rfl
  refine q _ B₂ _ _ s₂ (Rd.list (vs := vs ++ ws) ⟨_, g, rfl, 0, by simp⟩ (RdAll.append (ra.ext s₂.bb) (rb.ext s₂.bb)))
theorem cop_eqi (i j : Int) : Cop w .Eq (.int i) (.int j) (i == j) := fun k J B x y rx ry A s Q E ok e _ q => by
  obtain ⟨t, rfl⟩ := rx.int_inv; obtain ⟨u, rfl⟩ := ry.int_inv
  exact P.eq_int (q _ B s.heap s.toks (.refl e) rfl)
theorem cop_nei (i j : Int) : Cop w .NotEq (.int i) (.int j) (i != j) := fun k J B x y rx ry A s Q E ok e _ q => by
  obtain ⟨t, rfl⟩ := rx.int_inv; obtain ⟨u, rfl⟩ := ry.int_inv
  exact P.ne_int (q _ B s.heap s.toks (.refl e) rfl)
theorem cop_lti (i j : Int) : Cop w .Lt (.int i) (.int j) (decide (i < j)) := fun k J B x y rx ry A s Q E ok e _ q => by
  obtain ⟨t, rfl⟩ := rx.int_inv; obtain ⟨u, rfl⟩ := ry.int_inv
  exact P.lt_int (q _ B s.heap s.toks (.refl e) rfl)
theorem cop_lei (i j : Int) : Cop w .LtE (.int i) (.int j) (decide (i ≤ j)) := fun k J B x y rx ry A s Q E ok e _ q => by
  obtain ⟨t, rfl⟩ := rx.int_inv; obtain ⟨u, rfl⟩ := ry.int_inv
  exact P.le_int (q _ B s.heap s.toks (.refl e) rfl)
theorem cop_gti (i j : Int) : Cop w .Gt (.int i) (.int j) (decide (i > j)) := fun k J B x y rx ry A s Q E ok e _ q => by
  obtain ⟨t, rfl⟩ := rx.int_inv; obtain ⟨u, rfl⟩ := ry.int_inv
  exact P.gt_int (q _ B s.heap s.toks (.refl e) rfl)
theorem cop_gei (i j : Int) : Cop w .GtE (.int i) (.int j) (decide (i ≥ j)) := fun k J B x y rx ry A s Q E ok e _ q => by
  obtain ⟨t, rfl⟩ := rx.int_inv; obtain ⟨u, rfl⟩ := ry.int_inv
  exact P.ge_int (q _ B s.heap s.toks (.refl e) rfl)
theorem cop_eq (a b : PyData) (ha : SeqAt.shaped a = true) (hb : SeqAt.shaped b = true) : Cop w .Eq a b (PyData.eqv a b) := fun k J B x y rx ry A s Q E ok e _ q => by
  obtain ⟨_, ra⟩ := rx.ext e; obtain ⟨_, rb⟩ := ry.ext e
  exact eq_dataH ra rb ha hb ok.u64 (q _ B s.heap s.toks (.refl e) rfl)
theorem cop_ne (a b : PyData) (ha : SeqAt.shaped a = true) (hb : SeqAt.shaped b = true) : Cop w .NotEq a b (!PyData.eqv a b) := fun k J B x y rx ry A s Q E ok e _ q => by
  obtain ⟨_, ra⟩ := rx.ext e; obtain ⟨_, rb⟩ := ry.ext e
  exact ne_dataH ra rb ha hb ok.u64 (q _ B s.heap s.toks (.refl e) rfl)
end
end Mine
end
section
open PySem PySem.W PyProof.Rows PySem.Calls
set_option Elab.async false
set_option maxRecDepth 100000
set_option linter.unusedVariables false
namespace Mine

/-- what is known of the standing part -/
structure Bs (w : World) (B : Heap) : Prop where
  k : (Kf w).In B
  b : ∃ mb, B.Ns builtinsNs mb ∧ ∀ x : Str, x ≠ "__name__" → mb x = bootBuiltins x
  lim : B.NoLimit
  bm : ∃ mg bm ob, BMod B 3 mg bm ob
theorem Bs.ext {w : World} {B B' : Heap} (h : Bs w B) (e : Ext B B') : Bs w B' := ⟨h.k.keeps e, let ⟨mb, a, b⟩ := h.b; ⟨mb, a.keeps e, b⟩, h.lim.keeps e, let ⟨mg, bm, ob, x⟩ := h.bm; ⟨mg, bm, ob, x.ns.keeps e, x.name, x.ne, e _ _ x.obj, x.cls, x.dict, x.data⟩⟩

noncomputable def upd (m : Str → Option Value) (x : Str) (v : Value) : Str → Option Value := fun y => if y = x then some v else m y
theorem upd_self {m : Str → Option Value} {x : Str} {v : Value} : upd m x v x = some v := by simp [upd]
theorem upd_ne {m : Str → Option Value} {x y : Str} {v : Value} {r : Option Value} (h : m y = r) (hn : (y == x) = false := by kernel_rfl) : upd m x v y = r := by
  have : ¬ y = x := by simpa using hn
  simp [upd, this, h]

section
variable {w : World} {k : Nat} {J : Heap → Prop} {env : Env} {B : Heap}

theorem ld_fn {x : Str} {pos : Pos} {v : Value} (hb : Bs w B) (e : nsIn (Kf w) 3 x = some (some v)) (hg : env.globals = 3 := by kernel_rfl) (hk : env.scope.kind = .function := by kernel_rfl) (hx : env.kindOf x = some .globalImplicit := by kernel_rfl) (hd : (x == ("__debug__" : Str)) = false := by kernel_rfl) :
    PT w k J B (eval (.Name x pos) env) fun _ r => r = v := fun A s Q E ok eb j q => by
  refine Name_function_global hk hx ?_ hd
  unfold loadGlobal
  rw [hg]
  exact wpAny_bind (looks_nsIn (hb.k.keeps eb) e A _ E s (Ext.refl _) (wpAny_pure (q v B s.heap s.toks (.refl eb) rfl)))
theorem ld_bi {x : Str} {pos : Pos} {v : Value} (hb : Bs w B) (e : nsIn (Kf w) 3 x = some none) (hv : bootBuiltins x = some v) (hg : env.globals = 3 := by kernel_rfl) (hbi : env.builtins = builtinsNs := by kernel_rfl) (hk : env.scope.kind = .function := by kernel_rfl) (hx : env.kindOf x = some .globalImplicit := by kernel_rfl)
    (hn : (x == ("__name__" : Str)) = false := by kernel_rfl) (hd : (x == ("__debug__" : Str)) = false := by kernel_rfl) :
    PT w k J B (eval (.Name x pos) env) fun _ r => r = v := fun A s Q E ok eb j q => by
  refine Name_function_global hk hx ?_ hd
  unfold loadGlobal
  rw [hg, hbi]
  obtain ⟨mb, hm, hmb⟩ := hb.b
  refine wpAny_bind (looks_nsIn (hb.k.keeps eb) e A _ E s (Ext.refl _) ?_)
  refine wpAny_bind (wpAny_nsGet (hm.keeps eb) ?_)
  rw [hmb x (by intro e; rw [e] at hn; exact absurd hn (by decide +kernel)), hv]
  exact wpAny_pure (q v B s.heap s.toks (.refl eb) rfl)

/-- an item of a list -/
theorem pe_item {value idx : Expr} {pos : Pos} {ds : List PyData} {i : Int} {d : PyData} (hJ : Mono J) (hv : PE w k J env B value (.list ds)) (hi : PE w k J env B idx (.int i)) (h0 : 0 ≤ i) (h1 : i < 2 ^ 63) (hd : ds[i.toNat]? = some d)
    (hs : ∀ l t, subscripted idx false (.ref l) (.int i t) = operate [.ref l, .int i t] (getItem (.ref l) (.int i t)) := by intro _ _; with_unfolding_all rfl) : PE w k J env B (.Subscript value idx pos) d :=
  .mk fun A s Q E ok e j q => Subscript_ (hv.run A s _ E ok e j fun x B₁ h₁ t₁ s₁ r₁ => (hi.ext s₁.bb).run A _ _ E ok s₁.bh (hJ _ _ s₁.hh j) fun y B₂ h₂ t₂ s₂ r₂ => by
    obtain ⟨t, rfl⟩ := r₂.int_inv
    obtain ⟨l, vs, rfl, hl, ra⟩ := (r₁.ext s₂.bb).list_inv
    obtain ⟨v, hv', rv⟩ := ra.get hd
    have hl' : h₂.IsList l vs.toArray := hl.at fun o e => s₂.bh _ _ e
    exact tail_any (s := { s with heap := h₂, toks := t₂ }) hl'.typeIs slot_list_getitem.lookup (wpAny_getItem_list hl' h0 h1 (by simpa using hv') (q v B₂ h₂ t₂ (s₁.trans s₂) rv)) (hs l t))
/-- the last item of a list -/
theorem pe_last {value idx : Expr} {pos : Pos} {ds : List PyData} {d : PyData} (hJ : Mono J) (hv : PE w k J env B value (.list ds)) (hi : PE w k J env B idx (.int (-1))) (hd : ds[ds.length - 1]? = some d) (hz : ds ≠ [])
    (hs : ∀ l t, subscripted idx false (.ref l) (.int (-1) t) = operate [.ref l, .int (-1) t] (getItem (.ref l) (.int (-1) t)) := by intro _ _; with_unfolding_all rfl) : PE w k J env B (.Subscript value idx pos) d :=
  .mk fun A s Q E ok e j q => Subscript_ (hv.run A s _ E ok e j fun x B₁ h₁ t₁ s₁ r₁ => (hi.ext s₁.bb).run A _ _ E ok s₁.bh (hJ _ _ s₁.hh j) fun y B₂ h₂ t₂ s₂ r₂ => by
    obtain ⟨t, rfl⟩ := r₂.int_inv
    obtain ⟨l, vs, rfl, hl, ra⟩ := (r₁.ext s₂.bb).list_inv
    obtain ⟨v, hv', rv⟩ := ra.get hd
    have hl' : h₂.IsList l vs.toArray := hl.at fun o e => s₂.bh _ _ e
    have hn : 1 ≤ vs.length := by rw [ra.length]; cases ds with | nil => exact absurd rfl hz | cons _ _ => simp
    have hx : vs.toArray[((-1 : Int) + (vs.toArray.size : Int)).toNat]? = some v := by
      have : ((-1 : Int) + (vs.toArray.size : Int)).toNat = ds.length - 1 := by simp [ra.length]; omega
      rw [this]; simpa using hv'
    exact tail_any (s := { s with heap := h₂, toks := t₂ }) hl'.typeIs slot_list_getitem.lookup (wpAny_getItem_list_neg hl' (by decide) (by simp; omega) (by decide) hx (q v B₂ h₂ t₂ (s₁.trans s₂) rv)) (hs l t))
/-- an item of a tuple -/
theorem pe_titem {value idx : Expr} {pos : Pos} {ds : List PyData} {i : Int} {d : PyData} (hJ : Mono J) (hv : PE w k J env B value (.tuple ds)) (hi : PE w k J env B idx (.int i)) (h0 : 0 ≤ i) (h1 : i < 2 ^ 63) (hd : ds[i.toNat]? = some d)
    (hs : ∀ l t, subscripted idx false (.ref l) (.int i t) = operate [.ref l, .int i t] (getItem (.ref l) (.int i t)) := by intro _ _; with_unfolding_all rfl) : PE w k J env B (.Subscript value idx pos) d :=
  .mk fun A s Q E ok e j q => Subscript_ (hv.run A s _ E ok e j fun x B₁ h₁ t₁ s₁ r₁ => (hi.ext s₁.bb).run A _ _ E ok s₁.bh (hJ _ _ s₁.hh j) fun y B₂ h₂ t₂ s₂ r₂ => by
    obtain ⟨t, rfl⟩ := r₂.int_inv
    obtain ⟨l, vs, rfl, hl, ra⟩ := (r₁.ext s₂.bb).tuple_inv
    obtain ⟨v, hv', rv⟩ := ra.get hd
    have hl' : IsTup h₂ l vs.toArray := hl.keeps s₂.bh
    have hlt : i.toNat < vs.length := (List.getElem?_eq_some_iff.mp hv').1
    refine item_tupleT (s := { s with heap := h₂, toks := t₂ }) hl' (by omega) h1 (j := i.toNat) ?_ hv' (q v B₂ h₂ t₂ (s₁.trans s₂) rv) (hs l t)
    unfold seqIndex?
    have a1 : ¬ i < 0 := by omega
    have a2 : ¬ i ≥ (vs.length : Int) := by omega
    simp [a1, a2])

theorem part_int {i : Int} {t : Tok} : IsPart (.int i t) (some i) := by constructor
/-- the head of a list -/
theorem pe_upto {value up : Expr} {p pos : Pos} {ds : List PyData} {n : Nat} (hJ : Mono J) (hv : PE w k J env B value (.list ds)) (hi : PE w k J env B up (.int n)) (hz : ds.length ≤ sizeLine)
    (ht : ∀ o r, letTemporaryGo value o r = pure () := by intro _ _; rfl) : PE w k J env B (.Subscript value (.Slice none (some up) none p) pos) (.list (ds.take n)) :=
  .mk fun A s Q E ok e j q => wpAny_Subscript_list_slice (hv.run A s _ E ok e j fun x B₁ h₁ t₁ s₁ r₁ => wpAny_evalPart_none (wpAny_evalPart_some ((hi.ext s₁.bb).run A _ _ E ok s₁.bh (hJ _ _ s₁.hh j) fun y B₂ h₂ t₂ s₂ r₂ => by
    obtain ⟨t, rfl⟩ := r₂.int_inv
    obtain ⟨l, vs, rfl, hl, ra⟩ := (r₁.ext s₂.bb).list_inv
    have hl' : h₂.IsList l vs.toArray := hl.at fun o e => s₂.bh _ _ e
    refine ⟨l, _, none, some n, rfl, hl', by simpa [ra.length] using hz, .none, part_int, ?_⟩
    obtain ⟨B₃, s₃, _⟩ := step_push { cls := .type "slice", data := .fields #[.none, .int n t, .none] } s₂.bh rfl
    obtain ⟨B₄, s₄, g⟩ := step_push { cls := .type "list", data := .seq (slicePick vs.toArray none (some n) none) } s₃.bh rfl
    rw [Heap.size_push] at g
    refine q _ B₄ _ _ (((s₁.trans s₂).trans s₃).trans s₄) (Rd.list (vs := vs.take n) ⟨_, g, rfl, 0, by rw [slicePick_upto']⟩ ((ra.take n).ext (s₃.trans s₄).bb)))) ) ht
/-- the tail of a list -/
theorem pe_from {value lo : Expr} {p pos : Pos} {ds : List PyData} {n : Nat} (hJ : Mono J) (hv : PE w k J env B value (.list ds)) (hi : PE w k J env B lo (.int n)) (hz : ds.length ≤ sizeLine)
    (ht : ∀ o r, letTemporaryGo value o r = pure () := by intro _ _; rfl) : PE w k J env B (.Subscript value (.Slice (some lo) none none p) pos) (.list (ds.drop n)) :=
  .mk fun A s Q E ok e j q => wpAny_Subscript_list_slice (hv.run A s _ E ok e j fun x B₁ h₁ t₁ s₁ r₁ => wpAny_evalPart_some ((hi.ext s₁.bb).run A _ _ E ok s₁.bh (hJ _ _ s₁.hh j) fun y B₂ h₂ t₂ s₂ r₂ => wpAny_evalPart_none (by
    obtain ⟨t, rfl⟩ := r₂.int_inv
    obtain ⟨l, vs, rfl, hl, ra⟩ := (r₁.ext s₂.bb).list_inv
    have hl' : h₂.IsList l vs.toArray := hl.at fun o e => s₂.bh _ _ e
    refine ⟨l, _, some n, none, rfl, hl', by simpa [ra.length] using hz, part_int, .none, ?_⟩
    obtain ⟨B₃, s₃, _⟩ := step_push { cls := .type "slice", data := .fields #[.int n t, .none, .none] } s₂.bh rfl
    obtain ⟨B₄, s₄, g⟩ := step_push { cls := .type "list", data := .seq (slicePick vs.toArray (some n) none none) } s₃.bh rfl
    rw [Heap.size_push] at g
    refine q _ B₄ _ _ (((s₁.trans s₂).trans s₃).trans s₄) (Rd.list (vs := vs.drop n) ⟨_, g, rfl, 0, by rw [slicePick_from']⟩ ((ra.drop n).ext (s₃.trans s₄).bb))))) ht

/-- a call of a built-in by its name -/
theorem pe_bicall {x : Str} {p pos : Pos} {a : Expr} {rest : List Expr} {id : String} {ds : List PyData} {d : PyData} (hJ : Mono J) (hb : Bs w B) (e : nsIn (Kf w) 3 x = some none) (hv : bootBuiltins x = some (.builtin id)) (ha : PEs w k J env pos B (a :: rest) ds)
    (hc : ∀ B' vs, Ext B B' → RdAll B' vs ds → PT w k J B' (call (.builtin id) vs) fun B'' v => Rd B'' v d)
    (hg : env.globals = 3 := by kernel_rfl) (hbi : env.builtins = builtinsNs := by kernel_rfl) (hk : env.scope.kind = .function := by kernel_rfl) (hx : env.kindOf x = some .globalImplicit := by kernel_rfl)
    (hn : (x == ("__name__" : Str)) = false := by kernel_rfl) (hd : (x == ("__debug__" : Str)) = false := by kernel_rfl)
    (he : starEach (a :: rest) env = (false, eval a env) :: starEach rest env := by kernel_rfl) (hplain : (backTo pos (starEach rest env)).any (·.1) = false := by kernel_rfl) : PE w k J env B (.Call (.Name x p) (a :: rest) [] pos) d :=
  .mk fun A s Q E ok eb j q => wpAny_Call_NameR (ld_bi (pos := p) hb e hv hg hbi hk hx hn hd A s _ E ok eb j fun f B₁ h₁ t₁ s₁ r₁ => by
    subst r₁
    exact callWith_builtin1 ((ha.ext s₁.bb).run A _ _ E ok s₁.bh (hJ _ _ s₁.hh j) fun vs B₂ h₂ t₂ s₂ r₂ =>
      hc B₂ vs (s₁.bb.trans s₂.bb) r₂ A _ Q E ok s₂.bh (hJ _ _ (s₁.hh.trans s₂.hh) j) fun v B₃ h₃ t₃ s₃ r₃ => q v B₃ h₃ t₃ ((s₁.trans s₂).trans s₃) r₃) he hplain)
theorem pt_len {ds : List PyData} {vs : List Value} (r : RdAll B vs [.list ds]) (hz : ds.length < 2 ^ 62) : PT w k J B (call (.builtin "len") vs) fun B'' v => Rd B'' v (.int ds.length) := fun A s Q E ok eb j q => by
  obtain ⟨v, vs', rfl, rv, r'⟩ := r.cons_inv
  rw [r'.nil_inv]
  obtain ⟨l, ws, rfl, hl, ra⟩ := rv.list_inv
  have hl' : s.heap.IsList l ws.toArray := hl.at fun o e => eb _ _ e
  have e : (ws.toArray.size : Int) = ds.length := by simp [ra.length]
  refine call_len_list hl' (by rw [e]; omega) ?_
  rw [e]
  exact q _ B s.heap _ (.refl eb) (.int ..)
theorem pe_len {x : Str} {p pos : Pos} {a : Expr} {ds : List PyData} (hJ : Mono J) (hb : Bs w B) (ha : PE w k J env B a (.list ds)) (hz : ds.length < 2 ^ 62) (hxx : x = Str.ofString "len" := by rfl)
    (hg : env.globals = 3 := by kernel_rfl) (hbi : env.builtins = builtinsNs := by kernel_rfl) (hk : env.scope.kind = .function := by kernel_rfl) (hx : env.kindOf (Str.ofString "len") = some .globalImplicit := by kernel_rfl)
    (he : starEach [a] env = (false, eval a env) :: starEach [] env := by kernel_rfl) : PE w k J env B (.Call (.Name x p) [a] [] pos) (.int ds.length) := by
  subst hxx
  exact pe_bicall hJ hb (by kernel_rfl) (by kernel_rfl) (pes_cons hJ ha pes_nil he) (fun B' vs eb r => pt_len r hz) hg hbi hk hx (by kernel_rfl) (by kernel_rfl) he rfl
/-- a call of a def by its name -/
theorem pe_fncall {x : Str} {p pos : Pos} {a : Expr} {rest : List Expr} {f : Addr} {oc : Value} {od : Option Addr} {fd : FuncData} {osl : Array (Option Value)} {ds : List PyData} {d : PyData} (hJ : Mono J) (hb : Bs w B) (e : nsIn (Kf w) 3 x = some (some (.ref f))) (ho : (Kf w).lookup f = some ⟨oc, od, .func fd, osl⟩) (ha : PEs w k J env pos B (a :: rest) ds)
    (hc : ∀ B' vs, Ext B B' → RdAll B' vs ds → PT w k J B' (call (.ref f) vs) fun B'' v => Rd B'' v d)
    (hg : env.globals = 3 := by kernel_rfl) (hk : env.scope.kind = .function := by kernel_rfl) (hx : env.kindOf x = some .globalImplicit := by kernel_rfl)
    (hd : (x == ("__debug__" : Str)) = false := by kernel_rfl)
    (he : starEach (a :: rest) env = (false, eval a env) :: starEach rest env := by kernel_rfl) : PE w k J env B (.Call (.Name x p) (a :: rest) [] pos) d :=
  .mk fun A s Q E ok eb j q => wpAny_Call_NameR (ld_fn (pos := p) hb e hg hk hx hd A s _ E ok eb j fun fv B₁ h₁ t₁ s₁ r₁ => by
    subst r₁
    exact callWith_def (o := ⟨oc, od, .func fd, osl⟩) (fd := fd) rfl ((ha.ext s₁.bb).run A _ _ E ok s₁.bh (hJ _ _ s₁.hh j) fun vs B₂ h₂ t₂ s₂ r₂ =>
      ⟨s₂.bh _ _ ((hb.ext (s₁.bb.trans s₂.bb)).k _ _ ho), hc B₂ vs (s₁.bb.trans s₂.bb) r₂ A _ Q E ok s₂.bh (hJ _ _ (s₁.hh.trans s₂.hh) j) fun v B₃ h₃ t₃ s₃ r₃ => q v B₃ h₃ t₃ ((s₁.trans s₂).trans s₃) r₃⟩) he)
end
end Mine
end
section
open PySem PySem.W PyProof.Rows PySem.Calls
set_option Elab.async false
set_option maxRecDepth 100000
set_option linter.unusedVariables false
namespace Mine

/-- a frame in its course: L its names' place, M what it may change beside them (written out), X what stood before and may have been changed, B₀ and h₀ the standing part and the heap at its start -/
structure At (X : List Addr) (L : Addr) (M : List (Addr × Obj)) (B₀ h₀ : Heap) (m : Str → Option Value) (B h : Heap) : Prop where
  ns : h.Ns L m
  own : ∀ p ∈ M, h.get? p.1 = some p.2
  offL : B.get? L = none
  newL : h₀.objs.size ≤ L
  offM : ∀ p ∈ M, B.get? p.1 = none ∧ p.1 ≠ L ∧ (p.1 ∈ X ∨ h₀.objs.size ≤ p.1)
  nd : (M.map (·.1)).Nodup
  bh : Ext B h
  bb : Ext B₀ B
  kp : ∀ b o, b ∉ X → h₀.get? b = some o → h.get? b = some o
  sz : h₀.objs.size ≤ h.objs.size
  fresh : ∀ a o, B.get? a = some o → B₀.get? a = some o ∨ h₀.objs.size ≤ a

section
variable {X : List Addr} {L : Addr} {M : List (Addr × Obj)} {B₀ h₀ B h B' h' : Heap} {m m' : Str → Option Value}
theorem At.fm {env : Env} (a : At X env.locals M B₀ h₀ m B h) : Fm env m M h := ⟨a.ns, a.own⟩
theorem At.ltL (a : At X L M B₀ h₀ m B h) : L < h.objs.size := a.ns.lt
theorem At.step (a : At X L M B₀ h₀ m B h) (s : Step B h B' h') : At X L M B₀ h₀ m B' h' := by
  refine ⟨a.ns.keeps s.hh, fun p hp => s.hh _ _ (a.own p hp), ?_, a.newL, fun p hp => ⟨?_, (a.offM p hp).2⟩, a.nd, s.bh, a.bb.trans s.bb, fun b o hx e => s.hh _ _ (a.kp b o hx e), Nat.le_trans a.sz s.sz, fun x o e => ?_⟩
  · cases e : B'.get? L with
    | none => rfl
    | some o =>
      rcases s.fresh L o e with c | c
      · rw [a.offL] at c; cases c
      · exact absurd a.ltL (Nat.not_lt.mpr c)
  · cases e : B'.get? p.1 with
    | none => rfl
    | some o =>
      rcases s.fresh _ o e with c | c
      · rw [(a.offM p hp).1] at c; cases c
      · exact absurd (Heap.lt_size (a.own p hp)) (Nat.not_lt.mpr c)
  · rcases s.fresh x o e with c | c
    · exact a.fresh x o c
    · exact .inr (Nat.le_trans a.sz c)
theorem At.store (a : At X L M B₀ h₀ m B h) (hn : h'.Ns L m') (hs : Heap.SameBut L h h') : At X L M B₀ h₀ m' B h' :=
  ⟨hn, fun p hp => (hs.2 _ (a.offM p hp).2.1).trans (a.own p hp), a.offL, a.newL, a.offM, a.nd, fun b o e => (hs.2 b (fun q => by rw [q, a.offL] at e; cases e)).trans (a.bh b o e), a.bb,
    fun b o hx e => (hs.2 b (fun q => by subst q; exact absurd (Heap.lt_size e) (Nat.not_lt.mpr a.newL))).trans (a.kp b o hx e), by rw [hs.1]; exact a.sz, a.fresh⟩
/-- one of the things that may change is changed -/
theorem At.change {p : Addr} {o o' : Obj} {M₁ M₂ : List (Addr × Obj)} (a : At X L (M₁ ++ (p, o) :: M₂) B₀ h₀ m B h) (hg : h'.get? p = some o') (hs : Heap.SameBut p h h') : At X L (M₁ ++ (p, o') :: M₂) B₀ h₀ m B h' := by
  have hp := a.offM (p, o) (by simp)
  have nd := a.nd
  simp only [List.map_append, List.map_cons, List.nodup_append, List.nodup_cons] at nd
  refine ⟨a.ns.sameBut hs (Ne.symm hp.2.1), fun q hq => ?_, a.offL, a.newL, fun q hq => ?_, by simpa using a.nd, fun b o e => (hs.2 b (fun q => by rw [q, hp.1] at e; cases e)).trans (a.bh b o e), a.bb, fun b o hx e => (hs.2 b fun q => ?_).trans (a.kp b o hx e), by rw [hs.1]; exact a.sz, a.fresh⟩
  · simp only [List.mem_append, List.mem_cons] at hq
    rcases hq with hq | hq | hq
    · refine (hs.2 _ fun e => ?_).trans (a.own q (by simp [hq]))
      exact nd.2.2 q.1 (List.mem_map_of_mem hq) p (by simp) e
    · subst hq; exact hg
    · refine (hs.2 _ fun e => ?_).trans (a.own q (by simp [hq]))
      exact nd.2.1.1 (e ▸ List.mem_map_of_mem hq)
  · simp only [List.mem_append, List.mem_cons] at hq
    rcases hq with hq | hq | hq
    · exact a.offM q (by simp [hq])
    · subst hq; exact hp
    · exact a.offM q (by simp [hq])
  · subst q
    rcases hp.2.2 with c | c
    · exact hx c
    · exact absurd (Heap.lt_size e) (Nat.not_lt.mpr c)
/-- a new thing that may change -/
theorem At.new (a : At X L M B₀ h₀ m B h) (o : Obj) (hf : o.isFreed = false := by rfl) : At X L ((h.objs.size, o) :: M) B₀ h₀ m B (h.push o) := by
  refine ⟨a.ns.push o, fun p hp => ?_, a.offL, a.newL, fun p hp => ?_, ?_, fun b o e => Heap.get?_push_of_some _ (a.bh b o e), a.bb, fun b o hx e => Heap.get?_push_of_some _ (a.kp b o hx e), by rw [Heap.size_push]; exact Nat.le_succ_of_le a.sz, a.fresh⟩
  · rcases List.mem_cons.mp hp with rfl | hp
    · exact Heap.get?_push_size _ hf
    · exact Heap.get?_push_of_some _ (a.own p hp)
  · rcases List.mem_cons.mp hp with rfl | hp
    · refine ⟨?_, Nat.ne_of_gt a.ltL, .inr a.sz⟩
      cases e : B.get? h.objs.size with
      | none => rfl
      | some o => exact absurd (Heap.lt_size (a.bh _ _ e)) (Nat.lt_irrefl _)
    · exact a.offM p hp
  · simp only [List.map_cons, List.nodup_cons]
    refine ⟨fun hm => ?_, a.nd⟩
    obtain ⟨q, hq, e⟩ := List.mem_map.mp hm
    exact absurd (Heap.lt_size (a.own q hq)) (by rw [e]; exact Nat.lt_irrefl _)
/-- forget what may change -/
theorem At.drop {M' : List (Addr × Obj)} (a : At X L M B₀ h₀ m B h) (hs : M'.Sublist M) : At X L M' B₀ h₀ m B h :=
  ⟨a.ns, fun p hp => a.own p (hs.subset hp), a.offL, a.newL, fun p hp => a.offM p (hs.subset hp), (hs.map _).nodup a.nd, a.bh, a.bb, a.kp, a.sz, a.fresh⟩
theorem At.ext (a : At X L M B₀ h₀ m B h) : Ext B h := a.bh
/-- the end: what the caller knows -/
theorem At.end (a : At [] L M B₀ h₀ m B h) : Step B₀ h₀ B h := ⟨a.bb, a.bh, fun b o e => a.kp b o (by simp) e, a.sz, a.fresh⟩
end

section
variable {w : World} {k : Nat} {env : Env} {A : Around} {s : Shared} {E : Value → Shared → Prop} {Q : Flow → Shared → Prop} {X : List Addr} {M : List (Addr × Obj)} {B₀ h₀ B : Heap} {m : Str → Option Value}

theorem xo_assign {x : Str} {px pos : Pos} {e : Expr} {d : PyData} (ok : Ok k A) (a : At X env.locals M B₀ h₀ m B s.heap) (p : PE w k (Fm env m M) env B e d)
    (next : ∀ v B' h' tk, At X env.locals M B₀ h₀ (upd m x v) B' h' → Ext B B' → Rd B' v d → Q .next { s with heap := h', toks := tk })
    (hl : env.kindOf x = some .local := by kernel_rfl) (hk : env.scope.kind = .function := by kernel_rfl) (hs : swapsWith e (some (.Name x px)) pos.line env = pure false := by kernel_rfl) : wpAny (model Pr w) A (exec (.Assign [.Name x px] e pos) env) Q E s :=
  wpAny_Assign_Name (p.run A s _ E ok a.bh a.fm fun v B₁ h₁ t₁ s₁ r₁ => wpAny_storeName_local hl (a.step s₁).ns (fun h' hn hs' => next v B₁ h' _ ((a.step s₁).store hn hs') s₁.bb r₁) (by rw [hk]; rfl)) hs
theorem xo_aug {x : Str} {px pos : Pos} {e : Expr} {v₀ : Value} {i j : Int} (ok : Ok k A) (a : At X env.locals M B₀ h₀ m B s.heap) (hv : m x = some v₀) (r₀ : Rd B v₀ (.int i)) (p : PE w k (Fm env m M) env B e (.int j))
    (next : ∀ v B' h' tk, At X env.locals M B₀ h₀ (upd m x v) B' h' → Ext B B' → Rd B' v (.int (i + j)) → Q .next { s with heap := h', toks := tk })
    (hl : env.kindOf x = some .local := by kernel_rfl) (hk : env.scope.kind = .function := by kernel_rfl) : wpAny (model Pr w) A (exec (.AugAssign (.Name x px) .Add e pos) env) Q E s :=
  wpAny_AugAssign_Name (wpAny_loadName_local hk hl a.ns hv (p.run A s _ E ok a.bh a.fm fun v B₁ h₁ t₁ s₁ r₁ => by
    obtain ⟨t, rfl⟩ := r₀.int_inv
    obtain ⟨u, rfl⟩ := r₁.int_inv
    exact P.iadd_int (wpAny_storeName_local (s := { s with heap := h₁, toks := t₁ + 1 }) hl (a.step s₁).ns (fun h' hn hs' => next _ B₁ h' _ ((a.step s₁).store hn hs') s₁.bb (.int ..)) (by rw [hk]; rfl))))
theorem xo_asub {x : Str} {px pos : Pos} {e : Expr} {v₀ : Value} {i j : Int} (ok : Ok k A) (a : At X env.locals M B₀ h₀ m B s.heap) (hv : m x = some v₀) (r₀ : Rd B v₀ (.int i)) (p : PE w k (Fm env m M) env B e (.int j))
    (next : ∀ v B' h' tk, At X env.locals M B₀ h₀ (upd m x v) B' h' → Ext B B' → Rd B' v (.int (i - j)) → Q .next { s with heap := h', toks := tk })
    (hl : env.kindOf x = some .local := by kernel_rfl) (hk : env.scope.kind = .function := by kernel_rfl) : wpAny (model Pr w) A (exec (.AugAssign (.Name x px) .Sub e pos) env) Q E s :=
  wpAny_AugAssign_Name (wpAny_loadName_local hk hl a.ns hv (p.run A s _ E ok a.bh a.fm fun v B₁ h₁ t₁ s₁ r₁ => by
    obtain ⟨t, rfl⟩ := r₀.int_inv
    obtain ⟨u, rfl⟩ := r₁.int_inv
    exact P.isub_int (wpAny_storeName_local (s := { s with heap := h₁, toks := t₁ + 1 }) hl (a.step s₁).ns (fun h' hn hs' => next _ B₁ h' _ ((a.step s₁).store hn hs') s₁.bb (.int ..)) (by rw [hk]; rfl))))
theorem xo_if {test : Expr} {body orelse : List Stmt} {pos : Pos} {b : Bool} (ok : Ok k A) (a : At X env.locals M B₀ h₀ m B s.heap) (p : TE w k (Fm env m M) env B test b)
    (yes : b = true → ∀ B' h' tk, At X env.locals M B₀ h₀ m B' h' → Ext B B' → wpAny (model Pr w) A (execs body env) Q E { s with heap := h', toks := tk })
    (no : b = false → ∀ B' h' tk, At X env.locals M B₀ h₀ m B' h' → Ext B B' → wpAny (model Pr w) A (execs orelse env) Q E { s with heap := h', toks := tk }) : wpAny (model Pr w) A (exec (.If test body orelse pos) env) Q E s :=
  wpAny_If (p.run A s _ E ok a.bh a.fm fun v B₁ h₁ t₁ s₁ r₁ => by
    subst r₁
    cases v with
    | true => exact yes rfl B₁ h₁ t₁ (a.step s₁) s₁.bb
    | false => exact no rfl B₁ h₁ t₁ (a.step s₁) s₁.bb)
theorem xo_ret {e : Expr} {pos : Pos} {d : PyData} (ok : Ok k A) (a : At X env.locals M B₀ h₀ m B s.heap) (p : PE w k (Fm env m M) env B e d)
    (next : ∀ v B' h' tk, At X env.locals M B₀ h₀ m B' h' → Ext B B' → Rd B' v d → Q (.ret v) { s with heap := h', toks := tk }) : wpAny (model Pr w) A (exec (.Return (some e) pos) env) Q E s :=
  wpAny_Return_some (p.run A s _ E ok a.bh a.fm fun v B₁ h₁ t₁ s₁ r₁ => next v B₁ h₁ t₁ (a.step s₁) s₁.bb r₁)

/-- one statement, and the rest behind it -/
theorem xo_seq {st : Stmt} {rest : List Stmt} (h : wpAny (model Pr w) A (exec st env) (fun f s' => match f with | .next => wpAny (model Pr w) A (execs rest env) Q E s' | f => Q f s') E s) : wpAny (model Pr w) A (execs (st :: rest) env) Q E s := wpAny_execs_cons h

noncomputable def rangeIt (x left step : Int) : Obj := { cls := .type "range_iterator", data := .fields #[rawInt x, rawInt left, rawInt step] }
/-- a loop over the turns of a range's iterator -/
theorem x_rangeLoop {x : Str} {px : Pos} {body orelse : List Stmt} {I : Addr} {a c : Int} {n : Nat} {R : Result → Shared → Prop} (inv : Nat → (Str → Option Value) → List (Addr × Obj) → Heap → Prop) (ok : Ok k A)
    (at0 : At X env.locals ((I, rangeIt a n c) :: M) B₀ h₀ m B s.heap) (i0 : inv 0 m M B)
    (turn : ∀ i m M B h tk t E', i < n → At X env.locals ((I, rangeIt (a + (i + 1) * c) (n - (i + 1)) c) :: M) B₀ h₀ (upd m x (.int (a + i * c) t)) B h → inv i m M B →
      wpAny (model Pr w) A (execs body env) (fun f s' => match f with
        | .next | .cont => ∃ m' M' B' h' tk', s' = { s with heap := h', toks := tk' } ∧ At X env.locals ((I, rangeIt (a + (i + 1) * c) (n - (i + 1)) c) :: M') B₀ h₀ m' B' h' ∧ inv (i + 1) m' M' B'
        | .brk => R (.ok .next) s'
        | .ret v => R (.ok (.ret v)) s') E' { s with heap := h, toks := tk })
    (done : ∀ m M B h tk E', At X env.locals M B₀ h₀ m B h → inv n m M B → wpAny (model Pr w) A (execs orelse env) (fun f s₃ => R (.ok f) s₃) E' { s with heap := h, toks := tk })
    (hl : env.kindOf x = some .local := by kernel_rfl) (hk : env.scope.kind = .function := by kernel_rfl) : codeAny (model Pr w) A (.forLoop (.Name x px) (.ref I) body orelse env) R s := by
  refine codeAny_forLoop_any (fun j s' => ∃ (i : Nat) (m' : Str → Option Value) (M' : List (Addr × Obj)) (B' h' : Heap) (tk' : Nat), i ≤ n ∧ j = n - i ∧ s' = { s with heap := h', toks := tk' } ∧ At X env.locals ((I, rangeIt (a + i * c) (n - i) c) :: M') B₀ h₀ m' B' h' ∧ inv i m' M' B') ?_ n ⟨0, m, M, B, s.heap, s.toks, Nat.zero_le _, rfl, rfl, by simpa using at0, i0⟩
  rintro j s' ⟨i, m', M', B', h', tk', hi, rfl, rfl, a', i'⟩
  have hit : IsRangeIter h' I (a + i * c) (n - i) c := a'.own _ (.head _)
  by_cases hlt : i < n
  · refine wpAny_pyNext_range_item hit (by omega) fun h₁ hit₁ hs₁ => ?_
    have e1 : a + ↑i * c + c = a + ((i : Int) + 1) * c := by rw [Int.add_mul]; omega
    have e2 : (n : Int) - i - 1 = n - (i + 1) := by omega
    rw [e1, e2] at hit₁
    have a₁ := At.change (M₁ := []) (o' := rangeIt (a + (i + 1) * c) (n - (i + 1)) c) a' hit₁ hs₁
    refine wpAny_pure (M := model Pr w) (A := A) (a := ()) ?_
    refine wpAny_assign_Name (wpAny_storeName_local hl a₁.ns (fun h₂ hn₂ hs₂ => ?_) (by rw [hk]; rfl))
    refine wpAny_mono (turn i m' M' B' h₂ _ tk' _ hlt (a₁.store hn₂ hs₂) i') (fun f s₃ q => ?_) fun _ _ q => q
    cases f with
    | next =>
      obtain ⟨m₃, M₃, B₃, h₃, t₃, rfl, a₃, i₃⟩ := q
      exact ⟨n - (i + 1), by omega, i + 1, m₃, M₃, B₃, h₃, t₃, by omega, rfl, rfl, by exact_mod_cast a₃, i₃⟩
    | cont =>
      obtain ⟨m₃, M₃, B₃, h₃, t₃, rfl, a₃, i₃⟩ := q
      exact ⟨n - (i + 1), by omega, i + 1, m₃, M₃, B₃, h₃, t₃, by omega, rfl, rfl, by exact_mod_cast a₃, i₃⟩
    | brk => exact q
    | ret v => exact q
  · have hin : i = n := by omega
    subst hin
    refine wpAny_pyNext_range_end ok.handled hit (by omega) fun h₁ he => ?_
    refine done m' M' B' h₁ _ _ ?_ i'
    have hI := a'.offM (I, _) (.head _)
    have nd := a'.nd
    simp only [List.map_cons, List.nodup_cons] at nd
    refine ⟨a'.ns.extBut he (Ne.symm hI.2.1), fun p hp => he _ _ (fun q => nd.1 (q ▸ List.mem_map_of_mem hp)) (a'.own p (.tail _ hp)), a'.offL, a'.newL, fun p hp => a'.offM p (.tail _ hp), nd.2, fun b o e => he b o (fun q => by rw [q, hI.1] at e; cases e) (a'.bh b o e), a'.bb, fun b o hx e => he b o (fun q => ?_) (a'.kp b o hx e), ?_, a'.fresh⟩
    · subst q
      rcases hI.2.2 with c | c
      · exact hx c
      · exact absurd (Heap.lt_size e) (Nat.not_lt.mpr c)
    · exact Nat.le_of_lt (Nat.lt_of_le_of_lt a'.newL (a'.ns.extBut he (Ne.symm hI.2.1)).lt)

/-- a while, by what holds at its head and a measure -/
theorem xo_while {test : Expr} {body : List Stmt} {pos : Pos} (inv : Nat → (Str → Option Value) → List (Addr × Obj) → Heap → Prop) (ok : Ok k A)
    (at0 : At X env.locals M B₀ h₀ m B s.heap) (n : Nat) (i0 : inv n m M B)
    (turn : ∀ n m M B h E', At X env.locals M B₀ h₀ m B h → inv n m M B → ∃ b, TE w k (Fm env m M) env B test b ∧
      (b = true → ∀ B' h' tk', At X env.locals M B₀ h₀ m B' h' → Ext B B' → wpAny (model Pr w) A (execs body env) (fun f s' => match f with
        | .next | .cont => ∃ n' m' M' B' h' tk', n' < n ∧ s' = { s with heap := h', toks := tk' } ∧ At X env.locals M' B₀ h₀ m' B' h' ∧ inv n' m' M' B'
        | .brk => Q .next s'
        | .ret v => Q (.ret v) s') E' { s with heap := h', toks := tk' }) ∧
      (b = false → ∀ B' h' tk', At X env.locals M B₀ h₀ m B' h' → Ext B B' → Q .next { s with heap := h', toks := tk' })) : wpAny (model Pr w) A (exec (.While test body [] pos) env) Q E s := by
  refine wpAny_While (codeAny_whileLoop (fun j s' => ∃ (m' : Str → Option Value) (M' : List (Addr × Obj)) (B' h' : Heap) (tk' : Nat), s' = { s with heap := h', toks := tk' } ∧ At X env.locals M' B₀ h₀ m' B' h' ∧ inv j m' M' B') ?_ n ⟨m, M, B, s.heap, s.toks, rfl, at0, i0⟩)
  rintro j s' ⟨m', M', B', h', tk', rfl, a', i'⟩
  obtain ⟨b, te, yes, no⟩ := turn j m' M' B' h' _ a' i'
  refine te.run A _ _ _ ok a'.bh a'.fm fun v B₁ h₁ t₁ s₁ r₁ => ?_
  subst r₁
  cases v with
  | true =>
    refine wpAny_mono (yes rfl B₁ h₁ t₁ (a'.step s₁) s₁.bb) (fun f s₃ q => ?_) fun _ _ q => q
    cases f with
    | next =>
      obtain ⟨n₃, m₃, M₃, B₃, h₃, t₃, hn, rfl, a₃, i₃⟩ := q
      exact ⟨n₃, hn, m₃, M₃, B₃, h₃, t₃, rfl, a₃, i₃⟩
    | cont =>
      obtain ⟨n₃, m₃, M₃, B₃, h₃, t₃, hn, rfl, a₃, i₃⟩ := q
      exact ⟨n₃, hn, m₃, M₃, B₃, h₃, t₃, rfl, a₃, i₃⟩
    | brk => exact q
    | ret v => exact q
  | false => exact wpAny_execs_nil (no rfl B₁ h₁ t₁ (a'.step s₁) s₁.bb)

/-- a range with a step, made and asked for its iterator -/
theorem x_range3 {a b c : Int} {t u v : Tok} {K : Value → Shared → Prop} (at0 : At X env.locals M B₀ h₀ m B s.heap) (hc : c ≠ 0) (hp : Builtin.divisionGoesByPylong (b - a) c = false) (hsm : Builtin.Range.small a b c = true) (n : Nat) (hn : Builtin.Range.rangeSize a b c = n)
    (next : ∀ I h' tk, At X env.locals ((I, rangeIt a n c) :: M) B₀ h₀ m B h' → K (.ref I) { s with heap := h', toks := tk }) :
    wpAny (model Pr w) A (call (.type "range") [.int a t, .int b u, .int c v]) (fun r s' => wpAny (model Pr w) A (pyIter r) K E s') E s := by
  refine call_range_3 hc ?_ (.inl hp)
  have a₁ := at0.new { cls := .type "range", data := .fields #[.int a t, .int b u, .int c v] }
  refine wpAny_pyIter_range (s := { s with heap := _, toks := s.toks }) (a₁.own _ (.head _)) hsm ?_
  rw [hn]
  have a₂ := a₁.new (rangeIt a n c)
  exact next _ _ _ (a₂.drop (List.Sublist.cons_cons _ (List.Sublist.cons _ (List.Sublist.refl _))))
/-- for x in range(a, b, c) -/
theorem xo_forRange3 {x rn : Str} {px rp rpos pos : Pos} {e₁ e₂ e₃ : Expr} {body : List Stmt} {a b c : Int} (inv : Nat → (Str → Option Value) → List (Addr × Obj) → Heap → Prop) (ok : Ok k A) (hb : Bs w B)
    (at0 : At X env.locals M B₀ h₀ m B s.heap) (pa : PEs w k (Fm env m M) env rpos B [e₁, e₂, e₃] [.int a, .int b, .int c]) (hc : c ≠ 0) (hp : Builtin.divisionGoesByPylong (b - a) c = false) (hsm : Builtin.Range.small a b c = true) (n : Nat) (hn : Builtin.Range.rangeSize a b c = n)
    (i0 : ∀ B', Ext B B' → inv 0 m M B')
    (turn : ∀ I i m M B h tk t E', i < n → At X env.locals ((I, rangeIt (a + (i + 1) * c) (n - (i + 1)) c) :: M) B₀ h₀ (upd m x (.int (a + i * c) t)) B h → inv i m M B →
      wpAny (model Pr w) A (execs body env) (fun f s' => match f with
        | .next | .cont => ∃ m' M' B' h' tk', s' = { s with heap := h', toks := tk' } ∧ At X env.locals ((I, rangeIt (a + (i + 1) * c) (n - (i + 1)) c) :: M') B₀ h₀ m' B' h' ∧ inv (i + 1) m' M' B'
        | .brk => Q .next s'
        | .ret v => Q (.ret v) s') E' { s with heap := h, toks := tk })
    (done : ∀ m M B h tk, At X env.locals M B₀ h₀ m B h → inv n m M B → Q .next { s with heap := h, toks := tk })
    (hrn : rn = Str.ofString "range" := by rfl) (hl : env.kindOf x = some .local := by kernel_rfl) (hk : env.scope.kind = .function := by kernel_rfl) (hg : env.globals = 3 := by kernel_rfl) (hbi : env.builtins = builtinsNs := by kernel_rfl) (hx : env.kindOf (Str.ofString "range") = some .globalImplicit := by kernel_rfl)
    (he : starEach [e₁, e₂, e₃] env = (false, eval e₁ env) :: starEach [e₂, e₃] env := by kernel_rfl) (hpl : (backTo rpos (starEach [e₂, e₃] env)).any (·.1) = false := by rfl) :
    wpAny (model Pr w) A (exec (.For (.Name x px) (.Call (.Name rn rp) [e₁, e₂, e₃] [] rpos) body [] pos) env) Q E s := by
  subst hrn
  refine wpAny_For (wpAny_Call_NameR (ld_bi (pos := rp) (v := .type "range") hb (by kernel_rfl) (by kernel_rfl) hg hbi hk hx (by kernel_rfl) (by kernel_rfl) A s _ E ok at0.bh at0.fm fun f B₁ h₁ t₁ s₁ r₁ => ?_)) (fun _ => rfl)
  subst r₁
  refine callWith_type1 ((pa.ext s₁.bb).run A _ _ E ok s₁.bh (at0.step s₁).fm fun vs B₂ h₂ t₂ s₂ r₂ => ?_) he hpl
  obtain ⟨v1, vs1, rfl, q1, r₂⟩ := r₂.cons_inv
  obtain ⟨v2, vs2, rfl, q2, r₂⟩ := r₂.cons_inv
  obtain ⟨v3, vs3, rfl, q3, r₂⟩ := r₂.cons_inv
  rw [r₂.nil_inv]
  obtain ⟨y1, rfl⟩ := q1.int_inv
  obtain ⟨y2, rfl⟩ := q2.int_inv
  obtain ⟨y3, rfl⟩ := q3.int_inv
  refine x_range3 (s := { s with heap := h₂, toks := t₂ }) ((at0.step s₁).step s₂) hc hp hsm n hn fun I h' tk a' => ?_
  exact x_rangeLoop (s := { s with heap := h', toks := tk }) inv ok a' (i0 B₂ (s₁.bb.trans s₂.bb)) (fun i m M B h tk t E' hi aa ii => turn I i m M B h tk t E' hi aa ii) (fun m M B h tk E' aa ii => wpAny_execs_nil (done m M B h tk aa ii)) hl hk
end

/-- the state of a walk: the base's, with another heap -/
noncomputable def St (s : Shared) (h : Heap) (t : Nat) : Shared := { s with heap := h, toks := t }
/-- a tree's walk, shut against unfolding -/
@[irreducible] def Wx {α : Type} (w : World) (A : Around) (t : Sem α) (Q : α → Shared → Prop) (E : Value → Shared → Prop) (s : Shared) : Prop := wpAny (model Pr w) A t Q E s
theorem wx {α : Type} {w : World} {A : Around} {t : Sem α} {Q : α → Shared → Prop} {E : Value → Shared → Prop} {s : Shared} (h : wpAny (model Pr w) A t Q E s) : Wx w A t Q E s := by unfold Wx; exact h
theorem xw {α : Type} {w : World} {A : Around} {t : Sem α} {Q : α → Shared → Prop} {E : Value → Shared → Prop} {s : Shared} (h : Wx w A t Q E s) : wpAny (model Pr w) A t Q E s := by unfold Wx at h; exact h
/-- a walk with its end shut behind a letter: what follows does not carry the end written out -/
theorem wx_gen {α : Type} {w : World} {A : Around} {t : Sem α} {Q : α → Shared → Prop} {E : Value → Shared → Prop} {s : Shared} (h : ∀ Q' : α → Shared → Prop, (∀ v s', Q v s' → Q' v s') → Wx w A t Q' E s) : Wx w A t Q E s := h Q fun _ _ q => q
theorem wp_gen {α : Type} {w : World} {A : Around} {t : Sem α} {Q : α → Shared → Prop} {E : Value → Shared → Prop} {s : Shared} (h : ∀ (Q' : α → Shared → Prop) (E' : Value → Shared → Prop), (∀ v s', Q v s' → Q' v s') → (∀ e s', E e s' → E' e s') → wpAny (model Pr w) A t Q' E' s) : wpAny (model Pr w) A t Q E s := h Q E (fun _ _ q => q) fun _ _ q => q
section
variable {w : World} {k : Nat} {env : Env} {A : Around} {s : Shared} {h : Heap} {t : Nat} {E : Value → Shared → Prop} {Q : Flow → Shared → Prop} {X : List Addr} {M : List (Addr × Obj)} {B₀ h₀ B : Heap} {m : Str → Option Value}
/-- one statement, and the rest behind it -/
theorem x_seq {s : Shared} {st : Stmt} {rest : List Stmt} (h : Wx w A (exec st env) (fun f s' => match f with | .next => Wx w A (execs rest env) Q E s' | f => Q f s') E s) : Wx w A (execs (st :: rest) env) Q E s :=
  wx (xo_seq (wpAny_mono (xw h) (fun f s' q => by cases f with | next => exact xw q | _ => exact q) fun _ _ e => e))
theorem x_nil {s : Shared} (h : Q .next s) : Wx w A (execs [] env) Q E s := wx (wpAny_execs_nil h)
theorem x_assign {x : Str} {px pos : Pos} {e : Expr} {d : PyData} (ok : Ok k A) (a : At X env.locals M B₀ h₀ m B h) (p : PE w k (Fm env m M) env B e d)
    (next : ∀ v B' h' tk, At X env.locals M B₀ h₀ (upd m x v) B' h' → Ext B B' → Rd B' v d → Q .next (St s h' tk))
    (hl : env.kindOf x = some .local := by kernel_rfl) (hk : env.scope.kind = .function := by kernel_rfl) (hs : swapsWith e (some (.Name x px)) pos.line env = pure false := by kernel_rfl) : Wx w A (exec (.Assign [.Name x px] e pos) env) Q E (St s h t) :=
  wx (xo_assign (s := St s h t) ok a p next hl hk hs)
theorem x_aug {x : Str} {px pos : Pos} {e : Expr} {v₀ : Value} {i j : Int} (ok : Ok k A) (a : At X env.locals M B₀ h₀ m B h) (hv : m x = some v₀) (r₀ : Rd B v₀ (.int i)) (p : PE w k (Fm env m M) env B e (.int j))
    (next : ∀ v B' h' tk, At X env.locals M B₀ h₀ (upd m x v) B' h' → Ext B B' → Rd B' v (.int (i + j)) → Q .next (St s h' tk))
    (hl : env.kindOf x = some .local := by kernel_rfl) (hk : env.scope.kind = .function := by kernel_rfl) : Wx w A (exec (.AugAssign (.Name x px) .Add e pos) env) Q E (St s h t) :=
  wx (xo_aug (s := St s h t) ok a hv r₀ p next hl hk)
theorem x_asub {x : Str} {px pos : Pos} {e : Expr} {v₀ : Value} {i j : Int} (ok : Ok k A) (a : At X env.locals M B₀ h₀ m B h) (hv : m x = some v₀) (r₀ : Rd B v₀ (.int i)) (p : PE w k (Fm env m M) env B e (.int j))
    (next : ∀ v B' h' tk, At X env.locals M B₀ h₀ (upd m x v) B' h' → Ext B B' → Rd B' v (.int (i - j)) → Q .next (St s h' tk))
    (hl : env.kindOf x = some .local := by kernel_rfl) (hk : env.scope.kind = .function := by kernel_rfl) : Wx w A (exec (.AugAssign (.Name x px) .Sub e pos) env) Q E (St s h t) :=
  wx (xo_asub (s := St s h t) ok a hv r₀ p next hl hk)
theorem x_if {test : Expr} {body orelse : List Stmt} {pos : Pos} {b : Bool} (ok : Ok k A) (a : At X env.locals M B₀ h₀ m B h) (p : TE w k (Fm env m M) env B test b)
    (yes : b = true → ∀ B' h' tk, At X env.locals M B₀ h₀ m B' h' → Ext B B' → Wx w A (execs body env) Q E (St s h' tk))
    (no : b = false → ∀ B' h' tk, At X env.locals M B₀ h₀ m B' h' → Ext B B' → Wx w A (execs orelse env) Q E (St s h' tk)) : Wx w A (exec (.If test body orelse pos) env) Q E (St s h t) :=
  wx (xo_if (s := St s h t) ok a p (fun hb B' h' tk a' e => xw (yes hb B' h' tk a' e)) fun hb B' h' tk a' e => xw (no hb B' h' tk a' e))
theorem x_ret {e : Expr} {pos : Pos} {d : PyData} (ok : Ok k A) (a : At X env.locals M B₀ h₀ m B h) (p : PE w k (Fm env m M) env B e d)
    (next : ∀ v B' h' tk, At X env.locals M B₀ h₀ m B' h' → Ext B B' → Rd B' v d → Q (.ret v) (St s h' tk)) : Wx w A (exec (.Return (some e) pos) env) Q E (St s h t) :=
  wx (xo_ret (s := St s h t) ok a p next)
theorem x_while {test : Expr} {body : List Stmt} {pos : Pos} (inv : Nat → (Str → Option Value) → List (Addr × Obj) → Heap → Prop) (ok : Ok k A)
    (at0 : At X env.locals M B₀ h₀ m B h) (n : Nat) (i0 : inv n m M B)
    (turn : ∀ n m M B h E', At X env.locals M B₀ h₀ m B h → inv n m M B → ∃ b, TE w k (Fm env m M) env B test b ∧
      (b = true → ∀ B' h' tk', At X env.locals M B₀ h₀ m B' h' → Ext B B' → Wx w A (execs body env) (fun f s' => match f with
        | .next | .cont => ∃ n' m' M' B' h' tk', n' < n ∧ s' = St s h' tk' ∧ At X env.locals M' B₀ h₀ m' B' h' ∧ inv n' m' M' B'
        | .brk => Q .next s'
        | .ret v => Q (.ret v) s') E' (St s h' tk')) ∧
      (b = false → ∀ B' h' tk', At X env.locals M B₀ h₀ m B' h' → Ext B B' → Q .next (St s h' tk'))) : Wx w A (exec (.While test body [] pos) env) Q E (St s h t) :=
  wx (xo_while (s := St s h t) inv ok at0 n i0 fun n m M B h E' aa ii => let ⟨b, te, yes, no⟩ := turn n m M B h E' aa ii; ⟨b, te, fun hb B' h' tk' a' e => xw (yes hb B' h' tk' a' e), no⟩)
theorem x_forRange3 {x rn : Str} {px rp rpos pos : Pos} {e₁ e₂ e₃ : Expr} {body : List Stmt} {a b c : Int} (inv : Nat → (Str → Option Value) → List (Addr × Obj) → Heap → Prop) (ok : Ok k A) (hb : Bs w B)
    (at0 : At X env.locals M B₀ h₀ m B h) (pa : PEs w k (Fm env m M) env rpos B [e₁, e₂, e₃] [.int a, .int b, .int c]) (hc : c ≠ 0) (hp : Builtin.divisionGoesByPylong (b - a) c = false) (hsm : Builtin.Range.small a b c = true) (n : Nat) (hn : Builtin.Range.rangeSize a b c = n)
    (i0 : ∀ B', Ext B B' → inv 0 m M B')
    (turn : ∀ I i m M B h tk t E', i < n → At X env.locals ((I, rangeIt (a + (i + 1) * c) (n - (i + 1)) c) :: M) B₀ h₀ (upd m x (.int (a + i * c) t)) B h → inv i m M B →
      Wx w A (execs body env) (fun f s' => match f with
        | .next | .cont => ∃ m' M' B' h' tk', s' = St s h' tk' ∧ At X env.locals ((I, rangeIt (a + (i + 1) * c) (n - (i + 1)) c) :: M') B₀ h₀ m' B' h' ∧ inv (i + 1) m' M' B'
        | .brk => Q .next s'
        | .ret v => Q (.ret v) s') E' (St s h tk))
    (done : ∀ m M B h tk, At X env.locals M B₀ h₀ m B h → inv n m M B → Q .next (St s h tk))
    (hrn : rn = Str.ofString "range" := by rfl) (hl : env.kindOf x = some .local := by kernel_rfl) (hk : env.scope.kind = .function := by kernel_rfl) (hg : env.globals = 3 := by kernel_rfl) (hbi : env.builtins = builtinsNs := by kernel_rfl) (hx : env.kindOf (Str.ofString "range") = some .globalImplicit := by kernel_rfl)
    (he : starEach [e₁, e₂, e₃] env = (false, eval e₁ env) :: starEach [e₂, e₃] env := by kernel_rfl) (hpl : (backTo rpos (starEach [e₂, e₃] env)).any (·.1) = false := by kernel_rfl) :
    Wx w A (exec (.For (.Name x px) (.Call (.Name rn rp) [e₁, e₂, e₃] [] rpos) body [] pos) env) Q E (St s h t) :=
  wx (xo_forRange3 (s := St s h t) inv ok hb at0 pa hc hp hsm n hn i0 (fun I i m M B h tk t E' hi aa ii => xw (turn I i m M B h tk t E' hi aa ii)) done hrn hl hk hg hbi hx he hpl)
end

/-- the def at an address of the standing part -/
noncomputable abbrev FnAt (w : World) (a : Addr) : Type := { f : FuncData // ∃ c d s, (Kf w).lookup a = some ⟨c, d, .func f, s⟩ }
noncomputable def fnLast (w : World) : FnAt w 131 := ⟨_, _, _, _, rfl⟩
@[irreducible] noncomputable def fdLast (w : World) : FuncData := (fnLast w).1
theorem isLast (w : World) : ∃ c d s, (Kf w).lookup 131 = some ⟨c, d, .func (fdLast w), s⟩ := by unfold fdLast; exact (fnLast w).2
noncomputable def fnMark (w : World) : FnAt w 138 := ⟨_, _, _, _, rfl⟩
@[irreducible] noncomputable def fdMark (w : World) : FuncData := (fnMark w).1
theorem isMark (w : World) : ∃ c d s, (Kf w).lookup 138 = some ⟨c, d, .func (fdMark w), s⟩ := by unfold fdMark; exact (fnMark w).2
noncomputable def fnAfter (w : World) : FnAt w 145 := ⟨_, _, _, _, rfl⟩
@[irreducible] noncomputable def fdAfter (w : World) : FuncData := (fnAfter w).1
theorem isAfter (w : World) : ∃ c d s, (Kf w).lookup 145 = some ⟨c, d, .func (fdAfter w), s⟩ := by unfold fdAfter; exact (fnAfter w).2
noncomputable def fnState (w : World) : FnAt w 150 := ⟨_, _, _, _, rfl⟩
@[irreducible] noncomputable def fdState (w : World) : FuncData := (fnState w).1
theorem isState (w : World) : ∃ c d s, (Kf w).lookup 150 = some ⟨c, d, .func (fdState w), s⟩ := by unfold fdState; exact (fnState w).2
noncomputable def fnMachine (w : World) : FnAt w 124 := ⟨_, _, _, _, rfl⟩
@[irreducible] noncomputable def fdMachine (w : World) : FuncData := (fnMachine w).1
theorem isMachine (w : World) : ∃ c d s, (Kf w).lookup 124 = some ⟨c, d, .func (fdMachine w), s⟩ := by unfold fdMachine; exact (fnMachine w).2
noncomputable def fnU1 (w : World) : FnAt w 112 := ⟨_, _, _, _, rfl⟩
@[irreducible] noncomputable def fdU1 (w : World) : FuncData := (fnU1 w).1
theorem isU1 (w : World) : ∃ c d s, (Kf w).lookup 112 = some ⟨c, d, .func (fdU1 w), s⟩ := by unfold fdU1; exact (fnU1 w).2
noncomputable def fnS1 (w : World) : FnAt w 119 := ⟨_, _, _, _, rfl⟩
@[irreducible] noncomputable def fdS1 (w : World) : FuncData := (fnS1 w).1
theorem isS1 (w : World) : ∃ c d s, (Kf w).lookup 119 = some ⟨c, d, .func (fdS1 w), s⟩ := by unfold fdS1; exact (fnS1 w).2
noncomputable def fnInit (w : World) : FnAt w 38 := ⟨_, _, _, _, rfl⟩
@[irreducible] noncomputable def fdInit (w : World) : FuncData := (fnInit w).1
theorem isInit (w : World) : ∃ c d s, (Kf w).lookup 38 = some ⟨c, d, .func (fdInit w), s⟩ := by unfold fdInit; exact (fnInit w).2
noncomputable def fnPush (w : World) : FnAt w 45 := ⟨_, _, _, _, rfl⟩
@[irreducible] noncomputable def fdPush (w : World) : FuncData := (fnPush w).1
theorem isPush (w : World) : ∃ c d s, (Kf w).lookup 45 = some ⟨c, d, .func (fdPush w), s⟩ := by unfold fdPush; exact (fnPush w).2
noncomputable def fnPopFrom (w : World) : FnAt w 53 := ⟨_, _, _, _, rfl⟩
@[irreducible] noncomputable def fdPopFrom (w : World) : FuncData := (fnPopFrom w).1
theorem isPopFrom (w : World) : ∃ c d s, (Kf w).lookup 53 = some ⟨c, d, .func (fdPopFrom w), s⟩ := by unfold fdPopFrom; exact (fnPopFrom w).2
noncomputable def fnPop (w : World) : FnAt w 61 := ⟨_, _, _, _, rfl⟩
@[irreducible] noncomputable def fdPop (w : World) : FuncData := (fnPop w).1
theorem isPop (w : World) : ∃ c d s, (Kf w).lookup 61 = some ⟨c, d, .func (fdPop w), s⟩ := by unfold fdPop; exact (fnPop w).2
noncomputable def fnLen (w : World) : FnAt w 68 := ⟨_, _, _, _, rfl⟩
@[irreducible] noncomputable def fdLen (w : World) : FuncData := (fnLen w).1
theorem isLen (w : World) : ∃ c d s, (Kf w).lookup 68 = some ⟨c, d, .func (fdLen w), s⟩ := by unfold fdLen; exact (fnLen w).2
noncomputable def fnStr (w : World) : FnAt w 75 := ⟨_, _, _, _, rfl⟩
@[irreducible] noncomputable def fdStr (w : World) : FuncData := (fnStr w).1
theorem isStr (w : World) : ∃ c d s, (Kf w).lookup 75 = some ⟨c, d, .func (fdStr w), s⟩ := by unfold fdStr; exact (fnStr w).2
noncomputable def fnPart (w : World) : FnAt w 98 := ⟨_, _, _, _, rfl⟩
@[irreducible] noncomputable def fdPart (w : World) : FuncData := (fnPart w).1
theorem isPart (w : World) : ∃ c d s, (Kf w).lookup 98 = some ⟨c, d, .func (fdPart w), s⟩ := by unfold fdPart; exact (fnPart w).2
/-- a call of a def: its frame is made, its body walked -/
theorem call_def {w : World} {k : Nat} {A : Around} {s : Shared} {f : Addr} {fd : FuncData} {body : List Stmt} {vs : List Value} {binds : List (Str × Value)} {B : Heap} {Q E : Value → Shared → Prop} (ok : Ok (k + 1) A) (hb : Bs w B) (eb : Ext B s.heap) (ho : ∃ c d s, (Kf w).lookup f = some ⟨c, d, .func fd, s⟩) (hc : codeIn (Kf w) fd.code fd.qualname = true) (hbody : fd.body = .stmts body)
    (hbind : BindsTo s fd ⟨vs, []⟩ binds) (hcell : (fd.scope.names.all fun x => decide (x.2 ≠ .cell)) = true) (hloc : ((binds.map (·.1)).all fun x => decide (fd.scope.names.lookup x = some .local)) = true)
    (h : ∀ L h₁ E', At [] L [] B s.heap (fun x => binds.reverse.lookup x) B h₁ → Wx w (A.deeper (callEnv fd L f)) (execs body (callEnv fd L f)) (fun fl s' => Q (match fl with | .ret v => v | _ => .none) s') E' (St s h₁ (s.toks + binds.length)))
    (hco : fd.scope.isCoroutine = false := by kernel_rfl) (hgen : fd.scope.isGenerator = false := by kernel_rfl) (hk : fd.scope.kind = .function := by kernel_rfl) : wpAny (model Pr w) A (call (.ref f) vs) Q E s := by
  obtain ⟨oc, od, osl, ho⟩ := ho
  refine wpAny_call (codeAny_call_def (fd := fd) (body := body) (binds := binds) ok.room (eb _ _ (hb.k _ _ ho)) rfl (hb.lim.keeps eb) (codeRec_of (hb.k.keeps eb) hc) hbody hbind (fun x hx => of_decide_eq_true (List.all_eq_true.mp hcell x hx)) (fun x hx => of_decide_eq_true (List.all_eq_true.mp hloc x.1 (List.mem_map_of_mem hx))) (fun h₁ hns hk₁ => ?_) hco hgen hk)
  refine wpAny_mono (xw (h s.heap.objs.size h₁ _ ⟨hns, fun _ hp => (nomatch hp), ?_, Nat.le_refl _, fun _ hp => (nomatch hp), .nil, eb.trans hk₁, Ext.refl _, fun b o _ e => hk₁ b o e, ?_, fun a o e => .inl e⟩)) (fun fl s' q => q) fun _ _ q => q
  · cases e : B.get? s.heap.objs.size with
    | none => rfl
    | some o => exact absurd (Heap.lt_size (eb _ _ e)) (Nat.lt_irrefl _)
  · exact Nat.le_of_lt hns.lt
end Mine
end
section
open PySem PySem.W PyProof.Rows PySem.Calls
set_option Elab.async false
set_option maxRecDepth 100000
set_option linter.unusedVariables false
namespace Mine

noncomputable abbrev Tape := List (Int × Str)
noncomputable def tupD (p : Int × Str) : PyData := .tuple [.int p.1, .str p.2]
noncomputable def tapeD (tp : Tape) : PyData := .list (tp.map tupD)
noncomputable def lastAt (tp : Tape) : Nat → Int → Nat
  | 0, _ => 0
  | i + 1, d => if d + (tp.map (·.1)).getD i 0 ≤ 0 then i else lastAt tp i (d + (tp.map (·.1)).getD i 0)
noncomputable def lastK (tp : Tape) : Nat := lastAt tp tp.length 0

theorem no_pylong {a : Int} {c : Int} (h : c.natAbs.log2 < 100 := by decide +kernel) : Builtin.divisionGoesByPylong a c = false := PyProof.noPylong_of_log2 (by omega)
theorem fits_long {x : Int} (h : -(2 ^ 62) ≤ x) (h' : x < 2 ^ 62) : Builtin.Range.rangeFitsLong x = true := by
  unfold Builtin.Range.rangeFitsLong
  simp only [Bool.and_eq_true, decide_eq_true_eq]
  omega
theorem size_down {n : Nat} : Builtin.Range.rangeSize ((n : Int) - 1) (-1) (-1) = n := by
  unfold Builtin.Range.rangeSize
  simp
  omega
theorem small_down {n : Nat} (h : n < 2 ^ 40) : Builtin.Range.small ((n : Int) - 1) (-1) (-1) = true := by
  unfold Builtin.Range.small
  rw [size_down]
  rw [fits_long (by omega) (by omega), fits_long (by omega) (by omega), fits_long (by omega) (by omega)]
  simp only [Bool.and_self, Bool.true_and]
  rw [if_neg (by decide), fits_long (by omega) (by omega)]
  simp
theorem tape_get {tp : Tape} {i : Nat} (h : i < tp.length) : (tp.map tupD)[i]? = some (.tuple [.int ((tp.map (·.1)).getD i 0), .str ((tp.map (·.2)).getD i Str.empty)]) := by
  simp [h, tupD]

set_option maxHeartbeats 1000000 in
theorem last_ok {w : World} {k : Nat} {J : Heap → Prop} {B : Heap} {vs : List Value} {tp : Tape} (hb : Bs w B) (r : RdAll B vs [tapeD tp]) (hz : tp.length < 2 ^ 20) : PT w (k + 1) J B (call (.ref 131) vs) fun B' v => Rd B' v (.int (lastK tp)) := by
  intro A s Q E ok eb j q
  obtain ⟨tv, vs', rfl, rt, r'⟩ := r.cons_inv
  rw [r'.nil_inv]
  refine call_def (fd := fdLast w) ok hb eb (isLast w) (by kernel_rfl) (by unfold fdLast; rfl) (BindsTo.of_eq (binds := [(Str.ofString "tape", tv)]) (by kernel_rfl)) (by kernel_rfl) (by kernel_rfl) fun L h₁ E' a => ?_
  have ok' := ok.deeper (callEnv (fdLast w) L 131)
  generalize hA : A.deeper (callEnv (fdLast w) L 131) = A' at ok'
  have ht : (fun x => List.lookup x [(Str.ofString "tape", tv)].reverse) (Str.ofString "tape") = some tv := by simp
  refine x_seq (x_assign ok' a pe_int fun v1 B1 h1 t1 a1 e1 r1 => ?_)
  refine x_seq (x_forRange3 (fun i m M B' => Ext B B' ∧ ∃ d v, m (Str.ofString "depth") = some v ∧ Rd B' v (.int d) ∧ m (Str.ofString "tape") = some tv ∧ lastK tp = lastAt tp (tp.length - i) d) ok' (hb.ext e1) a1
    (pes_cons Fm.mono (pe_bin Fm.mono (pe_len Fm.mono (hb.ext e1) (pe_local (upd_ne ht) (rt.ext e1)) ?_) pe_int (bop_sub _ _)) (pes_cons Fm.mono (pe_neg Fm.mono pe_int) (pes_cons Fm.mono (pe_neg Fm.mono pe_int) pes_nil))) (by decide) no_pylong ?_ tp.length ?_ ?_ ?_ ?_)
  · simpa using Nat.lt_trans hz (by decide)
  · simpa using small_down (n := tp.length) (by omega)
  · simpa using size_down (n := tp.length)
  · exact fun B' e => ⟨e1.trans e, 0, v1, upd_self, r1.ext e, upd_ne ht, rfl⟩
  · rintro I i m M B2 h tk t E2 hi a2 ⟨e2, d, v, hd, rd, htp, hinv⟩
    simp only [List.length_map] at a2 ⊢
    have hik : ((tp.length : Int) - 1 + (i : Int) * -1).toNat = tp.length - (i + 1) := by omega
    have hkk : Rd B2 (.int ((tp.length : Int) - 1 + (i : Int) * -1) t) (.int ((tp.length : Int) - 1 + (i : Int) * -1)) := .int ..
    refine x_seq (x_aug ok' a2 (upd_ne hd) rd (pe_titem Fm.mono (pe_item Fm.mono (pe_local (upd_ne htp) (rt.ext e2)) (pe_local upd_self hkk) (by omega) (by omega) (by rw [hik]; exact tape_get (by omega))) pe_int (by decide) (by decide) rfl) fun v3 B3 h3 t3 a3 e3 r3 => ?_)
    have hl : lastAt tp (tp.length - i) d = if d + (tp.map (·.1)).getD (tp.length - (i + 1)) 0 ≤ 0 then tp.length - (i + 1) else lastAt tp (tp.length - (i + 1)) (d + (tp.map (·.1)).getD (tp.length - (i + 1)) 0) := by
      have : tp.length - i = (tp.length - (i + 1)) + 1 := by omega
      rw [this]; rfl
    refine x_seq (x_if ok' a3 (te_cmp Fm.mono (pe_local upd_self r3) pe_int (cop_lei _ _)) (fun hc B4 h4 t4 a4 e4 => ?_) fun hc B4 h4 t4 a4 e4 => ?_)
    · simp only [decide_eq_true_eq] at hc
      refine x_seq (x_ret ok' a4 (pe_local (upd_ne upd_self) (.int ..)) fun v5 B5 h5 t5 a5 e5 r5 => ?_)
      refine q _ B5 _ _ (a5.end) ?_
      rw [hinv, hl, if_pos hc]
      have : ((tp.length - (i + 1) : Nat) : Int) = (tp.length : Int) - 1 + (i : Int) * -1 := by omega
      rw [this]
      exact r5
    · simp only [decide_eq_false_iff_not] at hc
      refine x_nil (x_nil ⟨_, M, B4, h4, t4, rfl, a4, (e2.trans e3).trans e4, _, v3, upd_self, r3.ext e4, upd_ne (upd_ne htp), ?_⟩)
      rw [hinv, hl, if_neg hc]
  · rintro m M B2 h tk a2 ⟨e2, d, v, hd, rd, htp, hinv⟩
    refine x_seq (x_ret ok' a2 pe_int fun v5 B5 h5 t5 a5 e5 r5 => ?_)
    refine q _ B5 _ _ (a5.end) ?_
    simp only [List.length_map, Nat.sub_self] at hinv
    rw [hinv]
    exact r5
end Mine
end
section
open PySem PySem.W PyProof.Rows PySem.Calls
set_option Elab.async false
set_option maxRecDepth 100000
set_option linter.unusedVariables false
namespace Mine

section
variable {X : List Addr} {L : Addr} {M : List (Addr × Obj)} {B₀ h₀ B h B' h' : Heap} {m m' : Str → Option Value}
/-- more was made beside -/
theorem At.more (a : At X L M B₀ h₀ m B h) (e : Ext h h') : At X L M B₀ h₀ m B h' :=
  ⟨a.ns.keeps e, fun p hp => e _ _ (a.own p hp), a.offL, a.newL, a.offM, a.nd, a.bh.trans e, a.bb, fun b o hx q => e _ _ (a.kp b o hx q), Nat.le_of_lt (Nat.lt_of_le_of_lt a.newL (a.ns.keeps e).lt), a.fresh⟩
/-- one of the things that may change goes -/
theorem At.gone {I : Addr} {o : Obj} (a : At X L ((I, o) :: M) B₀ h₀ m B h) (he : Heap.ExtBut I h h') : At X L M B₀ h₀ m B h' := by
  have hI := a.offM (I, o) (.head _)
  have nd := a.nd
  simp only [List.map_cons, List.nodup_cons] at nd
  refine ⟨a.ns.extBut he (Ne.symm hI.2.1), fun p hp => he _ _ (fun q => nd.1 (q ▸ List.mem_map_of_mem hp)) (a.own p (.tail _ hp)), a.offL, a.newL, fun p hp => a.offM p (.tail _ hp), nd.2, fun b o e => he b o (fun q => by rw [q, hI.1] at e; cases e) (a.bh b o e), a.bb, fun b o hx e => he b o (fun q => ?_) (a.kp b o hx e), Nat.le_of_lt (Nat.lt_of_le_of_lt a.newL (a.ns.extBut he (Ne.symm hI.2.1)).lt), a.fresh⟩
  subst q
  rcases hI.2.2 with c | c
  · exact hx c
  · exact absurd (Heap.lt_size e) (Nat.not_lt.mpr c)
/-- all that was made is frozen -/
theorem At.freeze (a : At [] L M B₀ h₀ m B h) (eb : Ext B₀ h₀) : ∃ B', Step B₀ h₀ B' h ∧ Ext B B' ∧ (∀ p ∈ M, B'.get? p.1 = some p.2) := by
  have hh : Ext h₀ h := fun b o e => a.kp b o (by simp) e
  refine ⟨grow B₀ h₀ h, grow_step eb hh a.sz, fun x o e => ?_, fun p hp => ?_⟩
  · rcases a.fresh x o e with c | c
    · exact (grow_step eb hh a.sz).bb _ _ c
    · rw [grow_new c]; exact a.bh _ _ e
  · have c := (a.offM p hp).2.2
    rw [grow_new (c.resolve_left (by simp))]
    exact a.own p hp
end

/-- an iterator: n items, of what make its object is by the number taken -/
structure It (w : World) (k : Nat) (src : Heap → Prop) (B : Heap) (n : Nat) (st : Nat → Obj → Prop) (val : Nat → PyData) : Prop where
  next : ∀ {A : Around} {s : Shared} {I : Addr} {o : Obj} {i : Nat} {Q : Option Value → Shared → Prop} {E : Value → Shared → Prop}, Ok k A → Ext B s.heap → src s.heap → s.heap.get? I = some o → st i o → i < n →
    (∀ v h' tk o', Rd B v (val i) → h'.get? I = some o' → st (i + 1) o' → Heap.SameBut I s.heap h' → Q (some v) { s with heap := h', toks := tk }) → wpAny (model Pr w) A (pyNext (.ref I)) Q E s
  done : ∀ {A : Around} {s : Shared} {I : Addr} {o : Obj} {Q : Option Value → Shared → Prop} {E : Value → Shared → Prop}, Ok k A → Ext B s.heap → src s.heap → s.heap.get? I = some o → st n o →
    (∀ h' tk, Heap.ExtBut I s.heap h' → Q none { s with heap := h', toks := tk }) → wpAny (model Pr w) A (pyNext (.ref I)) Q E s
  self : ∀ {A : Around} {s : Shared} {I : Addr} {o : Obj} {i : Nat} {Q : Value → Shared → Prop} {E : Value → Shared → Prop}, s.heap.get? I = some o → st i o → Q (.ref I) s → wpAny (model Pr w) A (pyIter (.ref I)) Q E s
theorem It.ext {w : World} {k : Nat} {src : Heap → Prop} {B B' : Heap} {n : Nat} {st : Nat → Obj → Prop} {val : Nat → PyData} (t : It w k src B n st val) (e : Ext B B') : It w k src B' n st val where
  next := fun ok eb hs hI ho hi q => t.next ok (e.trans eb) hs hI ho hi fun v h' tk o' r => q v h' tk o' (r.ext e)
  done := fun ok eb hs hI ho q => t.done ok (e.trans eb) hs hI ho q
  self := fun hI ho q => t.self hI ho q
noncomputable def listSt (l : Addr) (i : Nat) (o : Obj) : Prop := o.cls = .type "list_iterator" ∧ o.data = .fields #[.ref l, .int i 0]
theorem It.list {w : World} {k : Nat} {src : Heap → Prop} {B : Heap} {l : Addr} {vs : List Value} {ds : List PyData} (hl : B.IsList l vs.toArray) (r : RdAll B vs ds) : It w k src B ds.length (listSt l) (fun i => ds.getD i .none) where
  next := fun {A s I o i Q E} ok eb _ hI ho hi q => by
    obtain ⟨v, hv, rv⟩ := r.get (i := i) (d := ds.getD i .none) (by simp [hi])
    have hl' : s.heap.IsList l vs.toArray := hl.at fun o e => eb _ _ e
    refine wpAny_pyNext_list_item (l := l) (i := i) (x := v) ⟨_, hI, ho.1, ho.2⟩ hl' (by simpa using hv) fun h' hit hs => ?_
    obtain ⟨o', ho', hc, hd⟩ := hit
    exact q v h' s.toks o' rv ho' ⟨hc, hd⟩ hs
  done := fun {A s I o Q E} ok eb _ hI ho q => by
    have hl' : s.heap.IsList l vs.toArray := hl.at fun o e => eb _ _ e
    exact wpAny_pyNext_list_end ok.handled ⟨_, hI, ho.1, ho.2⟩ hl' (by simp [r.length]) fun h' he => q h' s.toks he
  self := fun {A s I o i Q E} hI ho q => wpAny_pyIter_listiter ⟨_, hI, ho.1, ho.2⟩ q
theorem It.range {w : World} {k : Nat} {src : Heap → Prop} {B : Heap} {a c : Int} {n : Nat} : It w k src B n (fun i o => o = rangeIt (a + i * c) (n - i) c) (fun i => .int (a + i * c)) where
  next := fun {A s I o i Q E} ok eb _ hI ho hi q => by
    subst ho
    refine wpAny_pyNext_range_item hI (by omega) fun h₁ hit₁ hs₁ => ?_
    have e1 : a + ↑i * c + c = a + ((i : Int) + 1) * c := by rw [Int.add_mul]; omega
    have e2 : (n : Int) - i - 1 = n - (i + 1) := by omega
    rw [e1, e2] at hit₁
    exact q _ h₁ _ _ (.int ..) hit₁ (by push_cast; rfl) hs₁
  done := fun {A s I o Q E} ok eb _ hI ho q => by
    subst ho
    exact wpAny_pyNext_range_end ok.handled hI (by omega) fun h' he => q h' s.toks he
  self := fun {A s I o i Q E} hI ho q => by
    subst ho
    exact wpAny_pyIter_rangeiter hI q

/-- what a target's store makes known -/
noncomputable def Asg (w : World) (k : Nat) (target : Expr) (env : Env) (d : PyData) (know : Heap → (Str → Option Value) → Prop) : Prop :=
  ∀ (A : Around) (s : Shared) (X : List Addr) (M : List (Addr × Obj)) (B₀ h₀ B : Heap) (m : Str → Option Value) (v : Value) (Q : Unit → Shared → Prop) (E : Value → Shared → Prop), Ok k A → At X env.locals M B₀ h₀ m B s.heap → Rd B v d →
    (∀ m' h' tk, At X env.locals M B₀ h₀ m' B h' → know B m' → Q () { s with heap := h', toks := tk }) → wpAny (model Pr w) A (assign target env v) Q E s
theorem asg_name {w : World} {k : Nat} {env : Env} {x : Str} {px : Pos} {d : PyData} (hl : env.kindOf x = some .local) (hk : env.scope.kind = .function) : Asg w k (.Name x px) env d fun B m => ∃ v, m x = some v ∧ Rd B v d :=
  fun A s X M B₀ h₀ B m v Q E ok a r q => wpAny_assign_Name (wpAny_storeName_local hl a.ns (fun h' hn hs => q (upd m x v) h' _ (a.store hn hs) ⟨v, upd_self, r⟩) (by rw [hk]; rfl))
theorem asg_pair {w : World} {k : Nat} {env : Env} {x y : Str} {px py pos : Pos} {q0 : Nat} {d e : PyData} (hx : env.kindOf x = some .local) (hy : env.kindOf y = some .local) (hk : env.scope.kind = .function) (hne : (x == y) = false) :
    Asg w k (.Tuple [.Name x px, .Name y py] q0 pos) env (.tuple [d, e]) fun B m => (∃ v, m x = some v ∧ Rd B v d) ∧ ∃ v, m y = some v ∧ Rd B v e := by
  intro A s X M B₀ h₀ B m v Q E ok a r q
  obtain ⟨t, vs, rfl, ht, rv⟩ := r.tuple_inv
  obtain ⟨v1, vs1, rfl, r1, rv⟩ := rv.cons_inv
  obtain ⟨v2, vs2, rfl, r2, rv⟩ := rv.cons_inv
  rw [rv.nil_inv] at ht
  refine assign_Tuple_tuple ok.handled (ht.keeps a.bh) rfl rfl fun h' he => ?_
  have a' := a.more (h' := h') fun b o e => he b o (Nat.ne_of_lt (Heap.lt_size e)) e
  show wpAny _ A (do holding [v2] (assign (.Name x px) env v1); holding [] (assign (.Name y py) env v2); pure ()) _ _ _
  refine wpAny_bind (wpAny_holding (wpAny_assign_Name (wpAny_storeName_local hx a'.ns (fun h₁ hn₁ hs₁ => ?_) (by rw [hk]; rfl))))
  have a₁ := a'.store hn₁ hs₁
  refine wpAny_bind (wpAny_holding (wpAny_assign_Name (wpAny_storeName_local hy a₁.ns (fun h₂ hn₂ hs₂ => ?_) (by rw [hk]; rfl))))
  refine wpAny_pure (q (upd (upd m x v1) y v2) h₂ _ (a₁.store hn₂ hs₂) ⟨⟨v1, upd_ne upd_self hne, r1⟩, v2, upd_self, r2⟩)
end Mine
namespace Mine
noncomputable def listOb (ys : Array Value) (n : Nat) : Obj := { cls := .type "list", data := .seq ys n }
noncomputable def outs (keep : Nat → Bool) (el : Nat → PyData) (i : Nat) : List PyData := ((List.range i).filter keep).map el
theorem outs_succ (keep : Nat → Bool) (el : Nat → PyData) (i : Nat) : outs keep el (i + 1) = outs keep el i ++ (if keep i then [el i] else []) := by
  unfold outs
  rw [List.range_succ, List.filter_append, List.map_append]
  congr 1
  by_cases h : keep i <;> simp [h]
theorem outs_length (keep : Nat → Bool) (el : Nat → PyData) (i : Nat) : (outs keep el i).length ≤ i := by
  unfold outs
  rw [List.length_map]
  exact Nat.le_trans (List.length_filter_le _ _) (by simp)

/-- the tests of a comprehension -/
noncomputable def Tests (w : World) (k : Nat) (J : Heap → Prop) (env : Env) (B : Heap) (ifs : List Expr) (b : Bool) : Prop :=
  PT w k J B (forIn ifs true fun c r => if r = true then do let ok ← isTrue c env (eval c env); pure (ForInStep.yield ok) else pure (ForInStep.yield r)) fun _ v => v = b
theorem tests_nil {w : World} {k : Nat} {J : Heap → Prop} {env : Env} {B : Heap} : Tests w k J env B [] true := fun A s Q E ok eb j q => wpAny_tests_nil (q true B s.heap s.toks (.refl eb) rfl)
theorem tests_one {w : World} {k : Nat} {J : Heap → Prop} {env : Env} {B : Heap} {c : Expr} {b : Bool} (h : TE w k J env B c b) : Tests w k J env B [c] b := fun A s Q E ok eb j q => wpAny_tests_one (h.run A s Q E ok eb j q)

section
variable {w : World} {k : Nat} {A : Around} {s : Shared} {X : List Addr} {M : List (Addr × Obj)} {B₀ h₀ B : Heap} {m : Str → Option Value} {cenv : Env} {R : Result → Shared → Prop}
theorem comp_loop {elt target iter : Expr} {ifs : List Expr} {scope : Scope} {pos : Pos} {I D : Addr} {o : Obj} {src : Heap → Prop} {n : Nat} {st : Nat → Obj → Prop} {val el : Nat → PyData} {keep : Nat → Bool} {know : Nat → Heap → (Str → Option Value) → Prop} {J : Heap → Prop}
    (t : It w k src B n st val) (ok : Ok k A) (hJ : Mono J) (hJ0 : ∀ h, (∀ b o, b ∉ X → h₀.get? b = some o → h.get? b = some o) → J h) (hsrc : ∀ h, J h → src h) (hn : n ≤ sizeLine) (a0 : At X cenv.locals ((D, listOb #[] 0) :: (I, o) :: M) B₀ h₀ m B s.heap) (ho : st 0 o)
    (asg : ∀ i, i < n → Asg w k target cenv (val i) (know i))
    (tests : ∀ i m' M' B', i < n → Ext B B' → know i B' m' → Tests w k (fun h => Fm cenv m' M' h ∧ J h) cenv B' ifs (keep i))
    (elem : ∀ i m' M' B', i < n → keep i = true → Ext B B' → know i B' m' → PE w k (fun h => Fm cenv m' M' h ∧ J h) cenv B' elt (el i))
    (mono : ∀ i m' B' B'', Ext B' B'' → know i B' m' → know i B'' m')
    (own : ∀ (A : Around) (s : Shared) (i : Nat) (o : Obj) (v : Value) (B : Heap) (Q : Unit → Shared → Prop) (E : Value → Shared → Prop), i < n → s.heap.get? I = some o → st (i + 1) o → Rd B v (val i) → Q () s → wpAny (model Pr w) A (letOwnedTupleGo target (.ref I) v) Q E s)
    (done : ∀ m' B' h' tk ys nn, At X cenv.locals ((D, listOb ys nn) :: M) B₀ h₀ m' B' h' → Ext B B' → RdAll B' ys.toList (outs keep el n) → R (.ok .next) { s with heap := h', toks := tk }) :
    codeAny (model Pr w) A (.compLoop (.ListComp elt [⟨target, iter, ifs, 0⟩] scope pos) 0 (.ref I) (.ref D) cenv) R s := by
  refine codeAny_loop rfl (fun j s' => ∃ (i : Nat) (m' : Str → Option Value) (B' h' : Heap) (tk' nn : Nat) (ys : Array Value) (o' : Obj), i ≤ n ∧ j = n - i ∧ s' = { s with heap := h', toks := tk' } ∧ At X cenv.locals ((D, listOb ys nn) :: (I, o') :: M) B₀ h₀ m' B' h' ∧ Ext B B' ∧ st i o' ∧ RdAll B' ys.toList (outs keep el i)) ?_ n ⟨0, m, B, s.heap, s.toks, 0, #[], o, Nat.zero_le _, rfl, rfl, a0, Ext.refl _, ho, by simpa [outs] using RdAll.nil _⟩
  rintro j s' ⟨i, m', B', h', tk', nn, ys, o', hi, rfl, rfl, a', eb, ho', rd⟩
  show wpAny _ A ((compTurn (.ListComp elt [⟨target, iter, ifs, 0⟩] scope pos) 0 (.ref I) (.ref D) cenv).onRaise (fun x => do noteFrame x cenv; theTreesLotGoes x)) _ _ _
  refine wpAny_noted ?_
  rw [compTurn_list]
  refine wpAny_bind (wpAny_standAt (wpAny_bind ?_))
  have hI : h'.get? I = some o' := a'.own (I, o') (.tail _ (.head _))
  have jh : J h' := hJ0 _ a'.kp
  by_cases hlt : i < n
  · refine (t.ext eb).next ok a'.bh (hsrc _ jh) hI ho' hlt fun v h₁ t₁ o₁ rv hI₁ ho₁ hs₁ => ?_
    have a₁ := At.change (M₁ := [(D, listOb ys nn)]) a' hI₁ hs₁
    refine wpAny_bind (own A _ i o₁ v B' _ _ hlt hI₁ ho₁ rv ?_)
    refine wpAny_bind (asg i hlt A _ X _ B₀ h₀ B' m' v _ _ ok a₁ rv fun m₂ h₂ t₂ a₂ kn => ?_)
    refine wpAny_bind (tests i m₂ _ B' hlt eb kn A _ _ _ ok a₂.bh ⟨a₂.fm, hJ0 _ a₂.kp⟩ fun b B₃ h₃ t₃ s₃ rb => ?_)
    subst rb
    have a₃ := a₂.step s₃
    have e₃ := eb.trans s₃.bb
    cases hk : keep i with
    | false =>
      refine wpAny_pure ⟨rfl, n - (i + 1), by omega, i + 1, m₂, B₃, h₃, t₃, nn, ys, o₁, by omega, rfl, rfl, a₃, e₃, ho₁, ?_⟩
      rw [outs_succ, hk]
      simpa using rd.ext s₃.bb
    | true =>
      refine wpAny_bind (wpAny_bind ((elem i m₂ _ B₃ hlt hk e₃ (mono i _ _ _ s₃.bb kn)).run A _ _ _ ok a₃.bh ⟨a₃.fm, hJ0 _ a₃.kp⟩ fun x B₄ h₄ t₄ s₄ rx => ?_))
      have a₄ := a₃.step s₄
      have hys : ys.size ≤ sizeLine := by
        have l1 := rd.length
        have l2 := outs_length keep el i
        have l3 : ys.toList.length = ys.size := by simp
        omega
      refine wpAny_bind (wpAny_list_append_plain (hsz := hys) ⟨nn, a₄.own (D, listOb ys nn) (.head _)⟩ fun h₅ hp hs₅ => ?_)
      obtain ⟨n₅, hp⟩ := hp
      have a₅ := At.change (M₁ := []) (o' := listOb (ys.push x) n₅) a₄ hp hs₅
      refine wpAny_pure (wpAny_pure ⟨rfl, n - (i + 1), by omega, i + 1, m₂, B₄, h₅, t₄, n₅, ys.push x, o₁, by omega, rfl, rfl, a₅, e₃.trans s₄.bb, ho₁, ?_⟩)
      rw [outs_succ, hk]
      simpa using RdAll.append (rd.ext (s₃.bb.trans s₄.bb)) (RdAll.cons rx (.nil _))
  · have hin : i = n := by omega
    subst hin
    refine (t.ext eb).done ok a'.bh (hsrc _ jh) hI ho' fun h₁ t₁ he => ?_
    have a₂ : At X cenv.locals ((I, o') :: (D, listOb ys nn) :: M) B₀ h₀ m' B' h' :=
      ⟨a'.ns, fun p hp => a'.own p (by simp only [List.mem_cons] at hp ⊢; rcases hp with hp | hp | hp <;> simp [hp]), a'.offL, a'.newL, fun p hp => a'.offM p (by simp only [List.mem_cons] at hp ⊢; rcases hp with hp | hp | hp <;> simp [hp]),
        by have := a'.nd; simp only [List.map_cons, List.nodup_cons, List.mem_cons, not_or] at this ⊢; exact ⟨⟨Ne.symm this.1.1, this.2.1⟩, this.1.2, this.2.2⟩, a'.bh, a'.bb, a'.kp, a'.sz, a'.fresh⟩
    exact wpAny_pure (done m' B' h₁ t₁ ys nn (a₂.gone he) eb rd)
end
end Mine
end
section
open PySem PySem.W PyProof.Rows PySem.Calls
set_option Elab.async false
set_option maxRecDepth 100000
set_option linter.unusedVariables false
namespace Mine

theorem At.freeze' {L : Addr} {M : List (Addr × Obj)} {B₀ h₀ B h h' : Heap} {m : Str → Option Value} (a : At [] L M B₀ h₀ m B h) (eb : Ext B₀ h₀) (hs : Heap.SameBut L h h') : ∃ B', Step B₀ h₀ B' h' ∧ Ext B B' ∧ (∀ p ∈ M, B'.get? p.1 = some p.2) := by
  have hh : Ext h₀ h' := fun b o e => (hs.2 b (fun q => by subst q; exact absurd (Heap.lt_size e) (Nat.not_lt.mpr a.newL))).trans (a.kp b o (by simp) e)
  have sz : h₀.objs.size ≤ h'.objs.size := by rw [hs.1]; exact a.sz
  refine ⟨grow B₀ h₀ h', grow_step eb hh sz, fun x o e => ?_, fun p hp => ?_⟩
  · rcases a.fresh x o e with c | c
    · exact (grow_step eb hh sz).bb _ _ c
    · rw [grow_new c]; exact (hs.2 x fun q => by rw [q, a.offL] at e; cases e).trans (a.bh _ _ e)
  · have c := (a.offM p hp).2.2
    rw [grow_new (c.resolve_left (by simp))]
    exact (hs.2 _ (a.offM p hp).2.1).trans (a.own p hp)

/-- an iterable's iterator is made -/
noncomputable def ItE (w : World) (k : Nat) (J : Heap → Prop) (env : Env) (B : Heap) (iter : Expr) (src : Heap → Prop) (n : Nat) (st : Addr → Nat → Obj → Prop) (val : Nat → PyData) : Prop :=
  ∀ (A : Around) (s : Shared) (Q : Value → Shared → Prop) (E : Value → Shared → Prop), Ok k A → Ext B s.heap → J s.heap →
    (∀ I l o B' h' tk, Step B s.heap B' h' → s.heap.objs.size ≤ I → B'.get? I = none → h'.get? I = some o → st l 0 o → It w k src B' n (st l) val → Q (.ref I) { s with heap := h', toks := tk }) →
    wpAny (model Pr w) A (eval iter env) (fun x s₁ => wpAny (model Pr w) A (pyIter x) Q E s₁) E s
theorem off_new {B h : Heap} (e : Ext B h) : B.get? h.objs.size = none := by
  cases q : B.get? h.objs.size with
  | none => rfl
  | some o => exact absurd (Heap.lt_size (e _ _ q)) (Nat.lt_irrefl _)
theorem ite_list {w : World} {k : Nat} {J : Heap → Prop} {env : Env} {B : Heap} {iter : Expr} {src : Heap → Prop} {ds : List PyData} (h : PE w k J env B iter (.list ds)) : ItE w k J env B iter src ds.length listSt fun i => ds.getD i .none :=
  fun A s Q E ok eb j q => h.run A s _ E ok eb j fun v B₁ h₁ t₁ s₁ r₁ => by
    obtain ⟨l, vs, rfl, hl, ra⟩ := r₁.list_inv
    have hl' : h₁.IsList l vs.toArray := hl.at fun o e => s₁.bh _ _ e
    refine wpAny_pyIter_list (s := { s with heap := h₁, toks := t₁ }) hl' ?_
    have s₂ : Step B s.heap B₁ (h₁.push { cls := .type "list_iterator", data := .fields #[.ref l, .int 0 0] }) := ⟨s₁.bb, s₁.bh.trans (Ext.push _ _), s₁.hh.trans (Ext.push _ _), by rw [Heap.size_push]; exact Nat.le_succ_of_le s₁.sz, s₁.fresh⟩
    exact q _ l _ B₁ _ _ s₂ s₁.sz (off_new s₁.bh) (Heap.get?_push_size _ rfl) ⟨rfl, rfl⟩ (It.list hl ra)

section
variable {w : World} {k : Nat} {J : Heap → Prop} {env : Env} {B : Heap}
/-- the parts of a comprehension -/
structure CompOk (w : World) (k : Nat) (J : Heap → Prop) (env : Env) (B : Heap) (target elt : Expr) (ifs : List Expr) (scope : Scope) (cl : List (Str × Addr)) (src : Heap → Prop) (n : Nat) (st : Addr → Nat → Obj → Prop) (val el : Nat → PyData) (keep : Nat → Bool) (know : Nat → Heap → (Str → Option Value) → Prop) : Prop where
  clos : closureFor scope env = pure cl
  kind : scope.kind = .function
  names : (scope.names.all fun x => x.2 != .local || decide (scope.names.lookup x.1 = some .local)) = true
  cell : (scope.names.all fun x => decide (x.2 ≠ .cell)) = true
  hsrc : ∀ h, J h → src h
  asg : ∀ C i, i < n → Asg w k target (compEnvC scope cl C env) (val i) (know i)
  tests : ∀ C i m' M' B', i < n → Ext B B' → know i B' m' → Tests w k (fun h => Fm (compEnvC scope cl C env) m' M' h ∧ J h) (compEnvC scope cl C env) B' ifs (keep i)
  elem : ∀ C i m' M' B', i < n → keep i = true → Ext B B' → know i B' m' → PE w k (fun h => Fm (compEnvC scope cl C env) m' M' h ∧ J h) (compEnvC scope cl C env) B' elt (el i)
  mono : ∀ i m' B' B'', Ext B' B'' → know i B' m' → know i B'' m'
  own : ∀ (A : Around) (s : Shared) (I l : Addr) (i : Nat) (o : Obj) (v : Value) (B : Heap) (Q : Unit → Shared → Prop) (E : Value → Shared → Prop), i < n → s.heap.get? I = some o → st l (i + 1) o → Rd B v (val i) → Q () s → wpAny (model Pr w) A (letOwnedTupleGo target (.ref I) v) Q E s

/-- the loop of a comprehension, from the iterator on -/
theorem comp_run {elt target iter : Expr} {ifs : List Expr} {scope : Scope} {pos : Pos} {cl : List (Str × Addr)} {src : Heap → Prop} {n : Nat} {st : Addr → Nat → Obj → Prop} {val el : Nat → PyData} {keep : Nat → Bool} {know : Nat → Heap → (Str → Option Value) → Prop}
    {A : Around} {s : Shared} {E : Value → Shared → Prop} {B' h' : Heap} {tk : Nat} {I l : Addr} {o : Obj} {RR : Value → Addr → Result → Shared → Prop} (hJ : Mono J) (c : CompOk w k J env B target elt ifs scope cl src n st val el keep know) (hn : n ≤ sizeLine) (ok : Ok k A) (eb : Ext B s.heap) (j : J s.heap)
    (stp : Step B s.heap B' h') (hIn : s.heap.objs.size ≤ I) (hIB : B'.get? I = none) (hI : h'.get? I = some o) (ho : st l 0 o) (t : It w k src B' n (st l) val)
    (hRR : ∀ D C m' B'' h'' tk ys nn, At [] C [(D, listOb ys nn)] B s.heap m' B'' h'' → RdAll B'' ys.toList (outs keep el n) → RR (.ref D) C (.ok .next) { s with heap := h'', toks := tk }) :
    wpAny (model Pr w) A (newList []) (fun acc s₃ => wpAny (model Pr w) A (newFunctionEnv scope env.globals cl [] env.qual none .none (some env)) (fun cenv s₄ =>
      codeAny (model Pr w) A (.compStart (.ListComp elt [⟨target, iter, ifs, 0⟩] scope pos) 0 (.ref I) acc { cenv with scope := relabel scope env }) (RR acc cenv.locals) s₄) E s₃) E { s with heap := h', toks := tk } := by
  refine wpAny_newList ?_
  refine wpAny_newFunctionEnv (fun x hx => of_decide_eq_true (List.all_eq_true.mp c.cell x hx)) (by intro x hx; simp at hx) (fun h₁ hns hsb => ?_) c.kind
  dsimp only at hns hsb ⊢
  have hC : (h'.push { cls := .type "list", data := .seq ([] : List Value).toArray }).objs.size = h'.objs.size + 1 := Heap.size_push ..
  have hsz : h₁.objs.size = h'.objs.size + 2 := by rw [hsb.1, Heap.size_push, hC]
  rw [hC] at hns hsb ⊢
  have hext : Ext h' h₁ := fun b ob e => hsb.extBut b ob (Nat.ne_of_lt (Nat.lt_succ_of_lt (Heap.lt_size e))) (Heap.get?_push_of_some _ (Heap.get?_push_of_some _ e))
  have hD : h₁.get? h'.objs.size = some (listOb #[] 0) := hsb.extBut _ _ (Nat.ne_of_lt (Nat.lt_succ_self _)) (Heap.get?_push_of_some _ (Heap.get?_push_size _ rfl))
  have hIlt : I < h'.objs.size := Heap.lt_size hI
  have none_of : ∀ a, h'.objs.size ≤ a → B'.get? a = none := fun a ha => by
    cases q : B'.get? a with
    | none => rfl
    | some ob => exact absurd (Heap.lt_size (stp.bh _ _ q)) (Nat.not_lt.mpr ha)
  have a0 : At [] (h'.objs.size + 1) [(h'.objs.size, listOb #[] 0), (I, o)] B s.heap (fun x => List.lookup x ([] : List (Str × Value)).reverse) B' h₁ := by
    refine ⟨hns, ?_, none_of _ (Nat.le_succ _), Nat.le_succ_of_le stp.sz, ?_, ?_, stp.bh.trans hext, stp.bb, fun b ob _ e => hext _ _ (stp.hh _ _ e), ?_, stp.fresh⟩
    · intro p hp
      simp only [List.mem_cons, List.not_mem_nil, or_false] at hp
      rcases hp with rfl | rfl
      · exact hD
      · exact hext _ _ hI
    · intro p hp
      simp only [List.mem_cons, List.not_mem_nil, or_false] at hp
      rcases hp with rfl | rfl
      · exact ⟨none_of _ (Nat.le_refl _), Nat.ne_of_lt (Nat.lt_succ_self _), .inr stp.sz⟩
      · exact ⟨hIB, Nat.ne_of_lt (Nat.lt_succ_of_lt hIlt), .inr hIn⟩
    · simp only [List.map_cons, List.map_nil, List.nodup_cons, List.mem_singleton, List.not_mem_nil, not_false_eq_true, List.nodup_nil, and_true]
      exact Nat.ne_of_gt hIlt
    · rw [hsz]; exact Nat.le_trans stp.sz (Nat.le_add_right _ _)
  have loop : codeAny (model Pr w) A (.compLoop (.ListComp elt [⟨target, iter, ifs, 0⟩] scope pos) 0 (.ref I) (.ref h'.objs.size) (compEnvC scope cl (h'.objs.size + 1) env)) (RR (.ref h'.objs.size) (h'.objs.size + 1)) { s with heap := h₁, toks := tk + 0 } := by
    refine comp_loop (s := { s with heap := h₁, toks := tk + 0 }) (cenv := compEnvC scope cl (h'.objs.size + 1) env) t ok hJ (fun h q => hJ _ _ (fun b ob e => q b ob (by simp) e) j) c.hsrc hn a0 ho (fun i hi => c.asg _ i hi) (fun i m' M' B'' hi e kn => c.tests _ i m' M' B'' hi (stp.bb.trans e) kn)
      (fun i m' M' B'' hi hk e kn => c.elem _ i m' M' B'' hi hk (stp.bb.trans e) kn) c.mono (fun A s i o v B Q E hi hg hs r q => c.own A s I l i o v B Q E hi hg hs r q) fun m' B'' h'' tk' ys nn a e r => ?_
    exact hRR _ _ m' B'' h'' tk' ys nn a r
  refine codeAny_compStart_list loop (t.self (s := { s with heap := h₁, toks := _ }) (hext _ _ hI) ho loop)

/-- a list comprehension -/
theorem pe_comp {elt target iter : Expr} {ifs : List Expr} {scope : Scope} {pos : Pos} {cl : List (Str × Addr)} {src : Heap → Prop} {n : Nat} {st : Addr → Nat → Obj → Prop} {val el : Nat → PyData} {keep : Nat → Bool} {know : Nat → Heap → (Str → Option Value) → Prop}
    (hJ : Mono J) (it : ItE w k J env B iter src n st val) (c : CompOk w k J env B target elt ifs scope cl src n st val el keep know) (hn : n ≤ sizeLine) (hs : ∀ x, foldedSetIterable iter env x = pure x := by intro _; rfl) :
    PE w k J env B (.ListComp elt [⟨target, iter, ifs, 0⟩] scope pos) (.list (outs keep el n)) := by
  refine .mk fun A s Q E ok eb j q => ?_
  rw [eval_ListComp]
  refine wpAny_comprehension_free (use := none) (g := ⟨target, iter, ifs, 0⟩) (gs := []) rfl hs c.clos c.kind (fun x hx hl => by
    have := List.all_eq_true.mp c.names x hx
    rw [hl] at this
    simpa using this) (it A s _ E ok eb j fun I l o B' h' tk stp hIn hIB hI ho t => ?_)
  refine comp_run (RR := fun acc C r s' => compPost (model Pr w) A E none Q acc C r s') hJ c hn ok eb j stp hIn hIB hI ho t fun D C m' B'' h'' tk' ys nn a r => ?_
  refine ⟨m', a.ns, fun h₃ hs₃ => ?_⟩
  obtain ⟨B₃, s₃, e₃, g₃⟩ := a.freeze' eb hs₃
  exact q _ B₃ h₃ tk' s₃ (Rd.list (vs := ys.toList) ⟨_, g₃ (D, listOb ys nn) (.head _), rfl, nn, rfl⟩ (r.ext e₃))
end
end Mine
end
section
open PySem PySem.W PyProof.Rows PySem.Calls
set_option Elab.async false
set_option maxRecDepth 100000
set_option linter.unusedVariables false
namespace Mine

/-- what the frame has made is frozen, but not its names -/
theorem At.freezeM {L : Addr} {M : List (Addr × Obj)} {B₀ h₀ B h : Heap} {m : Str → Option Value} (a : At [] L M B₀ h₀ m B h) : ∃ B', Step B₀ h₀ B' h ∧ Ext B B' ∧ (∀ p ∈ M, B'.get? p.1 = some p.2) ∧ B'.get? L = none := by
  have hp : ∀ x, x ∈ M.map (·.1) ↔ (M.any fun p => p.1 == x) = true := fun x => by simp
  have hb : Ext B (only h fun x => (B.get? x).isSome || M.any fun p => p.1 == x) := fun x o e => by rw [only_get, e]; simp [a.bh _ _ e]
  refine ⟨only h fun x => (B.get? x).isSome || M.any fun p => p.1 == x, ⟨a.bb.trans hb, fun x o e => ?_, fun b o e => a.kp b o (by simp) e, a.sz, fun x o e => ?_⟩, hb, fun p hq => ?_, ?_⟩
  · rw [only_get] at e
    split at e
    · exact e
    · cases e
  · rw [only_get] at e
    split at e
    · rename_i c
      simp only [Bool.or_eq_true] at c
      rcases c with c | c
      · obtain ⟨o', ho⟩ := Option.isSome_iff_exists.mp c
        have := a.bh _ _ ho
        rw [this] at e
        cases e
        exact a.fresh _ _ ho
      · obtain ⟨p, hq, e2⟩ := List.mem_map.mp ((hp x).mpr c)
        exact .inr (e2 ▸ ((a.offM p hq).2.2.resolve_left (by simp)))
    · cases e
  · rw [only_get, (hp _).mp (List.mem_map_of_mem hq)]
    simpa using a.own p hq
  · rw [only_get, a.offL]
    have : (M.any fun p => p.1 == L) = false := by
      cases q : M.any fun p => p.1 == L with
      | false => rfl
      | true =>
        obtain ⟨p, hq, e2⟩ := List.mem_map.mp ((hp L).mpr q)
        exact absurd e2 (a.offM p hq).2.1
    simp [this]
/-- a thing that the frame does not know is changed -/
theorem At.other {X : List Addr} {L C : Addr} {M : List (Addr × Obj)} {B₀ h₀ B h h' : Heap} {m : Str → Option Value} (a : At X L M B₀ h₀ m B h) (hs : Heap.SameBut C h h') (hB : B.get? C = none) (hL : L ≠ C) (hM : ∀ p ∈ M, p.1 ≠ C) (h0 : h₀.objs.size ≤ C) : At X L M B₀ h₀ m B h' :=
  ⟨a.ns.sameBut hs hL, fun p hp => (hs.2 _ (hM p hp)).trans (a.own p hp), a.offL, a.newL, a.offM, a.nd, fun b o e => (hs.2 b (fun q => by rw [q, hB] at e; cases e)).trans (a.bh b o e), a.bb,
    fun b o hx e => (hs.2 b (fun q => by subst q; exact absurd (Heap.lt_size e) (Nat.not_lt.mpr h0))).trans (a.kp b o hx e), by rw [hs.1]; exact a.sz, a.fresh⟩

section
variable {w : World} {k : Nat} {env : Env} {A : Around} {s : Shared} {E : Value → Shared → Prop} {Q : Flow → Shared → Prop} {X : List Addr} {M : List (Addr × Obj)} {B₀ h₀ B : Heap} {m : Str → Option Value}
/-- y = [comprehension], the store before the letting go -/
theorem xo_assignComp {y : Str} {py spos : Pos} {elt target iter : Expr} {ifs : List Expr} {scope : Scope} {pos : Pos} {cl : List (Str × Addr)} {src : Heap → Prop} {n : Nat} {st : Addr → Nat → Obj → Prop} {val el : Nat → PyData} {keep : Nat → Bool} {know : Nat → Heap → (Str → Option Value) → Prop}
    (ok : Ok k A) (a : At X env.locals M B₀ h₀ m B s.heap) (it : ItE w k (Fm env m M) env B iter src n st val) (c : CompOk w k (Fm env m M) env B target elt ifs scope cl src n st val el keep know) (hn : n ≤ sizeLine)
    (next : ∀ v B' h' tk, At X env.locals M B₀ h₀ (upd m y v) B' h' → Ext B B' → Rd B' v (.list (outs keep el n)) → Q .next { s with heap := h', toks := tk })
    (hsw : swapsWith (.ListComp elt [⟨target, iter, ifs, 0⟩] scope pos) (some (.Name y py)) spos.line env = pure true := by kernel_rfl)
    (hl : env.kindOf y = some .local := by kernel_rfl) (hk : env.scope.kind = .function := by kernel_rfl) (hs : ∀ x, foldedSetIterable iter env x = pure x := by intro _; rfl) :
    wpAny (model Pr w) A (exec (.Assign [.Name y py] (.ListComp elt [⟨target, iter, ifs, 0⟩] scope pos) spos) env) Q E s := by
  rw [exec_Assign_Name_used _ _ _ _ hsw]
  refine wpAny_bind (wpAny_standAt (wpAny_bind ?_))
  show wpAny _ A (do let _ ← comprehension (.ListComp elt [⟨target, iter, ifs, 0⟩] scope pos) scope env _ (newList []) false (eval iter env) (some (assign (.Name y py) env))) _ _ s
  refine wpAny_bind (wpAny_mono (wpAny_comprehension_free (use := some (assign (.Name y py) env)) (Q := fun _ s' => Q .next s') (g := ⟨target, iter, ifs, 0⟩) (gs := []) rfl hs c.clos c.kind (fun x hx hl => by
    have := List.all_eq_true.mp c.names x hx
    rw [hl] at this
    simpa using this) (it A s _ E ok a.bh a.fm fun I l o B' h' tk stp hIn hIB hI ho t => ?_)) (fun _ s' hq => wpAny_pure (wpAny_pure hq)) fun _ _ e => e)
  refine comp_run (RR := fun acc C r s' => compPost (model Pr w) A E (some (assign (.Name y py) env)) (fun _ s' => Q .next s') acc C r s') Fm.mono c hn ok a.bh a.fm stp hIn hIB hI ho t fun D C m' B'' h'' tk' ys nn b r => ?_
  obtain ⟨B₃, s₃, e₃, g₃, f₃⟩ := b.freezeM
  have a₃ := a.step s₃
  have hCL : env.locals ≠ C := Nat.ne_of_lt (Nat.lt_of_lt_of_le a.ltL b.newL)
  have rD : Rd B₃ (.ref D) (.list (outs keep el n)) := Rd.list (vs := ys.toList) ⟨_, g₃ (D, listOb ys nn) (.head _), rfl, nn, rfl⟩ (r.ext e₃)
  refine wpAny_assign_Name (wpAny_storeName_local hl a₃.ns (fun h₄ hn₄ hs₄ => ?_) (by rw [hk]; rfl))
  refine ⟨m', b.ns.sameBut hs₄ (Ne.symm hCL), fun h₅ hs₅ => ?_⟩
  have a₄ := a₃.store hn₄ hs₄
  exact next _ B₃ h₅ _ (a₄.other hs₅ f₃ hCL (fun p hp => Nat.ne_of_lt (Nat.lt_of_lt_of_le (Heap.lt_size (a.own p hp)) b.newL)) (Nat.le_trans a.sz b.newL)) s₃.bb rD
end
section
variable {w : World} {k : Nat} {env : Env} {A : Around} {s : Shared} {h : Heap} {t : Nat} {E : Value → Shared → Prop} {Q : Flow → Shared → Prop} {X : List Addr} {M : List (Addr × Obj)} {B₀ h₀ B : Heap} {m : Str → Option Value}
theorem x_assignComp {y : Str} {py spos : Pos} {elt target iter : Expr} {ifs : List Expr} {scope : Scope} {pos : Pos} {cl : List (Str × Addr)} {src : Heap → Prop} {n : Nat} {st : Addr → Nat → Obj → Prop} {val el : Nat → PyData} {keep : Nat → Bool} {know : Nat → Heap → (Str → Option Value) → Prop}
    (ok : Ok k A) (a : At X env.locals M B₀ h₀ m B h) (it : ItE w k (Fm env m M) env B iter src n st val) (c : CompOk w k (Fm env m M) env B target elt ifs scope cl src n st val el keep know) (hn : n ≤ sizeLine)
    (next : ∀ v B' h' tk, At X env.locals M B₀ h₀ (upd m y v) B' h' → Ext B B' → Rd B' v (.list (outs keep el n)) → Q .next (St s h' tk))
    (hsw : swapsWith (.ListComp elt [⟨target, iter, ifs, 0⟩] scope pos) (some (.Name y py)) spos.line env = pure true := by kernel_rfl)
    (hl : env.kindOf y = some .local := by kernel_rfl) (hk : env.scope.kind = .function := by kernel_rfl) (hs : ∀ x, foldedSetIterable iter env x = pure x := by intro _; rfl) :
    Wx w A (exec (.Assign [.Name y py] (.ListComp elt [⟨target, iter, ifs, 0⟩] scope pos) spos) env) Q E (St s h t) :=
  wx (xo_assignComp (s := St s h t) ok a it c hn next hsw hl hk hs)
end
end Mine
end
section
open PySem PySem.W PyProof.Rows PySem.Calls PySem.Builtin.Str
set_option Elab.async false
set_option maxRecDepth 100000
set_option linter.unusedVariables false
set_option linter.unusedSimpArgs false
namespace Mine

section
variable {w : World} {k : Nat} {J : Heap → Prop} {env : Env} {B : Heap}
theorem te_and {x y : Expr} {pos : Pos} {b c : Bool} (hJ : Mono J) (hx : TE w k J env B x b) (hy : b = true → TE w k J env B y c) : TE w k J env B (.BoolOp .And [x, y] pos) (b && c) :=
  .mk fun A s Q E ok e j q => isTrue_and (hx.run A s _ E ok e j fun v B₁ h₁ t₁ s₁ r₁ => by
    subst r₁
    cases v with
    | false => exact q false B₁ h₁ t₁ s₁ rfl
    | true =>
      refine isTrue_and ((TE.ext (hy rfl) s₁.bb).run A _ _ E ok s₁.bh (hJ _ _ s₁.hh j) fun v B₂ h₂ t₂ s₂ r₂ => ?_)
      subst r₂
      cases v with
      | false => exact q false B₂ h₂ t₂ (s₁.trans s₂) rfl
      | true => exact isTrue_and_nil (q true B₂ h₂ t₂ (s₁.trans s₂) rfl))

noncomputable def cat : List Str → Str
  | [] => Str.empty
  | x :: r => x ++ cat r
theorem str_ext {a b : Str} (h : a.cps.toList = b.cps.toList) : a = b := by
  cases a; cases b; congr 1; exact Array.ext' h
theorem cat_cps : ∀ l : List Str, (cat l).cps.toList = (l.map fun x => x.cps.toList).flatten
  | [] => rfl
  | x :: r => by
    show (x.cps ++ (cat r).cps).toList = _
    rw [Array.toList_append, cat_cps r]; simp
theorem glued_cat (l : List Str) : glued Str.empty l = cat l := by
  refine str_ext ?_
  rw [cat_cps]
  unfold glued
  have key : ∀ (r : List Str) (a : Array Nat), (r.foldl (fun acc p => acc ++ Str.empty.cps ++ p.cps) a).toList = a.toList ++ (r.map fun x => x.cps.toList).flatten := by
    intro r
    induction r with
    | nil => intro a; simp
    | cons x r ih => intro a; rw [List.foldl_cons, ih]; simp [Str.empty]
  cases l with
  | nil => simp [Str.empty]
  | cons x r => simpa using key r x.cps
theorem cat_length : ∀ l : List Str, (cat l).length = (l.map (·.length)).sum
  | [] => rfl
  | x :: r => by
    show (x.cps ++ (cat r).cps).size = _
    rw [Array.size_append]
    have := cat_length r
    unfold Str.length at this ⊢
    simp [this]
theorem joinOk_cat (l : List Str) (h : (cat l).length ≤ 1000000) : JoinOk Str.empty l = true := by
  have key : ∀ (r : List Str) (a : Nat), r.foldl (fun n x => n + x.length + Str.empty.length) a = a + (r.map (·.length)).sum := by
    intro r
    induction r with
    | nil => intro a; simp
    | cons x r ih => intro a; rw [List.foldl_cons, ih]; simp [Str.empty, Str.length]; omega
  unfold JoinOk tooLong
  rw [cat_length] at h
  simp only [List.foldl_toArray, Bool.not_eq_true', decide_eq_false_iff_not]
  rw [key l 0]
  have : sizeLine = 2 ^ 24 := rfl
  omega
theorem strs_of {B : Heap} : ∀ {vs : List Value} {ss : List Str}, RdAll B vs (ss.map .str) → ∃ l : List (Str × Tok), strValues l = vs ∧ l.map (·.1) = ss
  | _, [], r => ⟨[], by rw [r.nil_inv]; rfl, rfl⟩
  | _, x :: ss, r => by
    obtain ⟨v, vs', rfl, rv, r'⟩ := RdAll.cons_inv (by simpa using r)
    obtain ⟨t, rfl⟩ := rv.str_inv
    obtain ⟨l, e1, e2⟩ := strs_of r'
    exact ⟨(x, t) :: l, by rw [← e1]; rfl, by simp [e2]⟩
theorem pt_join {ss : List Str} {v : Value} {t : Tok} (r : Rd B v (.list (ss.map .str))) (hz : (cat ss).length ≤ 1000000) : PT w k J B (call (.builtin "str.join") [.str Str.empty t, v]) fun B' v => Rd B' v (.str (cat ss)) := fun A s Q E ok eb j q => by
  obtain ⟨D, vs, rfl, hl, ra⟩ := r.list_inv
  obtain ⟨l, rfl, e2⟩ := strs_of ra
  have hl' : s.heap.IsList D (strValues l).toArray := hl.at fun o e => eb _ _ e
  refine SC.join hl' e2 (joinOk_cat ss hz) fun t' k' => ?_
  have : Txt.join Str.empty ss = cat ss := glued_cat ss
  rw [this]
  exact q _ B s.heap _ (.refl eb) (.str ..)
theorem empty_is : Str.ofString "" = Str.empty := by decide +kernel
/-- a call of a method, by the object's look -/
theorem wp_method {A : Around} {s : Shared} {E : Value → Shared → Prop} {o : Expr} {name : Str} {apos pos : Pos} {args : List Expr} {Q : Value → Shared → Prop} (hbase : attributeBase o name env (eval o env) = eval o env) (hline : (apos.endLine == pos.line) = true) (hfew : methodCallForm (args.length + 0) (backTo pos (starEach args env)) [] = true)
    (h : wpAny (model Pr w) A (eval o env) (fun ov s₁ => wpAny (model Pr w) A (getMethod ov name (do return (← importBound o env).getD true)) (fun fx s₂ => wpAny (model Pr w) A (callWith pos fx.1 fx.2 (backTo pos (starEach args env)) []) Q E s₂) E s₁) E s) :
    wpAny (model Pr w) A (eval (.Call (.Attribute o name apos) args [] pos) env) Q E s := by
  rw [arm_eval_Call, hbase]
  refine wpAny_bind (wpAny_mono h (fun ov s₁ h₁ => wpAny_bind (wpAny_standAt ?_)) fun _ _ x => x)
  unfold methodCall
  show wpAny _ A (holding [ov] (calleeOf (methodCallForm (args.length + 0) (backTo pos (starEach args env)) []) o env ov name) >>= _) Q E s₁
  rw [hfew]
  refine wpAny_bind (wpAny_holding (wpAny_mono (show wpAny _ A (calleeOf true o env ov name) _ E s₁ from h₁) (fun fx s₂ h₂ => ?_) fun _ _ x => x))
  show wpAny _ A (methodCallPos (methodCallForm (args.length + 0) (backTo pos (starEach args env)) []) o env apos pos >>= _) Q E s₂
  have e : methodCallPos (methodCallForm (args.length + 0) (backTo pos (starEach args env)) []) o env apos pos = pure pos := by
    unfold methodCallPos
    rw [hline]; simp
  rw [e]
  exact wpAny_bind (wpAny_pure h₂)
/-- ''.join(xs) -/
theorem pe_join {e : Expr} {c : Const} {q0 : Nat} {p0 apos pos : Pos} {name : Str} {ss : List Str} (hJ : Mono J) (h : PE w k J env B e (.list (ss.map .str))) (hz : (cat ss).length ≤ 1000000) (hc : c = .str (Str.ofString "") := by rfl) (hn : name = Str.ofString "join" := by rfl)
    (hline : (apos.endLine == pos.line) = true := by rfl) (hst : starEach [e] env = (false, eval e env) :: starEach [] env := by kernel_rfl) : PE w k J env B (.Call (.Attribute (.Constant c q0 p0) name apos) [e] [] pos) (.str (cat ss)) := by
  subst hc hn
  refine .mk fun A s Q E ok eb j q => ?_
  refine wp_method rfl hline (by rw [hst]; rfl) (wpAny_Constant_str (GM.join ?_))
  refine callWith_method1 ((pes_cons hJ h pes_nil hst).run A _ _ E ok eb j fun vs B₁ h₁ t₁ s₁ r₁ => ?_) hst rfl
  obtain ⟨v, vs', rfl, rv, r'⟩ := r₁.cons_inv
  rw [r'.nil_inv, empty_is]
  exact pt_join rv hz A _ Q E ok s₁.bh (hJ _ _ s₁.hh j) fun v' B₂ h₂ t₂ s₂ r₂ => q v' B₂ h₂ t₂ (s₁.trans s₂) r₂
end

noncomputable def stepAt (tp : Tape) (i : Nat) : Int := (tp.map (·.1)).getD i 0
noncomputable def markAt (tp : Tape) : Nat → Int → Int
  | 0, _ => -1
  | i + 1, d => if (stepAt tp i == -1 && d == 0) = true then (i : Int) else markAt tp i (d + stepAt tp i)
noncomputable def markK (tp : Tape) : Int := markAt tp tp.length 0

set_option maxHeartbeats 1000000 in
theorem mark_ok {w : World} {k : Nat} {J : Heap → Prop} {B : Heap} {vs : List Value} {tp : Tape} (hb : Bs w B) (r : RdAll B vs [tapeD tp]) (hz : tp.length < 2 ^ 20) : PT w (k + 1) J B (call (.ref 138) vs) fun B' v => Rd B' v (.int (markK tp)) := by
  intro A s Q E ok eb j q
  obtain ⟨tv, vs', rfl, rt, r'⟩ := r.cons_inv
  rw [r'.nil_inv]
  refine call_def (fd := fdMark w) ok hb eb (isMark w) (by kernel_rfl) (by unfold fdMark; rfl) (BindsTo.of_eq (binds := [(Str.ofString "tape", tv)]) (by kernel_rfl)) (by kernel_rfl) (by kernel_rfl) fun L h₁ E' a => ?_
  have ok' := ok.deeper (callEnv (fdMark w) L 138)
  generalize hA : A.deeper (callEnv (fdMark w) L 138) = A' at ok'
  have ht : (fun x => List.lookup x [(Str.ofString "tape", tv)].reverse) (Str.ofString "tape") = some tv := by simp
  refine x_seq (x_assign ok' a pe_int fun v1 B1 h1 t1 a1 e1 r1 => ?_)
  refine x_seq (x_forRange3 (fun i m M B' => Ext B B' ∧ ∃ d v, m (Str.ofString "depth") = some v ∧ Rd B' v (.int d) ∧ m (Str.ofString "tape") = some tv ∧ markK tp = markAt tp (tp.length - i) d) ok' (hb.ext e1) a1
    (pes_cons Fm.mono (pe_bin Fm.mono (pe_len Fm.mono (hb.ext e1) (pe_local (upd_ne ht) (rt.ext e1)) ?_) pe_int (bop_sub _ _)) (pes_cons Fm.mono (pe_neg Fm.mono pe_int) (pes_cons Fm.mono (pe_neg Fm.mono pe_int) pes_nil))) (by decide) no_pylong ?_ tp.length ?_ ?_ ?_ ?_)
  · simpa using Nat.lt_trans hz (by decide)
  · simpa using small_down (n := tp.length) (by omega)
  · simpa using size_down (n := tp.length)
  · exact fun B' e => ⟨e1.trans e, 0, v1, upd_self, r1.ext e, upd_ne ht, rfl⟩
  · rintro I i m M B2 h tk t E2 hi a2 ⟨e2, d, v, hd, rd, htp, hinv⟩
    simp only [List.length_map] at a2 ⊢
    have hik : ((tp.length : Int) - 1 + (i : Int) * -1).toNat = tp.length - (i + 1) := by omega
    have hkk : ∀ B, Rd B (.int ((tp.length : Int) - 1 + (i : Int) * -1) t) (.int ((tp.length : Int) - 1 + (i : Int) * -1)) := fun B => .int ..
    have hl : markAt tp (tp.length - i) d = if (stepAt tp (tp.length - (i + 1)) == -1 && d == 0) = true then ((tp.length - (i + 1) : Nat) : Int) else markAt tp (tp.length - (i + 1)) (d + stepAt tp (tp.length - (i + 1))) := by
      have : tp.length - i = (tp.length - (i + 1)) + 1 := by omega
      rw [this]; rfl
    refine x_seq (x_if ok' a2 (te_and Fm.mono (te_cmp Fm.mono (pe_titem Fm.mono (pe_item Fm.mono (pe_local (upd_ne htp) (rt.ext e2)) (pe_local upd_self (hkk _)) (by omega) (by omega) (by rw [hik]; exact tape_get (by omega))) pe_int (by decide) (by decide) rfl) (pe_neg Fm.mono pe_int) (cop_eqi _ _))
      fun _ => te_cmp Fm.mono (pe_local (upd_ne hd) rd) pe_int (cop_eqi _ _)) (fun hc B3 h3 t3 a3 e3 => ?_) fun hc B3 h3 t3 a3 e3 => ?_)
    · refine x_seq (x_ret ok' a3 (pe_local upd_self (.int ..)) fun v5 B5 h5 t5 a5 e5 r5 => ?_)
      refine q _ B5 _ _ (a5.end) ?_
      rw [hinv, hl, if_pos (show (stepAt tp (tp.length - (i + 1)) == -1 && d == 0) = true from hc)]
      have : ((tp.length - (i + 1) : Nat) : Int) = (tp.length : Int) - 1 + (i : Int) * -1 := by omega
      rw [this]
      exact r5
    · refine x_nil (x_seq (x_aug ok' a3 (upd_ne hd) (rd.ext e3) (pe_titem Fm.mono (pe_item Fm.mono (pe_local (upd_ne htp) (rt.ext (e2.trans e3))) (pe_local upd_self (hkk _)) (by omega) (by omega) (by rw [hik]; exact tape_get (by omega))) pe_int (by decide) (by decide) rfl) fun v4 B4 h4 t4 a4 e4 r4 => ?_))
      refine x_nil ⟨_, M, B4, h4, t4, rfl, a4, (e2.trans e3).trans e4, _, v4, upd_self, r4, upd_ne (upd_ne htp), ?_⟩
      rw [hinv, hl, if_neg (by rw [show (stepAt tp (tp.length - (i + 1)) == -1 && d == 0) = false from hc]; exact Bool.false_ne_true)]
      rfl
  · rintro m M B2 h tk a2 ⟨e2, d, v, hd, rd, htp, hinv⟩
    refine x_seq (x_ret ok' a2 (pe_neg Fm.mono pe_int) fun v5 B5 h5 t5 a5 e5 r5 => ?_)
    refine q _ B5 _ _ (a5.end) ?_
    simp only [List.length_map, Nat.sub_self] at hinv
    rw [hinv]
    exact r5
end Mine
end
section
open PySem PySem.W PyProof.Rows PySem.Calls
set_option Elab.async false
set_option maxRecDepth 100000
set_option linter.unusedVariables false
set_option linter.unusedSimpArgs false
namespace Mine

section
variable {w : World} {k : Nat} {J : Heap → Prop} {env : Env} {B : Heap}
theorem pe_fn {x : Str} {p pos : Pos} {a : Expr} {rest : List Expr} {f : Addr} {fd : FuncData} {ds : List PyData} {d : PyData} (hJ : Mono J) (hb : Bs w B) (ho : ∃ c d s, (Kf w).lookup f = some ⟨c, d, .func fd, s⟩) (e : nsIn (Kf w) 3 x = some (some (.ref f))) (ha : PEs w k J env pos B (a :: rest) ds)
    (hc : ∀ B' vs, Ext B B' → RdAll B' vs ds → PT w k J B' (call (.ref f) vs) fun B'' v => Rd B'' v d)
    (hg : env.globals = 3 := by kernel_rfl) (hk : env.scope.kind = .function := by kernel_rfl) (hx : env.kindOf x = some .globalImplicit := by kernel_rfl)
    (hd : (x == ("__debug__" : Str)) = false := by kernel_rfl)
    (he : starEach (a :: rest) env = (false, eval a env) :: starEach rest env := by kernel_rfl) : PE w k J env B (.Call (.Name x p) (a :: rest) [] pos) d := by
  obtain ⟨c1, d1, s1, ho⟩ := ho
  exact pe_fncall hJ hb e ho ha hc hg hk hx hd he
end

noncomputable def afterK (tp : Tape) (deed : Int) : Tape :=
  if deed = 0 then tp ++ [(-1, Str.ofString "(")] else if deed = 2 then tp.take (lastK tp) else if markK tp < 0 then tp else if deed = 1 then tp ++ [(1, Str.ofString ")")] else tp.take (markK tp).toNat

theorem tapeD_take (tp : Tape) (n : Nat) : .list ((tp.map tupD).take n) = tapeD (tp.take n) := by simp [tapeD]
theorem tapeD_snoc (tp : Tape) (p : Int × Str) : .list (tp.map tupD ++ [.tuple [.int p.1, .str p.2]]) = tapeD (tp ++ [p]) := by simp [tapeD, tupD]

set_option maxHeartbeats 1000000 in
theorem after_ok {w : World} {k : Nat} {J : Heap → Prop} {B : Heap} {vs : List Value} {tp : Tape} {deed : Int} (hb : Bs w B) (r : RdAll B vs [tapeD tp, .int deed]) (hz : tp.length < 2 ^ 19) : PT w (k + 2) J B (call (.ref 145) vs) fun B' v => Rd B' v (tapeD (afterK tp deed)) := by
  intro A s Q E ok eb j q
  obtain ⟨tv, vs', rfl, rt, r'⟩ := r.cons_inv
  obtain ⟨dv, vs', rfl, rd, r'⟩ := r'.cons_inv
  rw [r'.nil_inv]
  refine call_def (fd := fdAfter w) ok hb eb (isAfter w) (by kernel_rfl) (by unfold fdAfter; rfl) (BindsTo.of_eq (binds := [(Str.ofString "tape", tv), (Str.ofString "deed", dv)]) (by kernel_rfl)) (by kernel_rfl) (by kernel_rfl) fun L h₁ E' a => ?_
  have ok' := ok.deeper (callEnv (fdAfter w) L 145)
  generalize hA : A.deeper (callEnv (fdAfter w) L 145) = A' at ok'
  have ht : (fun x => List.lookup x [(Str.ofString "tape", tv), (Str.ofString "deed", dv)].reverse) (Str.ofString "tape") = some tv := by rfl
  have hd : (fun x => List.lookup x [(Str.ofString "tape", tv), (Str.ofString "deed", dv)].reverse) (Str.ofString "deed") = some dv := by rfl
  have hzl : tp.length ≤ sizeLine := by have : sizeLine = 2 ^ 24 := rfl; omega
  generalize hm : (fun x => List.lookup x [(Str.ofString "tape", tv), (Str.ofString "deed", dv)].reverse) = m at a ht hd
  refine x_seq (x_if ok' a (te_cmp Fm.mono (pe_local hd rd) pe_int (cop_eqi _ _)) (fun hc B1 h1 t1 a1 e1 => ?_) fun hc B1 h1 t1 a1 e1 => x_nil ?_)
  · refine x_seq (x_ret ok' a1 (pe_bin Fm.mono (pe_local ht (rt.ext e1)) (pe_list (pes_cons Fm.mono (pe_tuple (pes_cons Fm.mono (pe_neg Fm.mono pe_int) (pes_cons Fm.mono pe_str pes_nil))) pes_nil)) (bop_list _ _ (by simp; have : sizeLine = 2 ^ 24 := rfl; omega))) fun v5 B5 h5 t5 a5 e5 r5 => ?_)
    refine q _ B5 _ _ a5.end ?_
    have : deed = 0 := by simpa using hc
    rw [afterK, if_pos this, ← tapeD_snoc]
    exact r5
  refine x_seq (x_if ok' a1 (te_cmp Fm.mono (pe_local hd (rd.ext e1)) pe_int (cop_eqi _ _)) (fun hc2 B2 h2 t2 a2 e2 => ?_) fun hc2 B2 h2 t2 a2 e2 => x_nil ?_)
  · have h0 : ¬ deed = 0 := by simpa using hc
    have h2' : deed = 2 := by simpa using hc2
    refine x_seq (x_ret ok' a2 (pe_upto Fm.mono (pe_local ht (rt.ext (e1.trans e2))) (pe_fn Fm.mono (hb.ext (e1.trans e2)) (isLast w) (by kernel_rfl) (pes_cons Fm.mono (pe_local ht (rt.ext (e1.trans e2))) pes_nil) fun B' vs e r => last_ok (hb.ext ((e1.trans e2).trans e)) r (by omega)) (by simpa using hzl)) fun v5 B5 h5 t5 a5 e5 r5 => ?_)
    refine q _ B5 _ _ a5.end ?_
    rw [afterK, if_neg h0, if_pos h2', ← tapeD_take]
    exact r5
  have h0 : ¬ deed = 0 := by simpa using hc
  have h2' : ¬ deed = 2 := by simpa using hc2
  have e12 := e1.trans e2
  refine x_seq (x_assign ok' a2 (pe_fn Fm.mono (hb.ext e12) (isMark w) (by kernel_rfl) (pes_cons Fm.mono (pe_local ht (rt.ext e12)) pes_nil) fun B' vs e r => mark_ok (hb.ext (e12.trans e)) r (by omega)) fun v3 B3 h3 t3 a3 e3 r3 => ?_)
  refine x_seq (x_if ok' a3 (te_cmp Fm.mono (pe_local upd_self r3) pe_int (cop_lti _ _)) (fun hc4 B4 h4 t4 a4 e4 => ?_) fun hc4 B4 h4 t4 a4 e4 => x_nil ?_)
  · refine x_seq (x_ret ok' a4 (pe_local (upd_ne ht) (rt.ext ((e12.trans e3).trans e4))) fun v5 B5 h5 t5 a5 e5 r5 => ?_)
    refine q _ B5 _ _ a5.end ?_
    rw [afterK, if_neg h0, if_neg h2', if_pos (by simpa using hc4)]
    exact r5
  have h4' : ¬ markK tp < 0 := by simpa using hc4
  have e14 := (e12.trans e3).trans e4
  refine x_seq (x_if ok' a4 (te_cmp Fm.mono (pe_local (upd_ne hd) (rd.ext e14)) pe_int (cop_eqi _ _)) (fun hc5 B5 h5 t5 a5 e5 => ?_) fun hc5 B5 h5 t5 a5 e5 => x_nil ?_)
  · refine x_seq (x_ret ok' a5 (pe_bin Fm.mono (pe_local (upd_ne ht) (rt.ext (e14.trans e5))) (pe_list (pes_cons Fm.mono (pe_tuple (pes_cons Fm.mono pe_int (pes_cons Fm.mono pe_str pes_nil))) pes_nil)) (bop_list _ _ (by simp; have : sizeLine = 2 ^ 24 := rfl; omega))) fun v6 B6 h6 t6 a6 e6 r6 => ?_)
    refine q _ B6 _ _ a6.end ?_
    rw [afterK, if_neg h0, if_neg h2', if_neg h4', if_pos (by simpa using hc5), ← tapeD_snoc]
    exact r6
  · have r3' : Rd B5 v3 (.int ((markK tp).toNat : Nat)) := by
      rw [Int.toNat_of_nonneg (by omega)]
      exact r3.ext (e4.trans e5)
    refine x_seq (x_ret ok' a5 (pe_upto Fm.mono (pe_local (upd_ne ht) (rt.ext (e14.trans e5))) (pe_local upd_self r3') (by simpa using hzl)) fun v6 B6 h6 t6 a6 e6 r6 => ?_)
    refine q _ B6 _ _ a6.end ?_
    rw [afterK, if_neg h0, if_neg h2', if_neg h4', if_neg (by simpa using hc5), ← tapeD_take]
    exact r6
end Mine
end
section
open PySem PySem.W PyProof.Rows PySem.Calls
set_option Elab.async false
set_option maxRecDepth 100000
set_option linter.unusedVariables false
set_option linter.unusedSimpArgs false
namespace Mine

section
variable {w : World} {k : Nat} {J : Heap → Prop} {env : Env} {B : Heap}
theorem mono_and {J K : Heap → Prop} (a : Mono J) (b : Mono K) : Mono fun h => J h ∧ K h := fun h h' e j => ⟨a h h' e j.1, b h h' e j.2⟩
theorem pe_localC {x : Str} {pos : Pos} {m : Str → Option Value} {cs : List (Addr × Obj)} {v : Value} {d : PyData} (hv : m x = some v) (hr : Rd B v d)
    (hk : env.scope.kind = .function := by kernel_rfl) (hl : env.kindOf x = some .local := by kernel_rfl) (hd : (x == ("__debug__" : Str)) = false := by kernel_rfl) : PE w k (fun h => Fm env m cs h ∧ J h) env B (.Name x pos) d :=
  .mk fun _ s _ _ _ e j c => wpAny_Name (wpAny_loadName_local hk hl j.1.1 hv (c _ B s.heap s.toks (.refl e) hr)) hd
/-- a comprehension over a list of pairs, without tests -/
theorem comp_pair {x y : Str} {px py tpos : Pos} {q0 : Nat} {elt : Expr} {scope : Scope} {ds : List PyData} {el : Nat → PyData} {c1 c2 : Nat → PyData} (hJ : Mono J) (hds : ∀ i, i < ds.length → ds.getD i .none = .tuple [c1 i, c2 i])
    (clos : closureFor scope env = pure []) (kind : scope.kind = .function) (names : (scope.names.all fun x => x.2 != .local || decide (scope.names.lookup x.1 = some .local)) = true) (cell : (scope.names.all fun x => decide (x.2 ≠ .cell)) = true)
    (hx : ∀ C, (compEnvC scope [] C env).kindOf x = some .local) (hy : ∀ C, (compEnvC scope [] C env).kindOf y = some .local) (hne : (x == y) = false)
    (elem : ∀ C i m' M' B' v1 v2, i < ds.length → Ext B B' → m' x = some v1 → Rd B' v1 (c1 i) → m' y = some v2 → Rd B' v2 (c2 i) → PE w k (fun h => Fm (compEnvC scope [] C env) m' M' h ∧ J h) (compEnvC scope [] C env) B' elt (el i)) :
    CompOk w k J env B (.Tuple [.Name x px, .Name y py] q0 tpos) elt [] scope [] (fun _ => True) ds.length listSt (fun i => ds.getD i .none) el (fun _ => true) (fun i B m => (∃ v, m x = some v ∧ Rd B v (c1 i)) ∧ ∃ v, m y = some v ∧ Rd B v (c2 i)) where
  clos := clos
  kind := kind
  names := names
  cell := cell
  hsrc := fun _ _ => trivial
  asg := fun C i hi => by rw [hds i hi]; exact asg_pair (hx C) (hy C) kind hne
  tests := fun C i m' M' B' hi e kn => tests_nil
  elem := fun C i m' M' B' hi _ e kn => by
    obtain ⟨⟨v1, h1, r1⟩, v2, h2, r2⟩ := kn
    exact elem C i m' M' B' v1 v2 hi e h1 r1 h2 r2
  mono := fun i m' B' B'' e kn => ⟨let ⟨v, a, b⟩ := kn.1; ⟨v, a, b.ext e⟩, let ⟨v, a, b⟩ := kn.2; ⟨v, a, b.ext e⟩⟩
  own := fun A s I l i o v B Q E hi hg hs r q => by
    rw [hds i hi] at r
    obtain ⟨t, vs, rfl, _⟩ := r.tuple_inv
    exact wpAny_letOwnedTupleGo_listiter ⟨o, hg, hs.1, hs.2⟩ q
theorem outs_all (el : Nat → PyData) (n : Nat) : outs (fun _ => true) el n = (List.range n).map el := by
  unfold outs
  rw [List.filter_eq_self.mpr (fun _ _ => rfl)]
theorem map_getD {α : Type} (l : List α) (f : α → PyData) (d : α) : (List.range l.length).map (fun i => f (l.getD i d)) = l.map f := by
  apply List.ext_getElem
  · simp
  · intro i h1 h2
    simp at h1 h2
    simp [h2]
theorem pe_lenstr {x : Str} {p pos : Pos} {a : Expr} {ss : Str} (hJ : Mono J) (hb : Bs w B) (ha : PE w k J env B a (.str ss)) (hz : ss.length < 2 ^ 62) (hxx : x = Str.ofString "len" := by rfl)
    (hg : env.globals = 3 := by kernel_rfl) (hbi : env.builtins = builtinsNs := by kernel_rfl) (hk : env.scope.kind = .function := by kernel_rfl) (hx : env.kindOf (Str.ofString "len") = some .globalImplicit := by kernel_rfl)
    (he : starEach [a] env = (false, eval a env) :: starEach [] env := by kernel_rfl) : PE w k J env B (.Call (.Name x p) [a] [] pos) (.int ss.length) := by
  subst hxx
  refine pe_bicall (id := "len") hJ hb (by kernel_rfl) (by kernel_rfl) (pes_cons hJ ha pes_nil he) (fun B' vs eb r => ?_) hg hbi hk hx (by kernel_rfl) (by kernel_rfl) he rfl
  intro A s Q E ok eb j q
  obtain ⟨v, vs', rfl, rv, r'⟩ := r.cons_inv
  rw [r'.nil_inv]
  obtain ⟨t, rfl⟩ := rv.str_inv
  exact PySem.P.len_str (by omega) (q _ B' s.heap _ (.refl eb) (.int ..))
end

noncomputable def pieceOf (tp : Tape) : Str × Str :=
  if stepAt tp (lastK tp) = -1 then (Str.ofString "(", cat (((tp.drop (lastK tp)).map (·.2)).drop 1)) else (Str.ofString "", ((tp.drop (lastK tp)).map (·.2)).getD 0 Str.empty)
noncomputable def piecesGo : Nat → Tape → List (Str × Str) → List (Str × Str)
  | 0, _, acc => acc
  | n + 1, tp, acc => if tp = [] then acc else piecesGo n (tp.take (lastK tp)) (pieceOf tp :: acc)
noncomputable def piecesOf (tp : Tape) : List (Str × Str) := piecesGo tp.length tp []
noncomputable def flatOf (tp : Tape) : Str := cat (tp.map (·.2))
noncomputable def pcD (p : Str × Str) : PyData := .tuple [.str p.1, .str p.2]
noncomputable def pcsD (l : List (Str × Str)) : PyData := .list (l.map pcD)
noncomputable def stateD (popped : PyData) (tp : Tape) (size : Int) : PyData := .tuple [popped, pcsD (piecesOf tp), .str (flatOf tp), .int (size + (flatOf tp).length)]

theorem lastAt_lt (tp : Tape) : ∀ (n : Nat) (d : Int), 0 < n → lastAt tp n d < n
  | n + 1, d, _ => by
    unfold lastAt
    split
    · omega
    · cases n with
      | zero => simp [lastAt]
      | succ n => have := lastAt_lt tp (n + 1) (d + (tp.map (·.1)).getD (n + 1) 0) (by omega); omega
theorem lastK_lt {tp : Tape} (h : tp ≠ []) : lastK tp < tp.length := lastAt_lt tp _ _ (by cases tp with | nil => exact absurd rfl h | cons _ _ => simp)

structure TapeOk (tp : Tape) : Prop where
  len : tp.length < 2 ^ 19
  flat : (flatOf tp).length ≤ 500000
  chars : ∀ p ∈ tp, PyData.strOk p.2 = true
theorem cat_append (a b : List Str) : (cat (a ++ b)).length = (cat a).length + (cat b).length := by
  rw [cat_length, cat_length, cat_length]; simp
theorem TapeOk.take {tp : Tape} (h : TapeOk tp) (n : Nat) : TapeOk (tp.take n) := by
  refine ⟨Nat.lt_of_le_of_lt (by simp; omega) h.len, ?_, fun p hp => h.chars p (List.mem_of_mem_take hp)⟩
  have e : flatOf tp = cat ((tp.take n).map (·.2) ++ (tp.drop n).map (·.2)) := by rw [← List.map_append, List.take_append_drop]; rfl
  have := h.flat
  rw [e, cat_append] at this
  show (cat ((tp.take n).map (·.2))).length ≤ _
  omega
theorem TapeOk.drop {tp : Tape} (h : TapeOk tp) (n : Nat) : TapeOk (tp.drop n) := by
  refine ⟨Nat.lt_of_le_of_lt (by simp) h.len, ?_, fun p hp => h.chars p (List.mem_of_mem_drop hp)⟩
  have e : flatOf tp = cat ((tp.take n).map (·.2) ++ (tp.drop n).map (·.2)) := by rw [← List.map_append, List.take_append_drop]; rfl
  have := h.flat
  rw [e, cat_append] at this
  show (cat ((tp.drop n).map (·.2))).length ≤ _
  omega
theorem shaped_tape {tp : Tape} (h : TapeOk tp) : SeqAt.shaped (tapeD tp) = true := by
  have key : ∀ l : Tape, (∀ p ∈ l, PyData.strOk p.2 = true) → PyData.canLayAll0 (l.map tupD) = true ∧ PyData.depthAll (l.map tupD) ≤ 1 := by
    intro l
    induction l with
    | nil => intro _; simp [PyData.canLayAll0, PyData.depthAll]
    | cons p l ih =>
      intro hl
      obtain ⟨a, b⟩ := ih fun q hq => hl q (.tail _ hq)
      have c := hl p (.head _)
      simp only [List.map_cons, PyData.canLayAll0, PyData.depthAll, tupD, PyData.canLay0, PyData.depth, a, c, Bool.and_self, Bool.and_true, true_and]
      omega
  obtain ⟨a, b⟩ := key tp h.chars
  unfold SeqAt.shaped tapeD
  simp only [PyData.canLay0, PyData.depth, a, Bool.true_and]
  exact decide_eq_true (by omega)
theorem eqv_nil (tp : Tape) : PyData.eqv (tapeD tp) (.list []) = decide (tp = []) := by
  cases tp with
  | nil => simp [tapeD, PyData.eqv, PyData.eqvAll]
  | cons p l => simp [tapeD, PyData.eqv, PyData.eqvAll]
theorem tapeD_drop (tp : Tape) (n : Nat) : .list ((tp.map tupD).drop n) = tapeD (tp.drop n) := by simp [tapeD]
theorem texts_is (tp : Tape) : outs (fun _ => true) (fun i => .str ((tp.getD i (0, Str.empty)).2)) (tp.map tupD).length = (tp.map (·.2)).map .str := by
  rw [outs_all, List.length_map, map_getD tp (fun p => .str p.2)]
  simp
theorem tup_getD (tp : Tape) (i : Nat) (h : i < (tp.map tupD).length) : (tp.map tupD).getD i .none = .tuple [.int (tp.getD i (0, Str.empty)).1, .str (tp.getD i (0, Str.empty)).2] := by
  simp at h
  simp [h, tupD]
end Mine
end
section
open PySem PySem.W PyProof.Rows PySem.Calls
set_option Elab.async false
set_option maxRecDepth 100000
set_option linter.unusedVariables false
set_option linter.unusedSimpArgs false
namespace Mine
/-- two ways that meet again -/
theorem x_ifThen {w : World} {k : Nat} {env : Env} {A : Around} {s : Shared} {h : Heap} {t : Nat} {E : Value → Shared → Prop} {Q : Flow → Shared → Prop} {X : List Addr} {M : List (Addr × Obj)} {B₀ h₀ B : Heap} {m : Str → Option Value} {test : Expr} {body orelse rest : List Stmt} {pos : Pos} {b : Bool} (P : Shared → Prop) (ok : Ok k A) (a : At X env.locals M B₀ h₀ m B h) (p : TE w k (Fm env m M) env B test b)
    (yes : b = true → ∀ B' h' tk, At X env.locals M B₀ h₀ m B' h' → Ext B B' → Wx w A (execs body env) (fun f s' => f = .next ∧ P s') E (St s h' tk))
    (no : b = false → ∀ B' h' tk, At X env.locals M B₀ h₀ m B' h' → Ext B B' → Wx w A (execs orelse env) (fun f s' => f = .next ∧ P s') E (St s h' tk))
    (next : ∀ s', P s' → Wx w A (execs rest env) Q E s') : Wx w A (execs (.If test body orelse pos :: rest) env) Q E (St s h t) := by
  have key : ∀ {l : List Stmt} {s' : Shared}, Wx w A (execs l env) (fun f s' => f = .next ∧ P s') E s' → Wx w A (execs l env) (fun f s' => match f with | .next => Wx w A (execs rest env) Q E s' | f => Q f s') E s' :=
    fun h => wx (wpAny_mono (xw h) (fun f s' q => by obtain ⟨rfl, q⟩ := q; exact next s' q) fun _ _ e => e)
  exact x_seq (x_if ok a p (fun hb B' h' tk a' e' => key (yes hb B' h' tk a' e')) fun hb B' h' tk a' e' => key (no hb B' h' tk a' e'))
theorem texts_len {tp : Tape} (h : TapeOk tp) (n : Nat) : (cat (((tp.drop (lastK tp)).map (·.2)).drop n)).length ≤ 1000000 := by
  have := ((h.drop (lastK tp)).drop n).flat
  rw [← List.map_drop]
  show (flatOf ((tp.drop (lastK tp)).drop n)).length ≤ _
  omega

/-- what the loop of `_law_state` keeps -/
inductive StInv (B : Heap) (tp : Tape) (pv sv v1 : Value) (n : Nat) (m' : Str → Option Value) (M' : List (Addr × Obj)) (B' : Heap) : Prop where
  | mk (e : Ext B B') (hM : M' = []) (tp' : Tape) (acc : List (Str × Str)) (tv' cv : Value) (ok : TapeOk tp') (hn : n = tp'.length) (hp : m' (Str.ofString "popped") = some pv) (hs : m' (Str.ofString "size") = some sv) (hf : m' (Str.ofString "flat") = some v1) (ht : m' (Str.ofString "tape") = some tv') (hc : m' (Str.ofString "pieces") = some cv) (rf : Rd B' v1 (.str (flatOf tp))) (rt : Rd B' tv' (tapeD tp')) (rc : Rd B' cv (pcsD acc)) (hl : acc.length + tp'.length ≤ tp.length) (f : Nat) (hf' : tp'.length ≤ f) (hi : piecesOf tp = piecesGo f tp' acc) : StInv B tp pv sv v1 n m' M' B'
set_option maxHeartbeats 2000000 in
theorem state_ok {w : World} {k : Nat} {J : Heap → Prop} {B : Heap} {vs : List Value} {tp : Tape} {popped : PyData} {size : Int} (hb : Bs w B) (r : RdAll B vs [popped, tapeD tp, .int size]) (hok : TapeOk tp) : PT w (k + 2) J B (call (.ref 150) vs) fun B' v => Rd B' v (stateD popped tp size) := by
  intro A s Q E ok eb j q
  obtain ⟨pv, vs', rfl, rp, r'⟩ := r.cons_inv
  obtain ⟨tv, vs', rfl, rt, r'⟩ := r'.cons_inv
  obtain ⟨sv, vs', rfl, rs, r'⟩ := r'.cons_inv
  rw [r'.nil_inv]
  refine call_def (fd := fdState w) ok hb eb (isState w) (by kernel_rfl) (by unfold fdState; rfl) (BindsTo.of_eq (binds := [(Str.ofString "popped", pv), (Str.ofString "tape", tv), (Str.ofString "size", sv)]) (by kernel_rfl)) (by kernel_rfl) (by kernel_rfl) fun L h₁ E' a => ?_
  have ok' := ok.deeper (callEnv (fdState w) L 150)
  generalize hA : A.deeper (callEnv (fdState w) L 150) = A' at ok'
  have hp : (fun x => List.lookup x [(Str.ofString "popped", pv), (Str.ofString "tape", tv), (Str.ofString "size", sv)].reverse) (Str.ofString "popped") = some pv := by rfl
  have ht : (fun x => List.lookup x [(Str.ofString "popped", pv), (Str.ofString "tape", tv), (Str.ofString "size", sv)].reverse) (Str.ofString "tape") = some tv := by rfl
  have hs : (fun x => List.lookup x [(Str.ofString "popped", pv), (Str.ofString "tape", tv), (Str.ofString "size", sv)].reverse) (Str.ofString "size") = some sv := by rfl
  generalize hm : (fun x => List.lookup x [(Str.ofString "popped", pv), (Str.ofString "tape", tv), (Str.ofString "size", sv)].reverse) = m at a ht hp hs
  have hsl : sizeLine = 2 ^ 24 := rfl
  have hlen := hok.len
  refine x_seq (x_assign ok' a (pe_join (ss := tp.map (·.2)) Fm.mono (PE.cast (d := .list (outs (fun _ => true) (fun i => .str ((tp.getD i (0, Str.empty)).2)) (tp.map tupD).length)) (pe_comp Fm.mono (ite_list (ds := tp.map tupD) ?it) (comp_pair Fm.mono (tup_getD tp) ?c1 ?c2 ?c3 ?c4 ?c5 ?c6 ?c7 ?c8) ?hn) ?cs) ?hz) fun v1 B1 h1 t1 a1 e1 r1 => ?_)
  case it => exact pe_local ht rt
  case c1 => kernel_rfl
  case c2 => kernel_rfl
  case c3 => kernel_rfl
  case c4 => kernel_rfl
  case c5 => exact fun C => by kernel_rfl
  case c6 => exact fun C => by kernel_rfl
  case c7 => kernel_rfl
  case c8 => exact fun C i m' M' B' v1 v2 hi e h1 r1 h2 r2 => pe_localC h2 r2
  case hn => simp; omega
  case cs => rw [texts_is]
  case hz => have := hok.flat; unfold flatOf at this; omega
  refine x_seq (x_assign ok' a1 (pe_list pes_nil) fun v2 B2 h2 t2 a2 e2 r2 => ?_)
  refine x_seq (x_while (StInv B tp pv sv v1) ok' a2 tp.length
    ⟨e1.trans e2, rfl, tp, [], tv, v2, hok, rfl, upd_ne (upd_ne hp), upd_ne (upd_ne hs), upd_ne upd_self, upd_ne (upd_ne ht), upd_self, r1.ext e2, rt.ext (e1.trans e2), r2, by simp, tp.length, Nat.le_refl _, rfl⟩ ?_)
  rintro n m3 M3 B3 h3 E3 a3 ⟨e3, rfl, tp', acc, tv', cv, hok', rfl, hp3, hs3, hf3, ht3, hc3, rf3, rt3, rc3, hlen', f, hf, hinv⟩
  have hl3 := hok'.len
  refine ⟨!decide (tp' = []), by rw [← eqv_nil]; exact te_cmp Fm.mono (pe_local ht3 rt3) (pe_list pes_nil) (cop_ne _ _ (shaped_tape hok') rfl), fun hc B4 h4 t4 a4 e4 => wx_gen fun Q2 up2 => ?_, fun hc B4 h4 t4 a4 e4 => ?_⟩
  · have hne : tp' ≠ [] := by simpa using hc
    have hlt := lastK_lt hne
    have e04 := e3.trans e4
    refine x_seq (x_assign ok' a4 (pe_fn Fm.mono (hb.ext e04) (isLast w) (by kernel_rfl) (pes_cons Fm.mono (pe_local ht3 (rt3.ext e4)) pes_nil) fun B' vs e r => last_ok (hb.ext (e04.trans e)) r (by omega)) fun v5 B5 h5 t5 a5 e5 r5 => ?_)
    have e45 := e4.trans e5
    refine x_seq (x_assignComp ok' a5 (ite_list (ds := (tp'.drop (lastK tp')).map tupD) ?it) (comp_pair (el := fun i => .str (((tp'.drop (lastK tp')).getD i (0, Str.empty)).2)) Fm.mono (tup_getD _) ?c1 ?c2 ?c3 ?c4 ?c5 ?c6 ?c7 ?c8) ?hn fun v6 B6 h6 t6 a6 e6 r6 => ?_)
    case it => exact PE.cast (pe_from Fm.mono (pe_local (upd_ne ht3) (rt3.ext e45)) (pe_local upd_self r5) (by simp; omega)) (tapeD_drop _ _)
    case c1 => kernel_rfl
    case c2 => kernel_rfl
    case c3 => kernel_rfl
    case c4 => kernel_rfl
    case c5 => exact fun C => by kernel_rfl
    case c6 => exact fun C => by kernel_rfl
    case c7 => kernel_rfl
    case c8 => exact fun C i m' M' B' v1 v2 hi e h1 r1 h2 r2 => pe_localC h2 r2
    case hn => simp; omega
    rw [texts_is] at r6
    have e46 := e45.trans e6
    have hm5 : ∀ {x : Str} {v : Value}, m3 x = some v → (x == Str.ofString "place") = false → (x == Str.ofString "texts") = false → upd (upd m3 (Str.ofString "place") v5) (Str.ofString "texts") v6 x = some v := fun h h1 h2 => upd_ne (upd_ne h h1) h2
    refine x_ifThen (fun s' => ∃ v B7 h7 t7, s' = St s h7 t7 ∧ At [] (callEnv (fdState w) L 150).locals [] B s.heap (upd (upd (upd m3 (Str.ofString "place") v5) (Str.ofString "texts") v6) (Str.ofString "pieces") v) B7 h7 ∧ Ext B6 B7 ∧ Rd B7 v (pcsD (pieceOf tp' :: acc))) ok' a6
      (te_cmp Fm.mono (pe_titem Fm.mono (pe_item Fm.mono (pe_local (hm5 ht3 (by kernel_rfl) (by kernel_rfl)) (rt3.ext e46)) (pe_local (upd_ne upd_self) (r5.ext e6)) (by omega) (by omega) (by rw [Int.toNat_natCast]; exact tape_get hlt)) pe_int (by decide) (by decide) rfl) (pe_neg Fm.mono pe_int) (cop_eqi _ _)) (fun hc7 B7 h7 t7 a7 e7 => ?_) (fun hc7 B7 h7 t7 a7 e7 => ?_) ?_
    · have hpc : pieceOf tp' = (Str.ofString "(", cat (((tp'.drop (lastK tp')).map (·.2)).drop 1)) := by
        rw [pieceOf, if_pos (by simpa [stepAt] using hc7)]
      refine x_seq (x_assign ok' a7 (pe_bin Fm.mono (pe_list (pes_cons Fm.mono (pe_tuple (pes_cons Fm.mono pe_str (pes_cons Fm.mono (pe_join (ss := ((tp'.drop (lastK tp')).map (·.2)).drop 1) Fm.mono (PE.cast (pe_from (n := 1) Fm.mono (pe_local upd_self (r6.ext e7)) pe_int (by simp; omega)) (by simp)) (texts_len hok' 1)) pes_nil))) pes_nil)) (pe_local (hm5 hc3 (by kernel_rfl) (by kernel_rfl)) (rc3.ext (e46.trans e7))) (bop_list _ _ (by simp; omega))) fun v8 B8 h8 t8 a8 e8 r8 => x_nil ⟨rfl, v8, B8, h8, t8, rfl, a8, e7.trans e8, by rw [hpc]; exact r8⟩)
    · have hpc : pieceOf tp' = (Str.ofString "", ((tp'.drop (lastK tp')).map (·.2)).getD 0 Str.empty) := by
        rw [pieceOf, if_neg (by simpa [stepAt] using hc7)]
      refine x_seq (x_assign ok' a7 (pe_bin Fm.mono (pe_list (pes_cons Fm.mono (pe_tuple (pes_cons Fm.mono pe_str (pes_cons Fm.mono (pe_item (d := .str (((tp'.drop (lastK tp')).map (·.2)).getD 0 Str.empty)) Fm.mono (pe_local upd_self (r6.ext e7)) pe_int (by decide) (by decide) (by
        have : 0 < (tp'.drop (lastK tp')).length := by simp; omega
        cases hq : tp'.drop (lastK tp') with
        | nil => rw [hq] at this; simp at this
        | cons x l => simp)) pes_nil))) pes_nil)) (pe_local (hm5 hc3 (by kernel_rfl) (by kernel_rfl)) (rc3.ext (e46.trans e7))) (bop_list _ _ (by simp; omega))) fun v8 B8 h8 t8 a8 e8 r8 => x_nil ⟨rfl, v8, B8, h8, t8, rfl, a8, e7.trans e8, by rw [hpc]; exact r8⟩)
    · rintro _ ⟨v, B7, h7, t7, rfl, a7, e7, r7⟩
      refine x_seq (x_assign ok' a7 (PE.cast (pe_upto Fm.mono (pe_local (upd_ne (hm5 ht3 (by kernel_rfl) (by kernel_rfl))) (rt3.ext (e46.trans e7))) (pe_local (upd_ne (upd_ne upd_self)) (r5.ext (e6.trans e7))) (by simp; omega)) (tapeD_take _ _)) fun v8 B8 h8 t8 a8 e8 r8 => x_nil (up2 _ _
          ⟨lastK tp', _, [], B8, h8, t8, hlt, rfl, a8, ((e3.trans e46).trans e7).trans e8, rfl, tp'.take (lastK tp'), pieceOf tp' :: acc, v8, v, hok'.take _, by simp; omega, upd_ne (upd_ne (hm5 hp3 (by kernel_rfl) (by kernel_rfl))), upd_ne (upd_ne (hm5 hs3 (by kernel_rfl) (by kernel_rfl))), upd_ne (upd_ne (hm5 hf3 (by kernel_rfl) (by kernel_rfl))), upd_self, upd_ne upd_self, rf3.ext ((e46.trans e7).trans e8), r8, r7.ext e8, by simp; omega, f - 1, by simp; omega, by
            rw [hinv]
            have : f = (f - 1) + 1 := by omega
            rw [this, piecesGo, if_neg hne]
            rfl⟩))
  · have hnil : tp' = [] := by simpa using hc
    subst hnil
    have e04 := e3.trans e4
    have hfl := hok.flat
    refine x_seq (x_ret ok' a4 (pe_tuple (pes_cons Fm.mono (pe_local hp3 (rp.ext e04)) (pes_cons Fm.mono (pe_local hc3 (rc3.ext e4)) (pes_cons Fm.mono (pe_local hf3 (rf3.ext e4)) (pes_cons Fm.mono (pe_bin Fm.mono (pe_local hs3 (rs.ext e04)) (pe_lenstr Fm.mono (hb.ext e04) (pe_local hf3 (rf3.ext e4)) (by omega)) (bop_add _ _)) pes_nil))))) fun v5 B5 h5 t5 a5 e5 r5 => ?_)
    refine q _ B5 _ _ a5.end ?_
    have : piecesOf tp = acc := by
      rw [hinv]
      cases f <;> rfl
    rw [stateD, this]
    exact r5
end Mine
end
section
open PySem PySem.W PyProof.Rows PySem.Calls
set_option Elab.async false
set_option maxRecDepth 100000
set_option linter.unusedVariables false
set_option linter.unusedSimpArgs false
namespace Mine

/-- where a look goes: the standing part, a tracked thing, a new thing -/
inductive Act where
  | k
  | t (j : Nat)
  | n (j : Nat)
  | p
inductive Out (α : Type) where
  | ok (a : α)
  | err (e : Value)
  | stop (c : Code) (hd : Option Value) (k : Result → Sem α)
structure RS where
  os : List Obj
  news : List Obj
  tk : Nat
noncomputable abbrev Ran (α : Type) := Option (α × List (Addr × Addr) × List Act × RS)
noncomputable def Ran.with {α : Type} (l : List (Addr × Addr)) : Ran α → Ran α
  | some (a, l', acts, r) => some (a, l ++ l', acts, r)
  | none => none
noncomputable def notPast (hd : Option Value) : Bool := match hd with
  | none => true
  | some v => match v with
    | .notImplemented => false
    | _ => true
noncomputable def takeP (acts : List Act) : Option (List Act) := match acts with
  | [] => none
  | x :: acts => match x with
    | .p => some acts
    | .k => none
    | .t _ => none
    | .n _ => none
/-- a look by the oracle -/
noncomputable def lookT {α : Type} (K : Frag) (as : List Addr) (n : Nat) (a : Addr) (go : Obj → List Act → RS → Ran α) (acts : List Act) (r : RS) : Ran α := match acts with
  | [] => none
  | x :: acts => match x with
    | .k => (K.lookup a).bind fun o => go o acts r
    | .t j => (as[j]?).bind fun b => (r.os[j]?).bind fun o => Ran.with [(a, b)] (go o acts r)
    | .n j => (r.news[j]?).bind fun o => Ran.with [(a, n + j)] (go o acts r)
    | .p => none
/-- a change by the oracle -/
noncomputable def turnT {α : Type} (as : List Addr) (n : Nat) (a : Addr) (f : Obj → Obj) (go : List Act → RS → Ran α) (acts : List Act) (r : RS) : Ran α := match acts with
  | [] => none
  | x :: acts => match x with
    | .k => none
    | .t j => (as[j]?).bind fun b => (r.os[j]?).bind fun o => cond (f o).isFreed none (Ran.with [(a, b)] (go acts ⟨r.os.set j (f o), r.news, r.tk⟩))
    | .n j => (r.news[j]?).bind fun o => cond (f o).isFreed none (Ran.with [(a, n + j)] (go acts ⟨r.os, r.news.set j (f o), r.tk⟩))
    | .p => none
/-- what comes behind a call by the runner of codes -/
noncomputable def backT {α : Type} (go : Result → List Act → RS → Ran α) (x : Ran Result) : Ran α :=
  x.bind fun y => Ran.with y.2.1 (go y.1 y.2.2.1 y.2.2.2)
noncomputable def callT {α : Type} (rc : Code → List Act → RS → Ran Result) (c : Code) (hd : Option Value) (k : Result → Sem α) (go : Result → List Act → RS → Ran (Out α)) (acts : List Act) (r : RS) : Ran (Out α) :=
  cond (notPast hd) (Option.rec (motive := fun _ => Ran (Out α)) (backT go (rc c acts r)) (fun acts' => some (.stop c hd k, [], acts', r)) (takeP acts)) none
/-- a tree run by an oracle of looks -/
noncomputable def runT {α : Type} (K : Frag) (S : Setting) (as : List Addr) (n : Nat) (rc : Code → List Act → RS → Ran Result) (t : Sem α) : List Act → RS → Ran (Out α) :=
  Sem.rec (motive := fun _ => List Act → RS → Ran (Out α))
    (pure := fun a acts r => some (.ok a, [], acts, r))
    (raise := fun e acts r => some (.err e, [], acts, r))
    (unsupported := fun _ _ _ => none)
    (finish := fun _ _ _ => none)
    (rule := fun _ _ ih => ih ())
    («at» := fun _ _ ih => ih ())
    (load := fun a _ _ ih => lookT K as n a ih)
    (update := fun a _ f _ ih => turnT as n a f (ih ()))
    (alloc := fun o _ ih acts r => cond o.isFreed none (ih (n + r.news.length) acts ⟨r.os, r.news ++ [o], r.tk⟩))
    (loadIfAlive := fun _ _ _ _ _ => none)
    (point := fun _ _ ih => ih ())
    (register := fun _ _ _ _ _ => none)
    (fresh := fun _ ih acts r => ih r.tk acts ⟨r.os, r.news, r.tk + 1⟩)
    (ask := fun _ ih => ih S)
    (choose := fun _ _ _ _ _ _ => none)
    (os := fun _ _ _ _ _ _ => none)
    (call := fun c hd _ _ k ih => callT rc c hd k ih)
    (handled := fun _ _ _ _ _ => none)
    (newGen := fun _ _ _ _ _ => none)
    (genState := fun _ _ _ _ _ => none)
    (resume := fun _ _ _ _ _ _ _ => none)
    (yield := fun _ _ _ _ _ _ _ => none)
    (stack := fun _ _ _ _ => none)
    (fork := fun _ _ _ _ _ => none)
    (thread := fun _ _ _ _ => none)
    (await := fun _ _ _ _ _ _ _ _ => none)
    t
/-- the tree of a code, builtins by the library's own index -/
noncomputable def denB (id : String) (args : Args) : Sem Fin := match entriesT.find (code id) with
  | some b => b args
  | none => if id = "list.__getattribute__" then Builtin.«object.__getattribute__» args else .unsupported id
noncomputable def den (c : Code) : Sem Fin := match c with
  | .builtin id args => denB id args
  | c => denote table c
theorem den_of {id : String} {args : Args} {b : Builtin} (e : entryFor table id = some b) : denote table (.builtin id args) = b args := by
  have h : denote table (.builtin id args) = (fun o : Option Builtin => match o with | some b => b args | none => unsupported ((withoutEnding? id "#data").getD id)) (entryFor table id) := rfl
  rw [h, e]
theorem den_eq {c : Code} (h : ∀ s, den c ≠ .unsupported s) : denote table c = den c := by
  cases c with
  | builtin id args =>
    have h : ∀ s, denB id args ≠ .unsupported s := h
    show denote table (.builtin id args) = denB id args
    unfold denB at h ⊢
    cases e : entriesT.find (code id) with
    | none =>
      rw [e] at h
      by_cases hid : id = "list.__getattribute__"
      · subst hid
        exact den_of PySem.F.entry_list_ga
      · exact absurd (if_neg hid) (h id)
    | some b => exact den_of (entryFor_of_tree e)
  | _ => rfl
/-- what comes behind a tree -/
noncomputable def endT (go : Code → List Act → RS → Ran Result) (x : Ran (Out Fin)) : Ran Result :=
  x.bind fun y => match y.1 with
    | .ok fin => match fin with
      | .done fl => some (.ok fl, y.2)
      | .again c' => cond c'.quiet (Ran.with y.2.1 (go c' y.2.2.1 y.2.2.2)) none
    | .err e => some (.error e, y.2)
    | .stop .. => none
noncomputable def runC (K : Frag) (S : Setting) (as : List Addr) (n : Nat) (f : Nat) : Code → List Act → RS → Ran Result :=
  Nat.rec (motive := fun _ => Code → List Act → RS → Ran Result) (fun _ _ _ => none) (fun _ ih c acts r => endT ih (runT K S as n ih (den c) acts r)) f

structure Rp (as : List Addr) (n : Nat) (h₀ : Heap) (r : RS) (h : Heap) : Prop where
  own : ∀ (j : Nat) (b : Addr) (o : Obj), as[j]? = some b → r.os[j]? = some o → h.get? b = some o
  new : ∀ (j : Nat) (o : Obj), r.news[j]? = some o → h.get? (n + j) = some o
  size : h.objs.size = n + r.news.length
  keep : ∀ b o, b ∉ as → h₀.get? b = some o → h.get? b = some o
structure Tr (K : Frag) (as : List Addr) (n : Nat) (h₀ : Heap) : Prop where
  k : K.In h₀
  off : ∀ b ∈ as, K.lookup b = none
  nd : as.Nodup
  lt : ∀ b ∈ as, b < n
  n : n = h₀.objs.size

theorem Ran.with_some {α : Type} {l : List (Addr × Addr)} {x : Ran α} {a : α} {l' : List (Addr × Addr)} {acts : List Act} {r : RS} (h : Ran.with l x = some (a, l', acts, r)) : ∃ l'', x = some (a, l'', acts, r) ∧ l' = l ++ l'' := by
  cases x with
  | none => cases h
  | some y => obtain ⟨a', l'', acts', r'⟩ := y; simp only [Ran.with, Option.some.injEq, Prod.mk.injEq] at h; obtain ⟨rfl, rfl, rfl, rfl⟩ := h; exact ⟨l'', rfl, rfl⟩

section
variable {K : Frag} {as : List Addr} {n : Nat} {h₀ : Heap}
theorem Rp.k {r : RS} {h : Heap} (T : Tr K as n h₀) (p : Rp as n h₀ r h) {a : Addr} {o : Obj} (e : K.lookup a = some o) : h.get? a = some o :=
  p.keep a o (fun hm => by rw [T.off a hm] at e; cases e) (T.k a o e)
theorem Rp.updT {r : RS} {h : Heap} (T : Tr K as n h₀) (p : Rp as n h₀ r h) {j : Nat} {b : Addr} {o : Obj} {f : Obj → Obj} (hb : as[j]? = some b) (ho : r.os[j]? = some o) (hf : (f o).isFreed = false) : Rp as n h₀ ⟨r.os.set j (f o), r.news, r.tk⟩ (h.update b f) := by
  have hs : Heap.SameBut b h (h.update b f) := Heap.SameBut.update ..
  have hbm : b ∈ as := List.mem_of_getElem? hb
  refine ⟨fun i c o' hc ho' => ?_, fun i o' ho' => ?_, by rw [hs.1]; exact p.size, fun c o' hc ho' => ?_⟩
  · by_cases hij : i = j
    · subst hij
      rw [hb] at hc
      cases hc
      have hlt : i < r.os.length := (List.getElem?_eq_some_iff.mp ho).1
      simp only [List.getElem?_set_self hlt, Option.some.injEq] at ho'
      subst ho'
      exact Heap.get?_update_self _ (p.own i b o hb ho) hf
    · have hcb : c ≠ b := fun e => by
        subst e
        obtain ⟨h1, e1⟩ := List.getElem?_eq_some_iff.mp hc
        obtain ⟨h2, e2⟩ := List.getElem?_eq_some_iff.mp hb
        exact hij ((List.getElem_inj T.nd).mp (e1.trans e2.symm))
      rw [List.getElem?_set_ne (Ne.symm hij)] at ho'
      exact (hs.2 c hcb).trans (p.own i c o' hc ho')
  · exact (hs.2 _ (fun (e : n + i = b) => Nat.lt_irrefl n (Nat.lt_of_le_of_lt (Nat.le_add_right n i) (e.symm ▸ T.lt b hbm)))).trans (p.new i o' ho')
  · exact (hs.2 c (fun e => hc (e ▸ hbm))).trans (p.keep c o' hc ho')
theorem Rp.updN {r : RS} {h : Heap} (T : Tr K as n h₀) (p : Rp as n h₀ r h) {j : Nat} {o : Obj} {f : Obj → Obj} (ho : r.news[j]? = some o) (hf : (f o).isFreed = false) : Rp as n h₀ ⟨r.os, r.news.set j (f o), r.tk⟩ (h.update (n + j) f) := by
  have hs : Heap.SameBut (n + j) h (h.update (n + j) f) := Heap.SameBut.update ..
  refine ⟨fun i c o' hc ho' => ?_, fun i o' ho' => ?_, by rw [hs.1, List.length_set]; exact p.size, fun c o' hc ho' => ?_⟩
  · exact (hs.2 c (fun (e : c = n + j) => Nat.lt_irrefl n (Nat.lt_of_le_of_lt (Nat.le_add_right n j) (e ▸ T.lt c (List.mem_of_getElem? hc))))).trans (p.own i c o' hc ho')
  · by_cases hij : i = j
    · subst hij
      have hlt : i < r.news.length := (List.getElem?_eq_some_iff.mp ho).1
      simp only [List.getElem?_set_self hlt, Option.some.injEq] at ho'
      subst ho'
      exact Heap.get?_update_self _ (p.new i o ho) hf
    · rw [List.getElem?_set_ne (Ne.symm hij)] at ho'
      exact (hs.2 _ (fun e => hij (Nat.add_left_cancel e))).trans (p.new i o' ho')
  · exact (hs.2 c (fun e => by have h1 := Heap.lt_size ho'; rw [← T.n] at h1; exact Nat.lt_irrefl n (Nat.lt_of_le_of_lt (Nat.le_add_right n j) (e ▸ h1)))).trans (p.keep c o' hc ho')
theorem Rp.alloc {r : RS} {h : Heap} (T : Tr K as n h₀) (p : Rp as n h₀ r h) {o : Obj} (hf : o.isFreed = false) : Rp as n h₀ ⟨r.os, r.news ++ [o], r.tk⟩ (h.push o) := by
  refine ⟨fun i c o' hc ho' => Heap.get?_push_of_some _ (p.own i c o' hc ho'), fun i o' ho' => ?_, by rw [Heap.size_push, p.size, List.length_append]; rfl, fun c o' hc ho' => Heap.get?_push_of_some _ (p.keep c o' hc ho')⟩
  rcases Nat.lt_trichotomy i r.news.length with c | c | c
  · rw [List.getElem?_append_left c] at ho'
    exact Heap.get?_push_of_some _ (p.new i o' ho')
  · subst c
    simp at ho'
    subst ho'
    rw [← p.size]
    exact Heap.get?_push_size _ hf
  · have : (r.news ++ [o])[i]? = none := List.getElem?_eq_none (by simp; omega)
    rw [this] at ho'; cases ho'
end

theorem notPast_ne {hd : Option Value} (h : notPast hd = true) : hd ≠ some byPass := by
  intro e
  subst e
  cases h

noncomputable def eqs (l : List (Addr × Addr)) : Prop := ∀ p ∈ l, p.1 = p.2
theorem eqs_app {l l' : List (Addr × Addr)} (h : eqs (l ++ l')) : eqs l ∧ eqs l' := ⟨fun p hp => h p (List.mem_append_left _ hp), fun p hp => h p (List.mem_append_right _ hp)⟩

section
variable {w : World} {as : List Addr} {n : Nat} {h₀ : Heap}
/-- what is asked of the runner of codes -/
noncomputable def Sound (w : World) (as : List Addr) (n : Nat) (h₀ : Heap) (rc : Code → List Act → RS → Ran Result) : Prop :=
  ∀ c acts r res l acts' r', rc c acts r = some (res, l, acts', r') → eqs l → ∀ (A : Around) (s : Shared) (h : Heap) (R : Result → Shared → Prop), Rp as n h₀ r h → (∀ h', Rp as n h₀ r' h' → R res (St s h' r'.tk)) → codeAny (model Pr w) A c R (St s h r.tk)
theorem cond_no {α : Type} {b : Bool} {x : Option α} {y : α} (e : cond b none x = some y) : b = false ∧ x = some y := by
  cases b with
  | true => cases e
  | false => exact ⟨rfl, e⟩
theorem bind_some {α β : Type} {x : Option α} {f : α → Option β} {y : β} (e : x.bind f = some y) : ∃ a, x = some a ∧ f a = some y := by
  cases x with
  | none => cases e
  | some a => exact ⟨a, rfl, e⟩
theorem cond_yes {α : Type} {b : Bool} {x : Option α} {y : α} (e : cond b x none = some y) : b = true ∧ x = some y := by
  cases b with
  | false => cases e
  | true => exact ⟨rfl, e⟩
/-- what is asked of a tree's run -/
noncomputable def Told (w : World) (as : List Addr) (n : Nat) (h₀ : Heap) {α : Type} (t : Sem α) (go : List Act → RS → Ran (Out α)) : Prop :=
  ∀ (acts : List Act) (r : RS) (v : Out α) (l : List (Addr × Addr)) (acts' : List Act) (r' : RS), go acts r = some (v, l, acts', r') → eqs l →
    ∀ (A : Around) (s : Shared) (h : Heap) (Q : α → Shared → Prop) (E : Value → Shared → Prop), Rp as n h₀ r h → (∀ h', Rp as n h₀ r' h' → match v with | .ok a => Q a (St s h' r'.tk) | .err e => E e (St s h' r'.tk) | .stop c hd k => codeAny (model Pr w) (A.mark hd) c (fun r s' => wpAny (model Pr w) A (k r) Q E s') (St s h' r'.tk)) → wpAny (model Pr w) A t Q E (St s h r.tk)
theorem Told.load {α : Type} (T : Tr (Kf w) as n h₀) {a : Addr} {part : Option Value} {k : Obj → Sem α} {go : Obj → List Act → RS → Ran (Out α)} (ih : ∀ o, Told w as n h₀ (k o) (go o)) : Told w as n h₀ (.load a part k) (lookT (Kf w) as n a go) := by
  intro acts r v l acts' r' e hl A s h Q E p q
  have fin : ∀ {o : Obj} {acts₁ : List Act} {l₁ : List (Addr × Addr)}, h.get? a = some o → go o acts₁ r = some (v, l₁, acts', r') → eqs l₁ → wpAny (model Pr w) A (.load a part k) Q E (St s h r.tk) := fun ho er el Γ p' hΓ =>
    ⟨_, ho, ih _ _ r v _ acts' r' er el A s h Q E p q Γ p' hΓ⟩
  cases acts with
  | nil => cases e
  | cons x acts₁ =>
    cases x with
    | p => cases e
    | k =>
      obtain ⟨o, ho, e⟩ := bind_some (x := (Kf w).lookup a) e
      exact fin (p.k T ho) e hl
    | t j =>
      obtain ⟨b, hb, e⟩ := bind_some (x := as[j]?) e
      obtain ⟨o, ho, e⟩ := bind_some (x := r.os[j]?) e
      obtain ⟨l₁, e₁, rfl⟩ := Ran.with_some e
      obtain ⟨q1, q2⟩ := eqs_app hl
      have hab : a = b := q1 (a, b) (.head _)
      exact fin (hab ▸ p.own j b o hb ho) e₁ q2
    | n j =>
      obtain ⟨o, ho, e⟩ := bind_some (x := r.news[j]?) e
      obtain ⟨l₁, e₁, rfl⟩ := Ran.with_some e
      obtain ⟨q1, q2⟩ := eqs_app hl
      have hab : a = n + j := q1 (a, n + j) (.head _)
      exact fin (hab ▸ p.new j o ho) e₁ q2
theorem Told.update {α : Type} (T : Tr (Kf w) as n h₀) {a : Addr} {part : Option Value} {f : Obj → Obj} {k : Unit → Sem α} {go : List Act → RS → Ran (Out α)} (ih : Told w as n h₀ (k ()) go) : Told w as n h₀ (.update a part f k) (turnT as n a f go) := by
  intro acts r v l acts' r' e hl A s h Q E p q
  cases acts with
  | nil => cases e
  | cons x acts₁ =>
    cases x with
    | p => cases e
    | k => cases e
    | t j =>
      obtain ⟨b, hb, e⟩ := bind_some (x := as[j]?) e
      obtain ⟨o, ho, e⟩ := bind_some (x := r.os[j]?) e
      obtain ⟨hf, e⟩ := cond_no e
      obtain ⟨l₁, e₁, rfl⟩ := Ran.with_some e
      obtain ⟨q1, q2⟩ := eqs_app hl
      have hab : a = b := q1 (a, b) (.head _)
      subst hab
      exact wpAny_bind (m := updatePart a part f) (f := k) (wpAny_updatePart (p.own j a o hb ho) (ih _ _ v _ acts' r' e₁ q2 A s _ Q E (p.updT T hb ho hf) q))
    | n j =>
      obtain ⟨o, ho, e⟩ := bind_some (x := r.news[j]?) e
      obtain ⟨hf, e⟩ := cond_no e
      obtain ⟨l₁, e₁, rfl⟩ := Ran.with_some e
      obtain ⟨q1, q2⟩ := eqs_app hl
      have hab : a = n + j := q1 (a, n + j) (.head _)
      subst hab
      exact wpAny_bind (m := updatePart (n + j) part f) (f := k) (wpAny_updatePart (p.new j o ho) (ih _ _ v _ acts' r' e₁ q2 A s _ Q E (p.updN T ho hf) q))
theorem Told.alloc {α : Type} (T : Tr (Kf w) as n h₀) {o : Obj} {k : Addr → Sem α} {go : Addr → List Act → RS → Ran (Out α)} (ih : ∀ a, Told w as n h₀ (k a) (go a)) : Told w as n h₀ (.alloc o k) (fun acts r => cond o.isFreed none (go (n + r.news.length) acts ⟨r.os, r.news ++ [o], r.tk⟩)) := by
  intro acts r v l acts' r' e hl A s h Q E p q
  obtain ⟨hf, e⟩ := cond_no e
  refine wpAny_bind (m := PySem.alloc o) (f := k) (wpAny_alloc ?_)
  have hz : (St s h r.tk).heap.objs.size = n + r.news.length := p.size
  rw [hz]
  exact ih _ acts _ v l acts' r' e hl A s _ Q E (p.alloc T hf) q
theorem Told.call {α : Type} {rc : Code → List Act → RS → Ran Result} (hrc : Sound w as n h₀ rc) {c : Code} {hd : Option Value} {g : Bool} {lv : List Value} {k : Result → Sem α} {go : Result → List Act → RS → Ran (Out α)} (ih : ∀ x, Told w as n h₀ (k x) (go x)) : Told w as n h₀ (.call c hd g lv k) (callT rc c hd k go) := by
  intro acts r v l acts' r' e hl A s h Q E p q
  obtain ⟨hp, e⟩ := cond_yes e
  cases ht : takeP acts with
  | some acts₁ =>
    rw [ht] at e
    cases e
    exact fun Γ p' hΓ => wpCode_mono (fun _ _ z => z Γ p' hΓ) (q h p _ p' rfl (hΓ.enter c hd p' (notPast_ne hp)))
  | none =>
    rw [ht] at e
    obtain ⟨⟨res, l₀, acts₀, r₀⟩, hr, e⟩ := bind_some (x := rc c acts r) e
    obtain ⟨l₁, e₁, rfl⟩ := Ran.with_some e
    obtain ⟨q1, q2⟩ := eqs_app hl
    have hc := hrc c acts r res l₀ acts₀ r₀ hr q1 (A.mark hd) s h (fun r s' => wpAny (model Pr w) A (k r) Q E s') p fun h' p' => ih res acts₀ r₀ v l₁ acts' r' e₁ q2 A s h' Q E p' q
    exact fun Γ p' hΓ => wpCode_mono (fun _ _ z => z Γ p' hΓ) (hc _ p' rfl (hΓ.enter c hd p' (notPast_ne hp)))
theorem Told.pass {α : Type} {t : Sem α} {u : Sem α} {go : List Act → RS → Ran (Out α)} (hw : ∀ A Q E s, wpAny (model Pr w) A u Q E s → wpAny (model Pr w) A t Q E s) (ih : Told w as n h₀ u go) : Told w as n h₀ t go :=
  fun acts r v l acts' r' e hl A s h Q E p q => hw _ _ _ _ (ih acts r v l acts' r' e hl A s h Q E p q)
theorem Told.not {α : Type} {t : Sem α} : Told w as n h₀ t (fun _ _ => none) := fun _ _ _ _ _ _ e => nomatch e
theorem runT_sound {α : Type} {rc : Code → List Act → RS → Ran Result} (T : Tr (Kf w) as n h₀) (hrc : Sound w as n h₀ rc) (t : Sem α) : Told w as n h₀ t (runT (Kf w) ⟨Pr, w.params⟩ as n rc t) := by
  induction t with
  | pure a =>
    intro acts r v l acts' r' e _ A s h Q E p q
    cases e
    exact wpAny_pure (q h p)
  | raise a =>
    intro acts r v l acts' r' e _ A s h Q E p q
    cases e
    exact wpAny_throw (q h p)
  | rule t k ih => exact Told.pass (fun _ _ _ _ x Γ p' hΓ => x Γ p' hΓ) (ih ())
  | «at» t k ih => exact Told.pass (fun _ _ _ _ x Γ p' hΓ => x Γ t hΓ) (ih ())
  | point t k ih => exact Told.pass (fun _ _ _ _ x Γ p' hΓ => x Γ p' hΓ) (ih ())
  | ask k ih => exact Told.pass (fun _ _ _ _ x Γ p' hΓ => x Γ p' hΓ) (ih _)
  | fresh k ih => exact fun acts r v l acts' r' e hl A s h Q E p q Γ p' hΓ => ih _ acts _ v l acts' r' e hl A s h Q E ⟨p.own, p.new, p.size, p.keep⟩ q Γ p' hΓ
  | load a part k ih => exact Told.load T ih
  | update a part f k ih => exact Told.update T (ih ())
  | alloc o k ih => exact Told.alloc T ih
  | call c hd g lv k ih => exact Told.call hrc ih
  | _ => exact Told.not

theorem runC_sound (T : Tr (Kf w) as n h₀) (f : Nat) : Sound w as n h₀ (runC (Kf w) ⟨Pr, w.params⟩ as n f) := by
  induction f with
  | zero => exact fun c acts r res l acts' r' e => nomatch e
  | succ f ih =>
    intro c acts r res l acts' r' e hl A s h R p q
    obtain ⟨⟨v, l₁, acts₁, r₁⟩, er, e⟩ := bind_some (x := runT (Kf w) ⟨Pr, w.params⟩ as n (runC (Kf w) ⟨Pr, w.params⟩ as n f) (den c) acts r) e
    have hd : denote table c = den c := by
      refine den_eq fun z hz => ?_
      rw [hz] at er
      cases er
    refine codeAny_of_tree ?_
    show wpAny (model Pr w) (A.under c) (denote table c) _ _ _
    rw [hd]
    cases v with
    | ok fin =>
      cases fin with
      | done fl =>
        cases e
        exact runT_sound T ih (den c) _ _ _ _ _ _ er hl _ s h _ _ p fun h' p' => q h' p'
      | again c' =>
        obtain ⟨hq, e⟩ := cond_yes e
        obtain ⟨l₂, e₂, rfl⟩ := Ran.with_some e
        obtain ⟨q1, q2⟩ := eqs_app hl
        exact runT_sound T ih (den c) _ _ _ _ _ _ er q1 _ s h _ _ p fun h' p' => ⟨hq, ih c' _ _ _ _ _ _ e₂ q2 A s h' R p' q⟩
    | err e' =>
      cases e
      exact runT_sound T ih (den c) _ _ _ _ _ _ er hl _ s h _ _ p fun h' p' => q h' p'
    | stop c hd k => cases e
end
end Mine
end
section
open PySem PySem.W PyProof.Rows PySem.Calls
set_option Elab.async false
set_option maxRecDepth 100000
set_option linter.unusedVariables false
set_option linter.unusedSimpArgs false
namespace Mine

noncomputable def newsAt (n : Addr) : Nat → List Obj → List (Addr × Obj)
  | _, [] => []
  | i, o :: l => (n + i, o) :: newsAt n (i + 1) l
theorem newsAt_mem {n : Addr} : ∀ {i : Nat} {l : List Obj} {p : Addr × Obj}, p ∈ newsAt n i l → ∃ j, p.1 = n + (i + j) ∧ l[j]? = some p.2
  | i, [], p, hp => nomatch hp
  | i, o :: l, p, hp => by
    rcases List.mem_cons.mp hp with rfl | hp
    · exact ⟨0, rfl, rfl⟩
    · obtain ⟨j, e, q⟩ := newsAt_mem hp
      exact ⟨j + 1, by rw [e]; congr 1; omega, q⟩
theorem newsAt_nd {n : Addr} : ∀ {i : Nat} {l : List Obj}, ((newsAt n i l).map (·.1)).Nodup
  | i, [] => .nil
  | i, o :: l => by
    refine List.nodup_cons.mpr ⟨fun hm => ?_, newsAt_nd⟩
    obtain ⟨p, hp, e⟩ := List.mem_map.mp hm
    obtain ⟨j, e', _⟩ := newsAt_mem hp
    rw [e'] at e
    have : i + 1 + j = i := Nat.add_left_cancel e
    omega
theorem zip_mem {α β : Type} {p : α × β} : ∀ {as : List α} {os : List β}, p ∈ as.zip os → ∃ j : Nat, as[j]? = some p.1 ∧ os[j]? = some p.2
  | [], os, hp => by simp at hp
  | a :: as, [], hp => by simp at hp
  | a :: as, o :: os, hp => by
    rcases List.mem_cons.mp hp with rfl | hp
    · exact ⟨0, rfl, rfl⟩
    · obtain ⟨j, e, q⟩ := zip_mem hp
      exact ⟨j + 1, e, q⟩
theorem zip_sub {α β : Type} : ∀ (as : List α) (os : List β), ((as.zip os).map (·.1)).Sublist as
  | [], os => by simp
  | a :: as, [] => by simp
  | a :: as, o :: os => by simpa using zip_sub as os

section
variable {w : World} {X : List Addr} {L : Addr} {T M : List (Addr × Obj)} {B₀ h₀ B h : Heap} {m : Str → Option Value}
theorem At.tr (hb : Bs w B) (a : At X L (T ++ M) B₀ h₀ m B h) : Tr (Kf w) (T.map (·.1)) h.objs.size h := by
  refine ⟨hb.k.keeps a.bh, fun b hm => ?_, ?_, fun b hm => ?_, rfl⟩
  · obtain ⟨p, hp, rfl⟩ := List.mem_map.mp hm
    cases e : (Kf w).lookup p.1 with
    | none => rfl
    | some o =>
      have := hb.k _ _ e
      rw [(a.offM p (List.mem_append_left _ hp)).1] at this
      cases this
  · have := a.nd
    rw [List.map_append] at this
    exact this.sublist (List.sublist_append_left ..)
  · obtain ⟨p, hp, rfl⟩ := List.mem_map.mp hm
    exact Heap.lt_size (a.own p (List.mem_append_left _ hp))
theorem At.rp (a : At X L (T ++ M) B₀ h₀ m B h) (tk : Nat) : Rp (T.map (·.1)) h.objs.size h ⟨T.map (·.2), [], tk⟩ h := by
  refine ⟨fun j b o hb ho => ?_, fun j o e => (nomatch e), rfl, fun b o _ e => e⟩
  simp only [List.getElem?_map, Option.map_eq_some_iff] at hb ho
  obtain ⟨p, hp, rfl⟩ := hb
  obtain ⟨q, hq, rfl⟩ := ho
  rw [hp] at hq
  cases hq
  exact a.own p (List.mem_append_left _ (List.mem_of_getElem? hp))
theorem At.ran (a : At X L (T ++ M) B₀ h₀ m B h) {r : RS} {h' : Heap} (p : Rp (T.map (·.1)) h.objs.size h r h') : At X L (newsAt h.objs.size 0 r.news ++ ((T.map (·.1)).zip r.os ++ M)) B₀ h₀ m B h' := by
  have nd := a.nd
  rw [List.map_append] at nd
  have ndp := List.nodup_append.mp nd
  have keep : ∀ b o, b ∉ T.map (·.1) → h.get? b = some o → h'.get? b = some o := p.keep
  have inT : ∀ b ∈ T.map (·.1), ∃ q ∈ T, q.1 = b := fun b hm => by obtain ⟨q, hq, e⟩ := List.mem_map.mp hm; exact ⟨q, hq, e⟩
  have zs := zip_sub (T.map (·.1)) r.os
  have newlt : ∀ {q}, q ∈ newsAt h.objs.size 0 r.news → h.objs.size ≤ q.1 := fun {q} hq => by
    obtain ⟨j, e, _⟩ := newsAt_mem hq; rw [e]; exact Nat.le_add_right ..
  have oldlt : ∀ {q}, q ∈ T ++ M → q.1 < h.objs.size := fun {q} hq => Heap.lt_size (a.own q hq)
  refine ⟨?_, fun q hq => ?_, a.offL, a.newL, fun q hq => ?_, ?_, fun b o e => ?_, a.bb, fun b o hx e => ?_, ?_, a.fresh⟩
  · obtain ⟨o, es, ep, ho, rest⟩ := a.ns
    refine ⟨o, es, ep, keep _ _ (fun hm => ?_) ho, rest⟩
    obtain ⟨q, hq, e⟩ := inT _ hm
    exact (a.offM q (List.mem_append_left _ hq)).2.1 e
  · rcases List.mem_append.mp hq with hq | hq
    · obtain ⟨j, e, hj⟩ := newsAt_mem hq
      rw [e, Nat.zero_add]
      exact p.new j _ hj
    · rcases List.mem_append.mp hq with hq | hq
      · obtain ⟨j, e, hj⟩ := zip_mem hq
        exact p.own j _ _ e hj
      · exact keep _ _ (fun hm => ndp.2.2 _ hm _ (List.mem_map_of_mem hq) rfl) (a.own q (List.mem_append_right _ hq))
  · rcases List.mem_append.mp hq with hq | hq
    · have := newlt hq
      refine ⟨?_, fun e => ?_, .inr (Nat.le_trans a.sz this)⟩
      · cases e : B.get? q.1 with
        | none => rfl
        | some o => exact absurd (Heap.lt_size (a.bh _ _ e)) (Nat.not_lt.mpr this)
      · rw [e] at this; exact absurd a.ltL (Nat.not_lt.mpr this)
    · rcases List.mem_append.mp hq with hq | hq
      · obtain ⟨x, hx, e⟩ := inT _ (zs.subset (List.mem_map_of_mem hq))
        have := a.offM x (List.mem_append_left _ hx)
        rw [e] at this
        exact this
      · exact a.offM q (List.mem_append_right _ hq)
  · rw [List.map_append, List.map_append]
    refine List.nodup_append.mpr ⟨newsAt_nd, List.nodup_append.mpr ⟨zs.nodup ndp.1, ndp.2.1, fun x hx y hy => ndp.2.2 x (zs.subset hx) y hy⟩, fun x hx y hy e => ?_⟩
    subst e
    obtain ⟨q, hq, rfl⟩ := List.mem_map.mp hx
    have h1 := newlt hq
    have h2 : q.1 < h.objs.size := by
      rcases List.mem_append.mp hy with hy | hy
      · obtain ⟨z, hz, e⟩ := inT _ (zs.subset hy)
        rw [← e]; exact oldlt (List.mem_append_left _ hz)
      · obtain ⟨z, hz, e⟩ := List.mem_map.mp hy
        rw [← e]; exact oldlt (List.mem_append_right _ hz)
    exact Nat.lt_irrefl _ (Nat.lt_of_lt_of_le h2 h1)
  · refine keep _ _ (fun hm => ?_) (a.bh b o e)
    obtain ⟨q, hq, e'⟩ := inT _ hm
    rw [← e', (a.offM q (List.mem_append_left _ hq)).1] at e
    cases e
  · refine keep _ _ (fun hm => ?_) (a.kp b o hx e)
    obtain ⟨q, hq, e'⟩ := inT _ hm
    rcases (a.offM q (List.mem_append_left _ hq)).2.2 with c | c
    · rw [e'] at c; exact hx c
    · rw [e'] at c; exact Nat.lt_irrefl _ (Nat.lt_of_lt_of_le (Heap.lt_size e) c)
  · rw [p.size]; exact Nat.le_trans a.sz (Nat.le_add_right ..)

/-- what a run by these acts must have seen -/
noncomputable def twins (as : List Addr) (n : Addr) : List Act → List (Addr × Addr)
  | [] => []
  | .t j :: l => (as.getD j 0, as.getD j 0) :: twins as n l
  | .n j :: l => (n + j, n + j) :: twins as n l
  | _ :: l => twins as n l
theorem twins_eqs {as : List Addr} {n : Addr} : ∀ {acts : List Act}, eqs (twins as n acts)
  | [], p, hp => nomatch hp
  | .t j :: l, p, hp => by
    rcases List.mem_cons.mp hp with rfl | hp
    · rfl
    · exact twins_eqs p hp
  | .n j :: l, p, hp => by
    rcases List.mem_cons.mp hp with rfl | hp
    · rfl
    · exact twins_eqs p hp
  | .k :: l, p, hp => twins_eqs (acts := l) p hp
  | .p :: l, p, hp => twins_eqs (acts := l) p hp
noncomputable abbrev theRun {α : Type} (w : World) (T : List (Addr × Obj)) (n : Addr) (f : Nat) (t : Sem α) (acts : List Act) (tk : Nat) : Ran (Out α) :=
  runT (Kf w) ⟨Pr, w.params⟩ (T.map (·.1)) n (runC (Kf w) ⟨Pr, w.params⟩ (T.map (·.1)) n f) t acts ⟨T.map (·.2), [], tk⟩
noncomputable def Out.post {α : Type} (w : World) (A : Around) (Q : α → Shared → Prop) (E : Value → Shared → Prop) (s : Shared) : Out α → Prop
  | .ok a => Q a s
  | .err e => E e s
  | .stop c hd k => codeAny (model Pr w) (A.mark hd) c (fun r s' => wpAny (model Pr w) A (k r) Q E s') s
/-- a tree run by the oracle, inside a frame -/
theorem run_at {α : Type} {t : Sem α} {A : Around} {s : Shared} {Q : α → Shared → Prop} {E : Value → Shared → Prop} (f : Nat) (acts : List Act) {tk : Nat} {v : Out α} {os news : List Obj} {tk' : Nat} (hb : Bs w B) (a : At X L (T ++ M) B₀ h₀ m B h)
    (er : theRun w T h.objs.size f t acts tk = some (v, twins (T.map (·.1)) h.objs.size acts, [], ⟨os, news, tk'⟩))
    (q : ∀ h', At X L (newsAt h.objs.size 0 news ++ ((T.map (·.1)).zip os ++ M)) B₀ h₀ m B h' → Out.post w A Q E (St s h' tk') v) :
    wpAny (model Pr w) A t Q E (St s h tk) := by
  have T1 := a.tr hb
  exact runT_sound T1 (runC_sound T1 f) t acts _ _ _ _ _ er twins_eqs A s h Q E (a.rp tk) fun h' p' => by have := q h' (a.ran p'); cases v <;> exact this
end
end Mine
end
section
open PySem PySem.W PyProof.Rows PySem.Calls
set_option Elab.async false
set_option maxRecDepth 100000
set_option linter.unusedVariables false
set_option linter.unusedSimpArgs false
namespace Mine

noncomputable def accOb (d : Addr) (it : Array Value) (ep : Nat) : Obj := { cls := .ref 101, dict := some d, data := .seq it ep }
noncomputable def dicOb (es : Array DictEntry) (ep : Nat) : Obj := { cls := .type "dict", data := .dict es ep }

theorem zip_map (T : List (Addr × Obj)) : (T.map (·.1)).zip (T.map (·.2)) = T := by
  induction T with
  | nil => rfl
  | cons x T ih => simp [ih]

section
variable {w : World} {X : List Addr} {L : Addr} {T M : List (Addr × Obj)} {B₀ h₀ B h : Heap} {m : Str → Option Value}
/-- a run that only looks -/
theorem run_look {α : Type} {t : Sem α} {A : Around} {s : Shared} {Q : α → Shared → Prop} {E : Value → Shared → Prop} (f : Nat) (acts : List Act) {tk tk' : Nat} {v : α} (hb : Bs w B) (a : At X L (T ++ M) B₀ h₀ m B h)
    (er : theRun w T h.objs.size f t acts tk = some (.ok v, twins (T.map (·.1)) h.objs.size acts, [], ⟨T.map (·.2), [], tk'⟩))
    (q : ∀ h', At X L (T ++ M) B₀ h₀ m B h' → Q v (St s h' tk')) : wpAny (model Pr w) A t Q E (St s h tk) :=
  run_at f acts hb a er fun h' a' => by
    rw [zip_map] at a'
    exact q h' a'
/-- the caller's frame again -/
theorem At.back {L' : Addr} {T' M' : List (Addr × Obj)} {m' : Str → Option Value} {B' h' : Heap} (a : At X L (T ++ M) B₀ h₀ m B h) (b : At (T.map (·.1)) L' (T' ++ M') B h m' B' h') (e : T'.map (·.1) = T.map (·.1)) : At X L (T' ++ M) B₀ h₀ m B' h' := by
  have nd := a.nd
  rw [List.map_append] at nd
  have ndp := List.nodup_append.mp nd
  have inT : ∀ x ∈ T.map (·.1), ∃ q ∈ T, q.1 = x := fun x hm => by obtain ⟨q, hq, e⟩ := List.mem_map.mp hm; exact ⟨q, hq, e⟩
  have offN : ∀ x, x < h.objs.size → B.get? x = none → B'.get? x = none := fun x hx hn => by
    cases e : B'.get? x with
    | none => rfl
    | some o =>
      rcases b.fresh x o e with c | c
      · rw [hn] at c; cases c
      · exact absurd hx (Nat.not_lt.mpr c)
  refine ⟨?_, fun q hq => ?_, offN _ a.ltL a.offL, a.newL, fun q hq => ?_, by rw [List.map_append, e]; exact nd, b.bh, a.bb.trans b.bb, fun x o hx ex => ?_, Nat.le_trans a.sz b.sz, fun x o ex => ?_⟩
  · obtain ⟨o, es, ep, ho, rest⟩ := a.ns
    refine ⟨o, es, ep, b.kp _ _ (fun hm => ?_) ho, rest⟩
    obtain ⟨q, hq, e⟩ := inT _ hm
    exact (a.offM q (List.mem_append_left _ hq)).2.1 e
  · rcases List.mem_append.mp hq with hq | hq
    · exact b.own q (List.mem_append_left _ hq)
    · exact b.kp _ _ (fun hm => ndp.2.2 _ hm _ (List.mem_map_of_mem hq) rfl) (a.own q (List.mem_append_right _ hq))
  · rcases List.mem_append.mp hq with hq | hq
    · obtain ⟨x, hx, ex⟩ := inT q.1 (e ▸ List.mem_map_of_mem hq)
      have := a.offM x (List.mem_append_left _ hx)
      rw [ex] at this
      exact ⟨(b.offM q (List.mem_append_left _ hq)).1, this.2⟩
    · have := a.offM q (List.mem_append_right _ hq)
      exact ⟨offN _ (Heap.lt_size (a.own q (List.mem_append_right _ hq))) this.1, this.2⟩
  · refine b.kp _ _ (fun hm => ?_) (a.kp x o hx ex)
    obtain ⟨q, hq, eq⟩ := inT _ hm
    rcases (a.offM q (List.mem_append_left _ hq)).2.2 with c | c
    · rw [eq] at c; exact hx c
    · rw [eq] at c; exact Nat.lt_irrefl _ (Nat.lt_of_lt_of_le (Heap.lt_size ex) c)
  · rcases b.fresh x o ex with c | c
    · exact a.fresh x o c
    · exact .inr (Nat.le_trans a.sz c)
/-- a frame begins -/
theorem At.enter {L' : Addr} {m' : Str → Option Value} {h₁ : Heap} (a : At X L (T ++ M) B₀ h₀ m B h) (hl : L' = h.objs.size) (hns : h₁.Ns L' m') (hk : Ext h h₁) : At (T.map (·.1)) L' T B h m' B h₁ := by
  have nd := a.nd
  rw [List.map_append] at nd
  subst hl
  refine ⟨hns, fun p hp => hk _ _ (a.own p (List.mem_append_left _ hp)), ?_, Nat.le_refl _, fun p hp => ⟨(a.offM p (List.mem_append_left _ hp)).1, Nat.ne_of_lt (Heap.lt_size (a.own p (List.mem_append_left _ hp))), .inl (List.mem_map_of_mem hp)⟩, (List.nodup_append.mp nd).1, a.bh.trans hk, Ext.refl _, fun b o _ e => hk b o e, Nat.le_of_lt hns.lt, fun x o e => .inl e⟩
  cases e : B.get? h.objs.size with
  | none => rfl
  | some o => exact absurd (Heap.lt_size (a.bh _ _ e)) (Nat.lt_irrefl _)
/-- a call of a def that changes what the caller holds; E' says what its raising comes to -/
theorem call_defE {k : Nat} {A : Around} {s : Shared} {tk : Nat} {f : Addr} {fd : FuncData} {body : List Stmt} {vs : List Value} {binds : List (Str × Value)} {Q E : Value → Shared → Prop} (ok : Ok (k + 1) A) (hb : Bs w B) (a : At X L (T ++ M) B₀ h₀ m B h) (ho : ∃ c d s, (Kf w).lookup f = some ⟨c, d, .func fd, s⟩) (hc : codeIn (Kf w) fd.code fd.qualname = true) (hbody : fd.body = .stmts body)
    (hbind : BindsTo (St s h tk) fd ⟨vs, []⟩ binds) (hcell : (fd.scope.names.all fun x => decide (x.2 ≠ .cell)) = true) (hloc : ((binds.map (·.1)).all fun x => decide (fd.scope.names.lookup x = some .local)) = true)
    (hw : ∀ L' h₁, At (T.map (·.1)) L' T B h (fun x => binds.reverse.lookup x) B h₁ → Wx w (A.deeper (callEnv fd L' f)) (execs body (callEnv fd L' f)) (fun fl s' => Q (match fl with | .ret v => v | _ => .none) s')
      (fun e s' => wpAny (model Pr w) (A.deeper (callEnv fd L' f)) (leaving (callEnv fd L' f) e) (fun _ s'' => E e s'') (fun e' s'' => E e' s'') s') (St s h₁ (tk + binds.length)))
    (hco : fd.scope.isCoroutine = false := by kernel_rfl) (hgen : fd.scope.isGenerator = false := by kernel_rfl) (hk : fd.scope.kind = .function := by kernel_rfl) : wpAny (model Pr w) A (call (.ref f) vs) Q E (St s h tk) := by
  obtain ⟨oc, od, osl, ho⟩ := ho
  refine wpAny_call (codeAny_call_def (s := St s h tk) (fd := fd) (body := body) (binds := binds) ok.room (a.bh _ _ (hb.k _ _ ho)) rfl (hb.lim.keeps a.bh) (codeRec_of (hb.k.keeps a.bh) hc) hbody hbind (fun x hx => of_decide_eq_true (List.all_eq_true.mp hcell x hx)) (fun x hx => of_decide_eq_true (List.all_eq_true.mp hloc x.1 (List.mem_map_of_mem hx))) (fun h₁ hns hk₁ => ?_) hco hgen hk)
  exact wpAny_mono (xw (hw h.objs.size h₁ (a.enter rfl hns hk₁))) (fun fl s' q => q) fun _ _ q => q
theorem call_defX {k : Nat} {A : Around} {s : Shared} {tk : Nat} {f : Addr} {fd : FuncData} {body : List Stmt} {vs : List Value} {binds : List (Str × Value)} {Q E : Value → Shared → Prop} (ok : Ok (k + 1) A) (hb : Bs w B) (a : At X L (T ++ M) B₀ h₀ m B h) (ho : ∃ c d s, (Kf w).lookup f = some ⟨c, d, .func fd, s⟩) (hc : codeIn (Kf w) fd.code fd.qualname = true) (hbody : fd.body = .stmts body)
    (hbind : BindsTo (St s h tk) fd ⟨vs, []⟩ binds) (hcell : (fd.scope.names.all fun x => decide (x.2 ≠ .cell)) = true) (hloc : ((binds.map (·.1)).all fun x => decide (fd.scope.names.lookup x = some .local)) = true)
    (hw : ∀ L' h₁ E', At (T.map (·.1)) L' T B h (fun x => binds.reverse.lookup x) B h₁ → Wx w (A.deeper (callEnv fd L' f)) (execs body (callEnv fd L' f)) (fun fl s' => Q (match fl with | .ret v => v | _ => .none) s') E' (St s h₁ (tk + binds.length)))
    (hco : fd.scope.isCoroutine = false := by kernel_rfl) (hgen : fd.scope.isGenerator = false := by kernel_rfl) (hk : fd.scope.kind = .function := by kernel_rfl) : wpAny (model Pr w) A (call (.ref f) vs) Q E (St s h tk) :=
  call_defE ok hb a ho hc hbody hbind hcell hloc (fun L' h₁ a' => hw L' h₁ _ a') hco hgen hk

/-- a call of a builtin: its arguments are looked at, its body walked -/
theorem call_bi {A : Around} {s : Shared} {tk : Nat} {id : String} {b : Builtin} {vs : List Value} {Q E : Value → Shared → Prop} (f : Nat) (acts : List Act) (hb : Bs w B) (a : At X L (T ++ M) B₀ h₀ m B h)
    (hp : plainId id = true) (he : entriesT.find (code id) = some b)
    (er : theRun w T h.objs.size f (checkBuiltinCall id ⟨vs, []⟩) acts tk = some (.ok (), twins (T.map (·.1)) h.objs.size acts, [], ⟨T.map (·.2), [], tk⟩))
    (hw : ∀ h', At X L (T ++ M) B₀ h₀ m B h' → wpAny (model Pr w) A.in1 (b ⟨vs, []⟩) (fun fin s' => match fin with
      | .done f => (match f with | .ret v => Q v s' | _ => False)
      | .again c' => c'.quiet = true ∧ codeAny (model Pr w) A c' (fun r s' => match r with | .ok (.ret v) => Q v s' | .ok _ => False | .error e => E e s') s') (fun e s' => E e s') (St s h' tk)) : wpAny (model Pr w) A (call (.builtin id) vs) Q E (St s h tk) := by
  refine wpAny_call (codeAny_call_builtin hp (entryFor_of_tree he) (run_look f acts hb a er fun h' a' => ?_))
  refine wpAny_mono (hw h' a') (fun fin s' q => ?_) fun _ _ q => q
  cases fin with
  | done f => cases f <;> exact q
  | again c' => exact q
/-- a tracked thing with items is written -/
theorem upd_seq {A : Around} {s : Shared} {tk : Nat} {p : Addr} {c : Value} {d : Option Addr} {it : Array Value} {ep : Nat} {f : Array Value → Array Value} {Q : Unit → Shared → Prop} {E : Value → Shared → Prop} (a : At X L ((p, ⟨c, d, .seq it ep, #[]⟩) :: M) B₀ h₀ m B h) (hz : it.size ≤ sizeLine) (hz' : (f it).size ≤ sizeLine + 1)
    (hw : ∀ h' ep', At X L ((p, ⟨c, d, .seq (f it) ep', #[]⟩) :: M) B₀ h₀ m B h' → Q () (St s h' tk)) : wpAny (model Pr w) A (updateSeq p f) Q E (St s h tk) := by
  have ho : h.get? p = some ⟨c, d, .seq it ep, #[]⟩ := a.own (p, _) (.head _)
  refine wpAny_updateSeq (s := St s h tk) ho rfl ?_ hz hz'
  refine hw (h.update p (Obj.mapSeq f)) (if (f it).size == it.size then ep else ep + 1) (At.change (M₁ := []) a ?_ (Heap.SameBut.update ..))
  exact Heap.get?_update_self _ ho rfl
/-- acc.append(v) -/
theorem acc_append {A : Around} {s : Shared} {tk : Nat} {p d : Addr} {it : Array Value} {ep : Nat} {v : Value} {Q E : Value → Shared → Prop} (hb : Bs w B) (a : At X L ((p, accOb d it ep) :: M) B₀ h₀ m B h) (hz : it.size ≤ sizeLine)
    (hw : ∀ h' ep', At X L ((p, accOb d (it.push v) ep') :: M) B₀ h₀ m B h' → Q .none (St s h' tk)) : wpAny (model Pr w) A (call (.builtin "list.append") [.ref p, v]) Q E (St s h tk) := by
  refine call_bi (T := [(p, accOb d it ep)]) (b := Builtin.«list.append») 3 [.t 0, .k] hb a (by kernel_rfl) (by kernel_rfl) (by kernel_rfl) fun h' a' => ?_
  show wpAny _ _ (updateSeq p (·.push v) >>= fun _ => ret .none) _ _ _
  exact wpAny_bind (upd_seq a' hz (by simp; omega) fun h₂ ep' a₂ => wpAny_pure (hw h₂ ep' a₂))

/-- the acc's own dict -/
noncomputable def dicZ (hs : Int) (t : Nat) (z : Value) : Obj := dicOb #[⟨hs, .str "_initial_size" t, z⟩] 1
theorem gm_push {A : Around} {s : Shared} {tk : Nat} {p d : Addr} {it : Array Value} {ep : Nat} {hs : Int} {t : Nat} {z : Value} {Q : Value × List Value → Shared → Prop} {E : Value → Shared → Prop} {pl : Sem Bool} (hb : Bs w B) (a : At X L ((p, accOb d it ep) :: (d, dicZ hs t z) :: M) B₀ h₀ m B h)
    (hw : ∀ h', At X L ((p, accOb d it ep) :: (d, dicZ hs t z) :: M) B₀ h₀ m B h' → Q (.ref 45, [.ref p]) (St s h' tk)) : wpAny (model Pr w) A (getMethod (.ref p) (Str.ofString "push") pl) Q E (St s h tk) :=
  run_look (T := [(p, accOb d it ep), (d, dicZ hs t z)]) 5 [.t 0, .k, .k, .k, .t 0, .k, .k, .k, .t 0, .k, .k, .k, .k, .t 0, .t 1] hb a (by kernel_rfl) hw
theorem gm_append {A : Around} {s : Shared} {tk : Nat} {p d : Addr} {it : Array Value} {ep : Nat} {hs : Int} {t : Nat} {z : Value} {Q : Value × List Value → Shared → Prop} {E : Value → Shared → Prop} {pl : Sem Bool} (hb : Bs w B) (a : At X L ((p, accOb d it ep) :: (d, dicZ hs t z) :: M) B₀ h₀ m B h)
    (hw : ∀ h', At X L ((p, accOb d it ep) :: (d, dicZ hs t z) :: M) B₀ h₀ m B h' → Q (.builtin "list.append", [.ref p]) (St s h' tk)) : wpAny (model Pr w) A (getMethod (.ref p) (Str.ofString "append") pl) Q E (St s h tk) :=
  run_look (T := [(p, accOb d it ep), (d, dicZ hs t z)]) 5 [.t 0, .k, .k, .k, .t 0, .k, .k, .k, .t 0, .k, .k, .k, .t 0, .t 1] hb a (by kernel_rfl) hw
theorem gm_part {A : Around} {s : Shared} {tk : Nat} {p d : Addr} {it : Array Value} {ep : Nat} {hs : Int} {t : Nat} {z : Value} {Q : Value × List Value → Shared → Prop} {E : Value → Shared → Prop} {pl : Sem Bool} (hb : Bs w B) (a : At X L ((p, accOb d it ep) :: (d, dicZ hs t z) :: M) B₀ h₀ m B h)
    (hw : ∀ h', At X L ((p, accOb d it ep) :: (d, dicZ hs t z) :: M) B₀ h₀ m B h' → Q (.ref 98, [.ref p]) (St s h' tk)) : wpAny (model Pr w) A (getMethod (.ref p) (Str.ofString "part_count") pl) Q E (St s h tk) :=
  run_look (T := [(p, accOb d it ep), (d, dicZ hs t z)]) 5 [.t 0, .k, .k, .k, .t 0, .k, .k, .k, .t 0, .k, .k, .k, .k, .t 0, .t 1] hb a (by kernel_rfl) hw
theorem gm_pop {A : Around} {s : Shared} {tk : Nat} {p d : Addr} {it : Array Value} {ep : Nat} {hs : Int} {t : Nat} {z : Value} {Q : Value × List Value → Shared → Prop} {E : Value → Shared → Prop} {pl : Sem Bool} (hb : Bs w B) (a : At X L ((p, accOb d it ep) :: (d, dicZ hs t z) :: M) B₀ h₀ m B h)
    (hw : ∀ h', At X L ((p, accOb d it ep) :: (d, dicZ hs t z) :: M) B₀ h₀ m B h' → Q (.ref 61, [.ref p]) (St s h' tk)) : wpAny (model Pr w) A (getMethod (.ref p) (Str.ofString "pop") pl) Q E (St s h tk) :=
  run_look (T := [(p, accOb d it ep), (d, dicZ hs t z)]) 5 [.t 0, .k, .k, .k, .t 0, .k, .k, .k, .t 0, .k, .k, .k, .k, .t 0, .t 1] hb a (by kernel_rfl) hw
theorem gm_popFrom {A : Around} {s : Shared} {tk : Nat} {p d : Addr} {it : Array Value} {ep : Nat} {hs : Int} {t : Nat} {z : Value} {Q : Value × List Value → Shared → Prop} {E : Value → Shared → Prop} {pl : Sem Bool} (hb : Bs w B) (a : At X L ((p, accOb d it ep) :: (d, dicZ hs t z) :: M) B₀ h₀ m B h)
    (hw : ∀ h', At X L ((p, accOb d it ep) :: (d, dicZ hs t z) :: M) B₀ h₀ m B h' → Q (.ref 53, [.ref p]) (St s h' tk)) : wpAny (model Pr w) A (getMethod (.ref p) (Str.ofString "pop_from") pl) Q E (St s h tk) :=
  run_look (T := [(p, accOb d it ep), (d, dicZ hs t z)]) 5 [.t 0, .k, .k, .k, .t 0, .k, .k, .k, .t 0, .k, .k, .k, .k, .t 0, .t 1] hb a (by kernel_rfl) hw
end
end Mine
end
section
open PySem PySem.W PyProof.Rows PySem.Calls
set_option Elab.async false
set_option maxRecDepth 100000
set_option linter.unusedVariables false
set_option linter.unusedSimpArgs false
namespace Mine
section
variable {w : World} {k : Nat} {env : Env} {A : Around} {s : Shared} {h : Heap} {t : Nat} {E : Value → Shared → Prop} {Q : Flow → Shared → Prop} {X : List Addr} {M : List (Addr × Obj)} {B₀ h₀ B : Heap} {m : Str → Option Value}
theorem x_expr {e : Expr} {pos : Pos} (p : wpAny (model Pr w) A (eval e env) (fun _ s' => Q .next s') E (St s h t)) (hi : interactive env = false := by kernel_rfl) (hs : swapsWith e none pos.line env = pure false := by kernel_rfl) : Wx w A (exec (.Expr e pos) env) Q E (St s h t) :=
  wx (wpAny_Expr_any p hi hs)
/-- a name of the frame -/
theorem ev_local {x : Str} {px : Pos} {v : Value} {Q : Value → Shared → Prop} (a : At X env.locals M B₀ h₀ m B h) (hm : m x = some v) (q : Q v (St s h t)) (hl : env.kindOf x = some .local := by kernel_rfl) (hk : env.scope.kind = .function := by kernel_rfl) (hd : (x == ("__debug__" : Str)) = false := by kernel_rfl) : wpAny (model Pr w) A (eval (.Name x px) env) Q E (St s h t) :=
  wpAny_Name (wpAny_loadName_local hk hl a.ns hm q) hd
end

set_option maxHeartbeats 1000000 in
theorem push_ok {w : World} {k : Nat} {A : Around} {s : Shared} {h : Heap} {tk : Nat} {E Q : Value → Shared → Prop} {X : List Addr} {L : Addr} {M : List (Addr × Obj)} {B₀ h₀ B : Heap} {m : Str → Option Value} {p d : Addr} {it : Array Value} {ep : Nat} {hs : Int} {t : Nat} {z v1 v2 : Value} {x y : Str}
    (ok : Ok (k + 1) A) (hb : Bs w B) (a : At X L ((p, accOb d it ep) :: (d, dicZ hs t z) :: M) B₀ h₀ m B h) (hz : it.size ≤ sizeLine) (r1 : Rd B v1 (.str x)) (r2 : Rd B v2 (.str y))
    (q : ∀ B' h' tk' u ep', At X L ((p, accOb d (it.push u) ep') :: (d, dicZ hs t z) :: M) B₀ h₀ m B' h' → Ext B B' → Rd B' u (.tuple [.str x, .str y]) → Q .none (St s h' tk')) : wpAny (model Pr w) A (call (.ref 45) [.ref p, v1, v2]) Q E (St s h tk) := by
  refine call_defX (T := [(p, accOb d it ep), (d, dicZ hs t z)]) (fd := fdPush w) ok hb a (isPush w) (by kernel_rfl) (by unfold fdPush; rfl) (BindsTo.of_eq (binds := [(Str.ofString "self", .ref p), (Str.ofString "fws", v1), (Str.ofString "string", v2)]) (by kernel_rfl)) (by kernel_rfl) (by kernel_rfl) fun L' h₁ E' a1 => ?_
  have ok' := ok.deeper (callEnv (fdPush w) L' 45)
  generalize hA : A.deeper (callEnv (fdPush w) L' 45) = A' at ok'
  have hp : (fun x => List.lookup x [(Str.ofString "self", Value.ref p), (Str.ofString "fws", v1), (Str.ofString "string", v2)].reverse) (Str.ofString "self") = some (.ref p) := by rfl
  have hf : (fun x => List.lookup x [(Str.ofString "self", Value.ref p), (Str.ofString "fws", v1), (Str.ofString "string", v2)].reverse) (Str.ofString "fws") = some v1 := by rfl
  have hg : (fun x => List.lookup x [(Str.ofString "self", Value.ref p), (Str.ofString "fws", v1), (Str.ofString "string", v2)].reverse) (Str.ofString "string") = some v2 := by rfl
  generalize hm : (fun x => List.lookup x [(Str.ofString "self", Value.ref p), (Str.ofString "fws", v1), (Str.ofString "string", v2)].reverse) = m1 at a1 hp hf hg
  refine x_seq (x_expr (wp_method rfl (by kernel_rfl) (by kernel_rfl) (ev_local a1 hp (gm_append hb a1 fun h2 a2 => ?_))))
  refine callWith_method1 ((pes_cons Fm.mono (pe_tuple (pes_cons Fm.mono (pe_local hf r1) (pes_cons Fm.mono (pe_local hg r2) pes_nil))) pes_nil).run A' _ _ _ ok' a2.bh a2.fm fun vs B3 h3 t3 s3 r3 => ?_) (by kernel_rfl) (by kernel_rfl)
  obtain ⟨u, vs', rfl, ru, r3⟩ := r3.cons_inv
  rw [r3.nil_inv]
  refine acc_append (hb.ext s3.bb) (a2.step s3) hz fun h4 ep' a4 => x_nil ?_
  exact q B3 h4 _ u ep' (At.back (T := [(p, accOb d it ep), (d, dicZ hs t z)]) (T' := [(p, accOb d (it.push u) ep'), (d, dicZ hs t z)]) a a4 rfl) s3.bb ru
end Mine
end
section
open PySem PySem.W PyProof.Rows PySem.Calls
set_option Elab.async false
set_option maxRecDepth 100000
set_option linter.unusedVariables false
set_option linter.unusedSimpArgs false
namespace Mine
noncomputable def supOb (p : Addr) : Obj := { cls := .type "super", data := .fields #[.ref 101, .ref p, .ref 101] }
noncomputable def mwOb (id : String) (p : Addr) : Obj := { cls := .type "method-wrapper", data := .fields #[.builtin id, .ref p] }

/-- a builtin's name, loaded -/
theorem ldn_bi {w : World} {k : Nat} {J : Heap → Prop} {B : Heap} {env : Env} {x : Str} {v : Value} (hb : Bs w B) (e : nsIn (Kf w) 3 x = some none) (hv : bootBuiltins x = some v) (hg : env.globals = 3 := by kernel_rfl) (hbi : env.builtins = builtinsNs := by kernel_rfl) (hk : env.scope.kind = .function := by kernel_rfl) (hx : env.kindOf x = some .globalImplicit := by kernel_rfl)
    (hn : (x == ("__name__" : Str)) = false := by kernel_rfl) : PT w k J B (loadName env x) fun _ r => r = v := fun A s Q E ok eb j q => by
  unfold loadName
  simp only [Env.blockKind, hk, hx, ScopeKind.isAnnotationScope, Bool.false_and, Bool.false_eq_true, if_false]
  unfold loadGlobal
  rw [hg, hbi]
  obtain ⟨mb, hm, hmb⟩ := hb.b
  refine wpAny_bind (looks_nsIn (hb.k.keeps eb) e A _ E s (Ext.refl _) ?_)
  refine wpAny_bind (wpAny_nsGet (hm.keeps eb) ?_)
  rw [hmb x (by intro e; rw [e] at hn; exact absurd hn (by decide +kernel)), hv]
  exact wpAny_pure (q v B s.heap s.toks (.refl eb) rfl)

section
variable {w : World} {X : List Addr} {L : Addr} {M : List (Addr × Obj)} {B₀ h₀ B h : Heap} {m : Str → Option Value} {A : Around} {s : Shared} {tk : Nat} {E : Value → Shared → Prop}
theorem mk_super {p d : Addr} {it : Array Value} {ep : Nat} {Q : Value → Shared → Prop} (hb : Bs w B) (a : At X L ((p, accOb d it ep) :: M) B₀ h₀ m B h)
    (q : ∀ so h', At X L ((so, supOb p) :: (p, accOb d it ep) :: M) B₀ h₀ m B h' → Q (.ref so) (St s h' tk)) : wpAny (model Pr w) A (call (.type "super") [.ref 101, .ref p]) Q E (St s h tk) :=
  run_at (T := [(p, accOb d it ep)]) (v := .ok (.ref h.objs.size)) (os := [accOb d it ep]) (news := [supOb p]) (tk' := tk) 6 [.k, .n 0, .n 0, .n 0, .k, .t 0, .t 0, .k, .n 0, .n 0, .n 0, .n 0, .n 0, .n 0] hb a (by kernel_rfl) fun h' a' => q h.objs.size h' a'
theorem gm_superLen {p d so : Addr} {it : Array Value} {ep : Nat} {pl : Sem Bool} {Q : Value × List Value → Shared → Prop} (hp : 156 ≤ p) (hb : Bs w B) (a : At X L ((so, supOb p) :: (p, accOb d it ep) :: M) B₀ h₀ m B h)
    (q : ∀ mw h' tk', At X L ((mw, mwOb "list.__len__" p) :: (so, supOb p) :: (p, accOb d it ep) :: M) B₀ h₀ m B h' → Q (.ref mw, []) (St s h' tk')) : wpAny (model Pr w) A (getMethod (.ref so) (Str.ofString "__len__") pl) Q E (St s h tk) := by
  obtain ⟨r, rfl⟩ : ∃ r, p = r + 156 := ⟨p - 156, (Nat.sub_add_cancel hp).symm⟩
  exact run_at (T := [(so, supOb (r + 156)), (r + 156, accOb d it ep)]) (v := .ok (.ref h.objs.size, [])) (os := [supOb (r + 156), accOb d it ep]) (news := [mwOb "list.__len__" (r + 156)]) (tk' := tk + 1) 6 [.t 0, .t 0, .t 0, .t 0, .t 0, .t 0, .k, .k, .t 1, .k] hb a (by kernel_rfl) fun h' a' => q h.objs.size h' _ a'
theorem cw_superLen {p d mw : Addr} {it : Array Value} {ep : Nat} {pos : Pos} {Q : Value → Shared → Prop} (hb : Bs w B) (a : At X L ((mw, mwOb "list.__len__" p) :: (p, accOb d it ep) :: M) B₀ h₀ m B h)
    (q : ∀ h' tk', At X L ((p, accOb d it ep) :: M) B₀ h₀ m B h' → Q (.int it.size tk) (St s h' tk')) : wpAny (model Pr w) A (callWith pos (.ref mw) [] [] []) Q E (St s h tk) :=
  run_at (T := [(mw, mwOb "list.__len__" p), (p, accOb d it ep)]) (v := .ok (.int it.size tk)) (os := [mwOb "list.__len__" p, accOb d it ep]) (news := []) (tk' := tk + 1) 6 [.t 0, .t 0, .t 1] hb a (by kernel_rfl) fun h' a' => q h' _ (a'.drop (List.Sublist.cons _ (List.Sublist.refl _)))
end
end Mine
end
section
open PySem PySem.W PyProof.Rows PySem.Calls
set_option Elab.async false
set_option maxRecDepth 100000
set_option linter.unusedVariables false
set_option linter.unusedSimpArgs false
namespace Mine
theorem wpAt_cast {w : World} {A : Around} {c : Code} {α : Type} {t : Sem α} {Q : α → Shared → Prop} {E : Value → Shared → Prop} {s : Shared} (h : wpAny (model Pr w) A t Q E s) : PySem.wpAt (model Pr w) A c t Q E s := PySem.wpAt_of_wpAny h

section
variable {w : World} {X : List Addr} {L : Addr} {T M : List (Addr × Obj)} {B₀ h₀ B h : Heap} {m : Str → Option Value}
/-- a call of a def that asks for super: the frame's code is kept in sight -/
theorem call_defS {k : Nat} {A : Around} {s : Shared} {tk : Nat} {f : Addr} {fd : FuncData} {body : List Stmt} {vs : List Value} {binds : List (Str × Value)} {Q E : Value → Shared → Prop} (ok : Ok (k + 1) A) (hb : Bs w B) (a : At X L (T ++ M) B₀ h₀ m B h) (ho : ∃ c d s, (Kf w).lookup f = some ⟨c, d, .func fd, s⟩) (hc : codeIn (Kf w) fd.code fd.qualname = true) (hbody : fd.body = .stmts body)
    (hbind : BindsTo (St s h tk) fd ⟨vs, []⟩ binds) (hcell : (fd.scope.names.all fun x => decide (x.2 ≠ .cell)) = true) (hloc : ((binds.map (·.1)).all fun x => decide (fd.scope.names.lookup x = some .local)) = true)
    (hw : ∀ L' h₁ E', At (T.map (·.1)) L' T B h (fun x => binds.reverse.lookup x) B h₁ → PySem.wpAt (model Pr w) (A.deeper (callEnv fd L' f)) (.func body (callEnv fd L' f)) (execs body (callEnv fd L' f)) (fun fl s' => Q (match fl with | .ret v => v | _ => .none) s') E' (St s h₁ (tk + binds.length)))
    (hco : fd.scope.isCoroutine = false := by kernel_rfl) (hgen : fd.scope.isGenerator = false := by kernel_rfl) (hk : fd.scope.kind = .function := by kernel_rfl) : wpAny (model Pr w) A (call (.ref f) vs) Q E (St s h tk) := by
  obtain ⟨oc, od, osl, ho⟩ := ho
  refine wpAny_call (ks_codeAny_call_defAt (s := St s h tk) (fd := fd) (body := body) (binds := binds) ok.room (a.bh _ _ (hb.k _ _ ho)) rfl (hb.lim.keeps a.bh) (codeRec_of (hb.k.keeps a.bh) hc) hbody hbind (fun x hx => of_decide_eq_true (List.all_eq_true.mp hcell x hx)) (fun x hx => of_decide_eq_true (List.all_eq_true.mp hloc x.1 (List.mem_map_of_mem hx))) (fun h₁ hns hk₁ => ?_) hco hgen hk)
  exact ks_wpAt_mono (hw h.objs.size h₁ _ (a.enter rfl hns hk₁)) (fun fl s' q => q) fun _ _ q => q

/-- super(), asked for an attribute, in a method of the acc -/
theorem ev_super {k : Nat} {env : Env} {A : Around} {s : Shared} {tk : Nat} {E : Value → Shared → Prop} {body : List Stmt} {p0 p1 : Pos} {attr : Str} {whole : Sem Value} {f cc : Addr} {fd : FuncData} {p d : Addr} {it : Array Value} {ep : Nat} {Q : Value → Shared → Prop}
    (ok : Ok k A) (hb : Bs w B) (a : At X env.locals ((p, accOb d it ep) :: M) B₀ h₀ m B h)
    (ho : ∃ c d s, (Kf w).lookup f = some ⟨c, d, .func fd, s⟩) (hcf : ∃ vs tf c d s, (Kf w).lookup cc = some ⟨c, d, .fields vs, s⟩ ∧ vs[2]? = some (.str Pr.main.file tf)) (har : ∃ an ps, (fd.params.posonlyargs ++ fd.params.args).head? = some ⟨Str.ofString "self", an, ps⟩) (hm : m (Str.ofString "self") = some (.ref p))
    (q : ∀ so B' h' tk', At X env.locals ((so, supOb p) :: (p, accOb d it ep) :: M) B₀ h₀ m B' h' → Ext B B' → Q (.ref so) (St s h' tk'))
    (hcl : ∀ n tk, theRun w [] n 3 (loadName env "__class__") [.k] tk = some (.ok (.ref 101), [], [], ⟨[], [], tk⟩))
    (hat : (attr == ("__class__" : Str)) = false := by kernel_rfl) (hks : env.kindOf "super" = some .globalImplicit := by kernel_rfl) (hkc : env.kindOf "__class__" = some .free := by kernel_rfl) (hfu : env.func = some f := by kernel_rfl) (hco : env.code = .ref cc := by kernel_rfl)
    (hg : env.globals = 3 := by kernel_rfl) (hbi : env.builtins = builtinsNs := by kernel_rfl) (hk : env.scope.kind = .function := by kernel_rfl) (hl : env.kindOf (Str.ofString "self") = some .local := by kernel_rfl) :
    PySem.wpAt (model Pr w) A (.func body env) (attributeBase (.Call (.Name "super" p0) [] [] p1) attr env whole) Q E (St s h tk) := by
  obtain ⟨oc, od, osl, ho⟩ := ho
  obtain ⟨vs, tf, cc1, cd, csl, hcc, hvs⟩ := hcf
  obtain ⟨an, ps, hp⟩ := har
  refine ks_wpAt_super_base (s := St s h tk) hks hkc hat hfu (a.bh _ _ (hb.k _ _ ho)) rfl hp hco (a.bh _ _ (hb.k _ _ hcc)) rfl hvs (by kernel_rfl) (by kernel_rfl) ?_
  refine ldn_bi (J := Fm env m ((p, accOb d it ep) :: M)) (v := .type "super") hb (by kernel_rfl) (by kernel_rfl) hg hbi hk hks (by kernel_rfl) A (St s h tk) _ E ok a.bh a.fm fun r B1 h1 t1 s1 e1 => ⟨e1, ?_⟩
  have a1 := a.step s1
  refine run_look (s := s) (tk := t1) (T := []) 3 [.k] (hb.ext s1.bb) a1 (hcl _ _) fun h2 a2 => ?_
  refine wpAny_loadName_local hk hl a2.ns hm ?_
  refine run_look (s := s) (tk := t1) (tk' := t1) (T := []) (v := true) 3 [.k] (hb.ext s1.bb) a2 (by kernel_rfl) fun h3 a3 => ⟨rfl, ?_⟩
  exact mk_super (hb.ext s1.bb) a3 fun so h4 a4 => q so B1 h4 t1 a4 s1.bb
end

theorem cdPart (w : World) : ∃ vs tf c d s, (Kf w).lookup 97 = some ⟨c, d, .fields vs, s⟩ ∧ vs[2]? = some (.str Pr.main.file tf) := ⟨_, _, _, _, _, rfl, rfl⟩
theorem arPart (w : World) : ∃ an ps, ((fdPart w).params.posonlyargs ++ (fdPart w).params.args).head? = some ⟨Str.ofString "self", an, ps⟩ := ⟨_, _, by unfold fdPart; rfl⟩

set_option maxHeartbeats 1000000 in
theorem part_ok {w : World} {k : Nat} {A : Around} {s : Shared} {h : Heap} {tk : Nat} {E Q : Value → Shared → Prop} {X : List Addr} {L : Addr} {M : List (Addr × Obj)} {B₀ h₀ B : Heap} {m : Str → Option Value} {p d : Addr} {it : Array Value} {ep : Nat}
    (ok : Ok (k + 1) A) (hb : Bs w B) (hp : 156 ≤ p) (a : At X L ((p, accOb d it ep) :: M) B₀ h₀ m B h)
    (q : ∀ B' h' tk' t, At X L ((p, accOb d it ep) :: M) B₀ h₀ m B' h' → Ext B B' → Q (.int it.size t) (St s h' tk')) : wpAny (model Pr w) A (call (.ref 98) [.ref p]) Q E (St s h tk) := by
  refine call_defS (T := [(p, accOb d it ep)]) (fd := fdPart w) ok hb a (isPart w) (by kernel_rfl) (by unfold fdPart; rfl) (BindsTo.of_eq (binds := [(Str.ofString "self", .ref p)]) (by kernel_rfl)) (by kernel_rfl) (by kernel_rfl) fun L' h₁ E' a1 => ?_
  have ok' := ok.deeper (callEnv (fdPart w) L' 98)
  generalize hA : A.deeper (callEnv (fdPart w) L' 98) = A' at ok'
  have hs : (fun x => List.lookup x [(Str.ofString "self", Value.ref p)].reverse) (Str.ofString "self") = some (.ref p) := by rfl
  generalize hm : (fun x => List.lookup x [(Str.ofString "self", Value.ref p)].reverse) = m1 at a1 hs
  refine ks_wpAt_execs_cons (ks_wpAt_Return_some (ks_wpAt_MethodCall (ev_super ok' hb a1 (isPart w) (cdPart w) (arPart w) hs (fun so B2 h2 t2 a2 e2 => ?_) (fun _ _ => by kernel_rfl))))
  refine gm_superLen hp (hb.ext e2) a2 fun mw h3 t3 a3 => ?_
  refine cw_superLen (hb.ext e2) (a3.drop (List.Sublist.cons_cons _ (List.Sublist.cons _ (List.Sublist.refl _)))) fun h4 t4 a4 => ?_
  exact q B2 h4 _ _ (At.back (T := [(p, accOb d it ep)]) (T' := [(p, accOb d it ep)]) (M' := []) a a4 rfl) e2
end Mine
end
section
open PySem PySem.W PyProof.Rows PySem.Calls
set_option Elab.async false
set_option maxRecDepth 100000
set_option linter.unusedVariables false
set_option linter.unusedSimpArgs false
namespace Mine
noncomputable def bmOb (id : String) (p : Addr) : Obj := { cls := .type "builtin_function_or_method", data := .fields #[.builtin id, .ref p] }

section
variable {w : World} {X : List Addr} {L : Addr} {M : List (Addr × Obj)} {B₀ h₀ B h : Heap} {m : Str → Option Value} {A : Around} {s : Shared} {tk : Nat} {E : Value → Shared → Prop}
theorem gm_superPop {p d so : Addr} {it : Array Value} {ep : Nat} {pl : Sem Bool} {Q : Value × List Value → Shared → Prop} (hp : 156 ≤ p) (hb : Bs w B) (a : At X L ((so, supOb p) :: (p, accOb d it ep) :: M) B₀ h₀ m B h)
    (q : ∀ mw h' tk', At X L ((mw, bmOb "list.pop" p) :: (so, supOb p) :: (p, accOb d it ep) :: M) B₀ h₀ m B h' → Q (.ref mw, []) (St s h' tk')) : wpAny (model Pr w) A (getMethod (.ref so) (Str.ofString "pop") pl) Q E (St s h tk) := by
  obtain ⟨r, rfl⟩ : ∃ r, p = r + 156 := ⟨p - 156, (Nat.sub_add_cancel hp).symm⟩
  exact run_at (T := [(so, supOb (r + 156)), (r + 156, accOb d it ep)]) (v := .ok (.ref h.objs.size, [])) (os := [supOb (r + 156), accOb d it ep]) (news := [bmOb "list.pop" (r + 156)]) (tk' := tk + 1) 6 [.t 0, .t 0, .t 0, .t 0, .t 0, .t 0, .k, .k, .t 1, .k] hb a (by kernel_rfl) fun h' a' => q h.objs.size h' _ a'
theorem cw_bound0 {bm p : Addr} {id : String} {pos : Pos} {Q : Value → Shared → Prop} (a : At X L ((bm, bmOb id p) :: M) B₀ h₀ m B h) (q : wpAny (model Pr w) A (call (.ref bm) []) Q E (St s h tk)) : wpAny (model Pr w) A (callWith pos (.ref bm) [] [] []) Q E (St s h tk) := by
  unfold callWith
  refine wpAny_bind (wpAny_holding (PySem.evalArgs_none (wpAny_bind (wpAny_standAt ?_))))
  refine wpAny_bind (m := keeperOf (.ref bm)) ?_
  unfold keeperOf
  refine wpAny_bind (wpAny_load (s := St s h tk) (a.own (bm, bmOb id p) (.head _)) ?_)
  show wpAny _ _ (pure Keeper.machine) _ _ _
  refine wpAny_pure ?_
  exact wpAny_bind (wpAny_mono q (fun r s₂ hr => wpAny_bind (wpAny_holding (wpAny_point (wpAny_pure hr)))) fun _ _ x => x)
end
end Mine
end
section
open PySem PySem.W PyProof.Rows PySem.Calls
set_option Elab.async false
set_option maxRecDepth 100000
set_option linter.unusedVariables false
set_option linter.unusedSimpArgs false
namespace Mine
section
variable {w : World} {X : List Addr} {L : Addr} {M : List (Addr × Obj)} {B₀ h₀ B h : Heap} {m : Str → Option Value} {A : Around} {s : Shared} {tk : Nat} {E : Value → Shared → Prop}
theorem pop_at (it : Array Value) (u : Value) : (seqIndex? (-1) (it.push u).size).bind (fun k => (it.push u)[k]?.map (k, ·)) = some (it.size, u) := by
  have : seqIndex? (-1) (it.push u).size = some it.size := by
    unfold seqIndex?
    simp only [Array.size_push]
    have e : (if (-1 : Int) < 0 then (-1 : Int) + ((it.size + 1 : Nat) : Int) else -1) = (it.size : Int) := by rw [if_pos (by decide)]; omega
    rw [e, if_pos (by simp; omega)]
    rfl
  rw [this]
  simp
theorem pop_rest (it : Array Value) (u : Value) : (it.push u).eraseIdxIfInBounds it.size = it := by
  unfold Array.eraseIdxIfInBounds
  rw [dif_pos (by simp)]
  apply Array.ext'
  rw [Array.toList_eraseIdx]
  rw [Array.toList_push, List.eraseIdx_append_of_length_le (by simp)]
  simp
theorem pop_body {c : Value} {d : Option Addr} {p : Addr} {it : Array Value} {u : Value} {ep : Nat} {Q : Fin → Shared → Prop} (a2 : At X L ((p, ⟨c, d, .seq (it.push u) ep, #[]⟩) :: M) B₀ h₀ m B h) (hz : it.size < sizeLine)
    (q : ∀ h' ep', At X L ((p, ⟨c, d, .seq it ep', #[]⟩) :: M) B₀ h₀ m B h' → Q (.done (.ret u)) (St s h' tk)) : wpAny (model Pr w) A (Builtin.«list.pop» ⟨[.ref p], []⟩) Q E (St s h tk) := by
  have ho : h.get? p = some ⟨c, d, .seq (it.push u) ep, #[]⟩ := a2.own (p, _) (.head _)
  show wpAny _ _ (Builtin.List.listItems (.ref p) >>= fun xs => if xs.isEmpty then _ else (match (seqIndex? (-1) xs.size).bind fun k => xs[k]?.map (k, ·) with | some (k, x) => Builtin.List.listUpdate (.ref p) (·.eraseIdxIfInBounds k) >>= fun _ => ret x | none => _)) _ _ _
  refine wpAny_bind (wpAny_listItems (s := St s h tk) ho rfl ?_)
  rw [if_neg (by simp)]
  rw [pop_at]
  show wpAny _ _ (updateSeq p (·.eraseIdxIfInBounds it.size) >>= fun _ => ret u) _ _ _
  refine wpAny_bind (upd_seq a2 (by simp; omega) (by rw [pop_rest]; omega) fun h3 ep' a3 => wpAny_pure ?_)
  rw [pop_rest] at a3
  exact q h3 ep' a3
/-- acc's own list.pop -/
theorem acc_pop {bm p d : Addr} {it : Array Value} {u : Value} {ep : Nat} {Q : Value → Shared → Prop} (hb : Bs w B) (a : At X L ((bm, bmOb "list.pop" p) :: (p, accOb d (it.push u) ep) :: M) B₀ h₀ m B h) (hz : it.size < sizeLine)
    (q : ∀ h' ep', At X L ((p, accOb d it ep') :: M) B₀ h₀ m B h' → Q u (St s h' tk)) : wpAny (model Pr w) A (call (.ref bm) []) Q E (St s h tk) := by
  refine wpAny_call (codeAny_of_tree ?_)
  show wpAny _ _ (callAny (.ref bm) ⟨[], []⟩) _ _ _
  refine run_look (T := [(bm, bmOb "list.pop" p), (p, accOb d (it.push u) ep)]) (tk' := tk) (v := .again (.builtin "list.pop" ⟨[.ref p], []⟩)) 6 [.t 0, .t 1, .k, .t 1, .t 1, .k, .k] hb a (by kernel_rfl) fun h1 a1 => ⟨by kernel_rfl, codeAny_builtin (b := Builtin.«list.pop») (entryFor_of_tree (by kernel_rfl)) ?_⟩
  exact pop_body (a1.drop (List.Sublist.cons _ (List.Sublist.refl _))) hz fun h' ep' a' => q h' ep' a'
end

theorem cdPop (w : World) : ∃ vs tf c d s, (Kf w).lookup 60 = some ⟨c, d, .fields vs, s⟩ ∧ vs[2]? = some (.str Pr.main.file tf) := ⟨_, _, _, _, _, rfl, rfl⟩
theorem arPop (w : World) : ∃ an ps, ((fdPop w).params.posonlyargs ++ (fdPop w).params.args).head? = some ⟨Str.ofString "self", an, ps⟩ := ⟨_, _, by unfold fdPop; rfl⟩
end Mine
end
section
open PySem PySem.W PyProof.Rows PySem.Calls
set_option Elab.async false
set_option maxRecDepth 100000
set_option linter.unusedVariables false
set_option linter.unusedSimpArgs false
namespace Mine
theorem push_of {it : Array Value} (h : it.size ≠ 0) : ∃ (it' : Array Value) (u : Value), it = it'.push u := by
  obtain ⟨l⟩ := it
  have hl : l ≠ [] := fun e => h (by rw [e]; rfl)
  refine ⟨l.dropLast.toArray, l.getLast hl, Array.ext' ?_⟩
  simpa using (List.dropLast_concat_getLast hl).symm

set_option maxHeartbeats 1000000 in
theorem pop_ok {w : World} {k : Nat} {A : Around} {s : Shared} {h : Heap} {tk : Nat} {E Q : Value → Shared → Prop} {X : List Addr} {L : Addr} {M : List (Addr × Obj)} {B₀ h₀ B : Heap} {m : Str → Option Value} {p d : Addr} {it : Array Value} {ep : Nat} {hs : Int} {t : Nat} {z : Value}
    (ok : Ok (k + 2) A) (hb : Bs w B) (hp : 156 ≤ p) (a : At X L ((p, accOb d it ep) :: (d, dicZ hs t z) :: M) B₀ h₀ m B h) (hz : it.size < sizeLine)
    (q0 : it.size = 0 → ∀ B' h' tk' v, At X L ((p, accOb d it ep) :: (d, dicZ hs t z) :: M) B₀ h₀ m B' h' → Ext B B' → Rd B' v (.tuple [.str (Str.ofString ""), .str (Str.ofString "")]) → Q v (St s h' tk'))
    (q1 : ∀ (it' : Array Value) (u : Value), it = it'.push u → ∀ B' h' tk' ep', At X L ((p, accOb d it' ep') :: (d, dicZ hs t z) :: M) B₀ h₀ m B' h' → Ext B B' → Q u (St s h' tk')) : wpAny (model Pr w) A (call (.ref 61) [.ref p]) Q E (St s h tk) := by
  refine call_defS (T := [(p, accOb d it ep), (d, dicZ hs t z)]) (fd := fdPop w) ok hb a (isPop w) (by kernel_rfl) (by unfold fdPop; rfl) (BindsTo.of_eq (binds := [(Str.ofString "self", .ref p)]) (by kernel_rfl)) (by kernel_rfl) (by kernel_rfl) fun L' h₁ E' a1 => ?_
  have ok' : Ok (k + 1) _ := ok.deeper (callEnv (fdPop w) L' 61)
  generalize hA : A.deeper (callEnv (fdPop w) L' 61) = A' at ok'
  have hs1 : (fun x => List.lookup x [(Str.ofString "self", Value.ref p)].reverse) (Str.ofString "self") = some (.ref p) := by rfl
  generalize hm : (fun x => List.lookup x [(Str.ofString "self", Value.ref p)].reverse) = m1 at a1 hs1
  refine ks_wpAt_execs_cons (ks_wpAt_If (PySem.wpAt_of_wpAny (wpAny_isTrue_Compare1 (wp_method rfl (by kernel_rfl) (by kernel_rfl) (ev_local a1 hs1 (gm_part hb a1 fun h2 a2 => ?_))))))
  obtain ⟨oc, od, osl, ho⟩ := isPart w
  refine callWith_meth0 (o := ⟨oc, od, .func (fdPart w), osl⟩) rfl (a2.bh _ _ (hb.k _ _ ho)) (part_ok ok' hb hp a2 fun B3 h3 t3 tt a3 e3 => ?_)
  refine (pe_int (k := k + 1) (J := Fm (callEnv (fdPop w) L' 61) m1 ((p, accOb d it ep) :: [(d, dicZ hs t z)]))).run A' (St s h3 t3) _ _ ok' a3.bh a3.fm fun v4 B4 h4 t4 s4 r4 => ?_
  have a4 := a3.step s4
  refine cop_eqi _ _ (k + 1) (Fm (callEnv (fdPop w) L' 61) m1 ((p, accOb d it ep) :: [(d, dicZ hs t z)])) B4 _ _ (.int ..) r4 A' (St s h4 t4) _ _ ok' a4.bh a4.fm fun v5 B5 h5 t5 s5 r5 => ?_
  have a5 := a4.step s5
  have e35 : Ext B B5 := e3.trans (s4.bb.trans s5.bb)
  subst r5
  refine wpAny_truthy_bool ?_
  cases hc : ((it.size : Int) == 0) with
  | true =>
    refine PySem.wpAt_of_wpAny (xw (x_seq (x_ret ok' a5 (pe_tuple (pes_cons Fm.mono pe_str (pes_cons Fm.mono pe_str pes_nil))) fun v6 B6 h6 t6 a6 e6 r6 => ?_)))
    exact q0 (by simpa using hc) B6 h6 t6 v6 (At.back (T := [(p, accOb d it ep), (d, dicZ hs t z)]) (T' := [(p, accOb d it ep), (d, dicZ hs t z)]) (M' := []) a a6 rfl) (e35.trans e6) r6
  | false =>
    refine PySem.wpAt_of_wpAny (xw (x_nil ?_))
    have hb5 := hb.ext e35
    refine ks_wpAt_execs_cons (ks_wpAt_Return_some (ks_wpAt_MethodCall (ev_super (s := s) (h := h5) (tk := t5) ok' hb5 a5 (isPop w) (cdPop w) (arPop w) hs1 (fun so B6 h6 t6 a6 e6 => ?_) (fun _ _ => by kernel_rfl))))
    have hne : it.size ≠ 0 := by simpa using hc
    obtain ⟨it', u, rfl⟩ := push_of hne
    refine gm_superPop hp (hb5.ext e6) a6 fun bm h7 t7 a7 => ?_
    have a7' := a7.drop (List.Sublist.cons_cons _ (List.Sublist.cons _ (List.Sublist.refl _)))
    refine cw_bound0 a7' (acc_pop (hb5.ext e6) a7' (by simp at hz; omega) fun h8 ep8 a8 => ?_)
    exact q1 it' u rfl B6 h8 t7 ep8 (At.back (T := [(p, accOb d (it'.push u) ep), (d, dicZ hs t z)]) (T' := [(p, accOb d it' ep8), (d, dicZ hs t z)]) (M' := []) a a8 rfl) (e35.trans e6)
end Mine
end
section
open PySem PySem.W PyProof.Rows PySem.Calls
set_option Elab.async false
set_option maxRecDepth 100000
set_option linter.unusedVariables false
set_option linter.unusedSimpArgs false
namespace Mine
noncomputable def sliOb (vl vu : Value) : Obj := { cls := .type "slice", data := .fields #[vl, vu, .none] }
section
variable {w : World} {A : Around} {s : Shared} {E : Value → Shared → Prop}
theorem body_getslice {p sl : Addr} {c : Value} {d : Option Addr} {it : Array Value} {ep : Nat} {vl vu : Value} {lo hi : Option Int} {Q : Fin → Shared → Prop} (ho : s.heap.get? p = some ⟨c, d, .seq it ep, #[]⟩) (hos : s.heap.get? sl = some (sliOb vl vu)) (pl : IsPart vl lo) (pu : IsPart vu hi) (hz : it.size ≤ sizeLine)
    (q : Q (.done (.ret (.ref s.heap.objs.size))) { s with heap := s.heap.push { cls := .type "list", data := .seq (slicePick it lo hi none) } }) : wpAny (model Pr w) A (Builtin.«list.__getitem__» ⟨[.ref p, .ref sl], []⟩) Q E s := by
  have hTs : s.TypeIs (.ref sl) "slice" := ⟨_, hos, rfl⟩
  show wpAny _ _ (Builtin.List.listSubscript? (.ref sl) >>= _) _ _ s
  refine wpAny_bind ?_
  unfold Builtin.List.listSubscript?
  refine wpAny_bind (wpAny_specialOf hTs slice_no_index ?_)
  simp only [Option.isNone_none, if_true]
  refine wpAny_pure ?_
  show wpAny _ _ (typeOf (.ref sl) >>= _) _ _ s
  refine wpAny_bind (wpAny_typeOf hTs ?_)
  rw [if_neg (by decide)]
  rw [listSliceParts_eq]
  refine wpAny_bind (wpAny_bind (wpAny_field hos rfl (x := .none) rfl (wpAny_bind (wpAny_listPart .none ?_))))
  rw [if_neg (by decide)]
  refine wpAny_bind (wpAny_field hos rfl (x := vl) rfl (wpAny_bind (wpAny_listPart pl ?_)))
  refine wpAny_bind (wpAny_field hos rfl (x := vu) rfl (wpAny_bind (wpAny_listPart pu (wpAny_pure ?_))))
  refine wpAny_bind (wpAny_listItems ho rfl ?_)
  refine wpAny_bind (wpAny_of_eq (sliceIndices_raw lo hi none it.size (by simp)) ?_)
  exact wpAny_bind (wpAny_newObj_type (wpAny_pure q) (Nat.le_trans (slicePick_size_le it lo hi none) hz))
end

noncomputable def sliceOut (it : Array Value) (lo hi : Option Int) : Array Value := it.extract 0 (sliceBounds lo hi none it.size).1.toNat ++ #[] ++ it.extract (max (sliceBounds lo hi none it.size).1 (sliceBounds lo hi none it.size).2.1).toNat it.size
theorem sliceOut_size (it : Array Value) (lo hi : Option Int) : (sliceOut it lo hi).size ≤ it.size := by
  have h1 : 0 ≤ (sliceBounds lo hi none it.size).1 := by
    cases lo with
    | none => simp [sliceBounds]
    | some i => simp only [sliceBounds]; simp; omega
  unfold sliceOut
  simp only [Array.size_append, Array.size_extract, Array.size_empty]
  omega
section
variable {w : World} {X : List Addr} {L : Addr} {M : List (Addr × Obj)} {B₀ h₀ B h : Heap} {m : Str → Option Value} {A : Around} {s : Shared} {tk : Nat} {E : Value → Shared → Prop}
/-- p[lo:hi] = [] -/
theorem body_setslice {p sl e : Addr} {c : Value} {d : Option Addr} {it : Array Value} {ep : Nat} {vl vu : Value} {lo hi : Option Int} {oe : Obj} {ne : Nat} {Q : Fin → Shared → Prop} (a : At X L ((p, ⟨c, d, .seq it ep, #[]⟩) :: M) B₀ h₀ m B h) (hos : h.get? sl = some (sliOb vl vu)) (he : h.get? e = some oe) (hec : oe.cls = .type "list") (hed : oe.data = .seq #[] ne) (hpe : p ≠ e) (pl : IsPart vl lo) (pu : IsPart vu hi) (hz : it.size ≤ sizeLine)
    (q : ∀ h' ep', At X L ((p, ⟨c, d, .seq (sliceOut it lo hi) ep', #[]⟩) :: M) B₀ h₀ m B h' → Q (.done (.ret .none)) (St s h' tk)) : wpAny (model Pr w) A (Builtin.«list.__setitem__» ⟨[.ref p, .ref sl, .ref e], []⟩) Q E (St s h tk) := by
  have ho : h.get? p = some ⟨c, d, .seq it ep, #[]⟩ := a.own (p, _) (.head _)
  have hTs : (St s h tk).TypeIs (.ref sl) "slice" := ⟨_, hos, rfl⟩
  have hTe : (St s h tk).TypeIs (.ref e) "list" := ⟨_, he, hec⟩
  show wpAny _ _ (Builtin.List.listSubscript? (.ref sl) >>= _) _ _ _
  refine wpAny_bind ?_
  unfold Builtin.List.listSubscript?
  refine wpAny_bind (wpAny_specialOf hTs slice_no_index ?_)
  simp only [Option.isNone_none, if_true]
  refine wpAny_pure ?_
  show wpAny _ _ (typeOf (.ref sl) >>= _) _ _ _
  refine wpAny_bind (wpAny_typeOf hTs ?_)
  rw [if_neg (by decide)]
  rw [listSliceParts_eq]
  refine wpAny_bind (wpAny_bind (wpAny_field (s := St s h tk) hos rfl (x := .none) rfl (wpAny_bind (wpAny_listPart .none ?_))))
  rw [if_neg (by decide)]
  refine wpAny_bind (wpAny_field (s := St s h tk) hos rfl (x := vl) rfl (wpAny_bind (wpAny_listPart pl ?_)))
  refine wpAny_bind (wpAny_field (s := St s h tk) hos rfl (x := vu) rfl (wpAny_bind (wpAny_listPart pu (wpAny_pure ?_))))
  have hsame : Builtin.List.listSameRef (.ref p) (.ref e) = false := by simp [Builtin.List.listSameRef, hpe]
  simp only [hsame, Bool.false_eq_true, if_false]
  refine wpAny_bind ?_
  unfold Builtin.List.listAllItems
  refine wpAny_bind (wpAny_typeOf hTe ?_)
  rw [if_pos (by decide)]
  refine wpAny_listItems (s := St s h tk) he hed ?_
  refine wpAny_bind (wpAny_listItems (s := St s h tk) ho rfl ?_)
  refine wpAny_bind (wpAny_of_eq (sliceIndices_raw lo hi none it.size (by simp)) ?_)
  show wpAny _ _ (rule "list.__setitem__.slice" >>= fun _ => if Builtin.List.listTooLong (it.size + (#[] : Array Value).size) = true then _ else (updateSeq p (fun xs => xs.extract 0 (sliceBounds lo hi none it.size).1.toNat ++ #[] ++ xs.extract (max (sliceBounds lo hi none it.size).1 (sliceBounds lo hi none it.size).2.1).toNat xs.size) >>= fun _ => _)) _ _ _
  refine wpAny_bind (wpAny_rule ?_)
  rw [if_neg (by simp [Builtin.List.listTooLong]; omega)]
  refine wpAny_bind (upd_seq a hz (Nat.le_succ_of_le (Nat.le_trans (sliceOut_size it lo hi) hz)) fun h' ep' a' => wpAny_bind (wpAny_letGo (wpAny_pure (q h' ep' a'))))
end
end Mine
end
section
open PySem PySem.W PyProof.Rows PySem.Calls
set_option Elab.async false
set_option maxRecDepth 100000
set_option linter.unusedVariables false
set_option linter.unusedSimpArgs false
namespace Mine
section
variable {w : World} {X : List Addr} {L : Addr} {M : List (Addr × Obj)} {B₀ h₀ B h : Heap} {m : Str → Option Value} {A : Around} {s : Shared} {tk : Nat} {E : Value → Shared → Prop}
/-- a special method of the acc, called: it is list's own -/
theorem sp_acc {p d : Addr} {it : Array Value} {ep : Nat} {name : Str} {id : String} {args : List Value} {b : Builtin} {Q : Option Value → Shared → Prop} (hb : Bs w B) (a : At X L ((p, accOb d it ep) :: M) B₀ h₀ m B h) (hp : plainId id = true) (he : entriesT.find (code id) = some b)
    (e1 : theRun w [(p, accOb d it ep)] h.objs.size 3 (specialOf (.ref p) name) [.t 0, .k, .k, .k] tk = some (.ok (some (.builtin id)), [(p, p)], [], ⟨[accOb d it ep], [], tk⟩))
    (e2 : bindSpecial (.builtin id) (.ref p) = pure (.builtin id, [.ref p]))
    (e3 : ∀ n, theRun w [(p, accOb d it ep)] n 3 (checkBuiltinCall id ⟨.ref p :: args, []⟩) [.t 0, .k] tk = some (.ok (), [(p, p)], [], ⟨[accOb d it ep], [], tk⟩))
    (q : ∀ h', At X L ((p, accOb d it ep) :: M) B₀ h₀ m B h' → wpAny (model Pr w) A.in1 (b ⟨.ref p :: args, []⟩) (fun fin s' => match fin with
      | .done f => (match f with | .ret v => Q (some v) s' | _ => False)
      | .again c' => c'.quiet = true ∧ codeAny (model Pr w) A c' (fun r s' => match r with | .ok (.ret v) => Q (some v) s' | .ok _ => False | .error e => E e s') s') (fun e s' => E e s') (St s h' tk)) : wpAny (model Pr w) A (callSpecial? (.ref p) name args) Q E (St s h tk) := by
  unfold callSpecial?
  refine wpAny_bind (run_look (T := [(p, accOb d it ep)]) 3 [.t 0, .k, .k, .k] hb a e1 fun h1 a1 => ?_)
  refine wpAny_holding (wpAny_bind (wpAny_of_eq e2 ?_))
  refine wpAny_bind (call_bi (T := [(p, accOb d it ep)]) 3 [.t 0, .k] hb a1 hp he (e3 _) fun h2 a2 => ?_)
  refine wpAny_mono (q h2 a2) (fun fin s' q => ?_) fun _ _ q => q
  cases fin with
  | done f => cases f with
    | ret v => exact wpAny_pure q
    | _ => exact q
  | again c' =>
    refine ⟨q.1, codeAny_mono q.2 fun r s'' qq => ?_⟩
    cases r with
    | ok f => cases f with
      | ret v => exact wpAny_pure qq
      | _ => exact qq
    | error e => exact qq
theorem gi_acc {p d sl : Addr} {it : Array Value} {ep : Nat} {vl vu : Value} {lo hi : Option Int} {Q : Value → Shared → Prop} (hb : Bs w B) (a : At X L ((p, accOb d it ep) :: M) B₀ h₀ m B h) (hm : (sl, sliOb vl vu) ∈ M) (pl : IsPart vl lo) (pu : IsPart vu hi) (hz : it.size ≤ sizeLine)
    (q : ∀ h', At X L ((p, accOb d it ep) :: M) B₀ h₀ m B h' → Q (.ref h'.objs.size) (St s (h'.push { cls := .type "list", data := .seq (slicePick it lo hi none) }) tk)) : wpAny (model Pr w) A (getItem (.ref p) (.ref sl)) Q E (St s h tk) := by
  unfold getItem
  refine wpAny_holding (wpAny_bind (run_look (T := [(p, accOb d it ep)]) (v := .ref sl) (tk' := tk) 3 [.t 0, .k] hb a (by kernel_rfl) fun h1 a1 => ?_))
  refine wpAny_bind (sp_acc (id := "list.__getitem__") (b := Builtin.«list.__getitem__») hb a1 (by kernel_rfl) (by kernel_rfl) (by kernel_rfl) (by kernel_rfl) (fun _ => by kernel_rfl) fun h2 a2 => ?_)
  exact body_getslice (s := St s h2 tk) (a2.own (p, _) (.head _)) (a2.own (sl, _) (.tail _ hm)) pl pu hz (wpAny_pure (q h2 a2))
theorem si_acc {p d sl e : Addr} {it : Array Value} {ep : Nat} {vl vu : Value} {lo hi : Option Int} {oe : Obj} {ne : Nat} {Q : Unit → Shared → Prop} (hb : Bs w B) (a : At X L ((p, accOb d it ep) :: M) B₀ h₀ m B h) (hm : (sl, sliOb vl vu) ∈ M) (he : B.get? e = some oe) (hec : oe.cls = .type "list") (hed : oe.data = .seq #[] ne) (pl : IsPart vl lo) (pu : IsPart vu hi) (hz : it.size ≤ sizeLine)
    (q : ∀ h' ep', At X L ((p, accOb d (sliceOut it lo hi) ep') :: M) B₀ h₀ m B h' → Q () (St s h' tk)) : wpAny (model Pr w) A (setItem (.ref p) (.ref sl) (.ref e)) Q E (St s h tk) := by
  have hpe : p ≠ e := fun x => by
    have := (a.offM (p, _) (.head _)).1
    rw [show (p, accOb d it ep).1 = e from x, he] at this
    cases this
  unfold setItem
  refine wpAny_holding (wpAny_bind (run_look (T := [(p, accOb d it ep)]) (v := .ref sl) (tk' := tk) 3 [.t 0, .k] hb a (by kernel_rfl) fun h1 a1 => ?_))
  refine wpAny_bind (sp_acc (id := "list.__setitem__") (b := Builtin.«list.__setitem__») hb a1 (by kernel_rfl) (by kernel_rfl) (by kernel_rfl) (by kernel_rfl) (fun _ => by kernel_rfl) fun h2 a2 => ?_)
  exact body_setslice (c := .ref 101) (d := some d) a2 (a2.own (sl, _) (.tail _ hm)) (a2.bh _ _ he) hec hed hpe pl pu hz fun h3 ep3 a3 => wpAny_pure (q h3 ep3 a3)
end
end Mine
end
section
open PySem PySem.W PyProof.Rows PySem.Calls
set_option Elab.async false
set_option maxRecDepth 100000
set_option linter.unusedVariables false
set_option linter.unusedSimpArgs false
namespace Mine
theorem sliceOut_from (it : Array Value) (n : Nat) : sliceOut it (some (n : Int)) none = (it.toList.take n).toArray := by
  unfold sliceOut
  simp only [sliceBounds_plain, Option.elim, clipAt_nat]
  have h2 : (max ((min n it.size : Nat) : Int) (it.size : Int)).toNat = it.size := by omega
  rw [h2, Int.toNat_natCast]
  apply Array.ext'
  simp [List.take_eq_take_iff]
theorem sliceOut_upto (it : Array Value) (n : Nat) : sliceOut it none (some (n : Int)) = (it.toList.drop n).toArray := by
  unfold sliceOut
  simp only [sliceBounds_plain, Option.elim, clipAt_nat]
  have h2 : (max ((0 : Nat) : Int) ((min n it.size : Nat) : Int)).toNat = min n it.size := by omega
  rw [h2]
  apply Array.ext'
  obtain ⟨l⟩ := it
  simp
  rcases Nat.le_total n l.length with c | c
  · rw [Nat.min_eq_left c, List.take_of_length_le (by simp)]
  · rw [Nat.min_eq_right c, List.drop_of_length_le c, List.drop_of_length_le (Nat.le_refl _), List.take_nil]
theorem At.perm {X : List Addr} {L : Addr} {M M' : List (Addr × Obj)} {B₀ h₀ B h : Heap} {m : Str → Option Value} (a : At X L M B₀ h₀ m B h) (e : M'.Perm M) : At X L M' B₀ h₀ m B h :=
  ⟨a.ns, fun p hp => a.own p (e.subset hp), a.offL, a.newL, fun p hp => a.offM p (e.subset hp), (e.map _).nodup_iff.mpr a.nd, a.bh, a.bb, a.kp, a.sz, a.fresh⟩
theorem At.swap {X : List Addr} {L : Addr} {x y : Addr × Obj} {M : List (Addr × Obj)} {B₀ h₀ B h : Heap} {m : Str → Option Value} (a : At X L (x :: y :: M) B₀ h₀ m B h) : At X L (y :: x :: M) B₀ h₀ m B h := a.perm (List.Perm.swap ..)
section
variable {w : World} {k : Nat} {env : Env} {A : Around} {s : Shared} {h : Heap} {t : Nat} {E : Value → Shared → Prop} {Q : Flow → Shared → Prop} {X : List Addr} {M : List (Addr × Obj)} {B₀ h₀ B : Heap} {m : Str → Option Value}
/-- x = e, where e may change things -/
theorem x_assignR {x : Str} {px pos : Pos} {e : Expr} (p : wpAny (model Pr w) A (eval e env) (fun v s₁ => ∃ M' B' h' tk', s₁ = St s h' tk' ∧ At X env.locals M' B₀ h₀ m B' h' ∧ (∀ h'' , At X env.locals M' B₀ h₀ (upd m x v) B' h'' → ∀ tk'', Q .next (St s h'' tk''))) E (St s h t))
    (hl : env.kindOf x = some .local := by kernel_rfl) (hk : env.scope.kind = .function := by kernel_rfl) (hs : swapsWith e (some (.Name x px)) pos.line env = pure false := by kernel_rfl) : Wx w A (exec (.Assign [.Name x px] e pos) env) Q E (St s h t) :=
  wx (wpAny_Assign_Name (wpAny_mono p (fun v s₁ q => by
    obtain ⟨M', B', h', tk', rfl, a', next⟩ := q
    exact wpAny_storeName_local hl a'.ns (fun h'' hn hs' => next h'' (a'.store hn hs') _) (by rw [hk]; rfl)) fun _ _ e => e) hs)
/-- acc[lo:] -/
theorem ev_accFrom {x : Str} {px sp pos : Pos} {lo : Expr} {p d : Addr} {it : Array Value} {ep n : Nat} {Q : Value → Shared → Prop} (ok : Ok k A) (hb : Bs w B) (a : At X env.locals ((p, accOb d it ep) :: M) B₀ h₀ m B h) (hm : m x = some (.ref p)) (pl : PE w k (Fm env m ((p, accOb d it ep) :: M)) env B lo (.int n)) (hz : it.size ≤ sizeLine)
    (q : ∀ B' h' tk' l, At X env.locals ((p, accOb d it ep) :: M) B₀ h₀ m B' h' → Ext B B' → B'.get? l = some { cls := .type "list", data := .seq (slicePick it (some (n : Int)) none none) } → Q (.ref l) (St s h' tk'))
    (hl : env.kindOf x = some .local := by kernel_rfl) (hk : env.scope.kind = .function := by kernel_rfl) (hd : (x == ("__debug__" : Str)) = false := by kernel_rfl)
    (ht : ∀ o r, letTemporaryGo (.Name x px) o r = pure () := by intro _ _; rfl) : wpAny (model Pr w) A (eval (.Subscript (.Name x px) (.Slice (some lo) none none sp) pos) env) Q E (St s h t) := by
  rw [eval_Subscript]
  refine wpAny_bind (ev_local a hm (wpAny_bind (wpAny_holding ?_)) hl hk hd)
  refine wpAny_Slice (wpAny_evalPart_some (pl.run A (St s h t) _ E ok a.bh a.fm fun v B1 h1 t1 s1 r1 => wpAny_evalPart_none (by
    rw [evalPart_none]
    refine wpAny_pure (wpAny_bind (wpAny_standAt ?_))
    obtain ⟨tt, rfl⟩ := r1.int_inv
    have a1 := (a.step s1).new (sliOb (.int n tt) .none)
    have hb1 := hb.ext s1.bb
    generalize hsl : h1.objs.size = sl at a1
    have a2 := At.swap a1
    refine wpAny_bind (run_look (s := s) (tk := t1) (tk' := t1) (T := [(p, accOb d it ep)]) (v := false) 3 [.t 0, .k, .k, .k] hb1 a2 (by kernel_rfl) fun h2 a3 => ?_)
    refine wpAny_bind (wpAny_operating (gi_acc hb1 a3 (.head _) part_int .none hz fun h3 a4 => wpAny_bind (wpAny_of_eq (ht _ _) (wpAny_pure ?_))))
    obtain ⟨B5, s5, g5⟩ := step_push { cls := .type "list", data := .seq (slicePick it (some (n : Int)) none none) } a4.bh rfl
    exact q B5 _ t1 _ ((a4.step s5).drop (List.Sublist.cons_cons _ (List.Sublist.cons _ (List.Sublist.refl _)))) (s1.bb.trans s5.bb) g5)))
/-- acc[lo:] = [] -/
theorem x_accCut {v0 : Expr} {x : Str} {px sp ps pos : Pos} {lo : Expr} {p d : Addr} {it : Array Value} {ep n : Nat} (ok : Ok k A) (hb : Bs w B) (a : At X env.locals ((p, accOb d it ep) :: M) B₀ h₀ m B h) (hm : m x = some (.ref p)) (pl : PE w k (Fm env m ((p, accOb d it ep) :: M)) env B lo (.int n)) (hz : it.size ≤ sizeLine)
    (q : ∀ B' h' tk' ep', At X env.locals ((p, accOb d (it.toList.take n).toArray ep') :: M) B₀ h₀ m B' h' → Ext B B' → Q .next (St s h' tk'))
    (pe : PE w k (Fm env m ((p, accOb d it ep) :: M)) env B v0 (.list []))
    (hl : env.kindOf x = some .local := by kernel_rfl) (hk : env.scope.kind = .function := by kernel_rfl) (hd : (x == ("__debug__" : Str)) = false := by kernel_rfl)
    (hs : swapsWith v0 (some (.Subscript (.Name x px) (.Slice (some lo) none none sp) ps)) pos.line env = pure false := by kernel_rfl) : Wx w A (exec (.Assign [.Subscript (.Name x px) (.Slice (some lo) none none sp) ps] v0 pos) env) Q E (St s h t) := by
  refine wx (wpAny_Assign_Subscript (pe.run A (St s h t) _ E ok a.bh a.fm fun ve B1 h1 t1 s1 r1 => ?_) hs)
  have a1 := a.step s1
  refine ev_local (s := s) (t := t1) a1 hm ?_ hl hk hd
  refine wpAny_Slice (wpAny_evalPart_some ((pl.ext s1.bb).run A (St s h1 t1) _ E ok a1.bh a1.fm fun v B2 h2 t2 s2 r2 => wpAny_evalPart_none (by
    rw [evalPart_none]
    refine wpAny_pure ?_
    obtain ⟨tt, rfl⟩ := r2.int_inv
    obtain ⟨le, vs, rfl, hle, ra⟩ := (r1.ext s2.bb).list_inv
    have hv : vs = [] := ra.nil_inv
    subst hv
    obtain ⟨oe, he, hec, ne, hed⟩ := hle
    have a2 := (a1.step s2).new (sliOb (.int n tt) .none)
    generalize hsl : h2.objs.size = sl at a2
    have hb2 := hb.ext (s1.bb.trans s2.bb)
    refine si_acc (s := s) (tk := t2) hb2 a2.swap (.head _) he hec hed part_int .none hz fun h3 ep3 a3 => ?_
    rw [sliceOut_from] at a3
    exact q B2 h3 _ ep3 (a3.drop (List.Sublist.cons_cons _ (List.Sublist.cons _ (List.Sublist.refl _)))) (s1.bb.trans s2.bb))))
end

/-- a tree of one look -/
noncomputable def peel {α : Type} : Sem α → Obj → Option (Addr × α)
  | .load a _ k, o => match k o with
    | .pure x => some (a, x)
    | _ => none
  | _, _ => none
theorem binds_peel {w : World} {s : Shared} {fd : FuncData} {args : Args} {binds : List (Str × Value)} {T : Addr} (hk : (Kf w).In s.heap) (e : ((Kf w).lookup T).bind (fun o => peel (bindArgs fd args) o) = some (T, binds)) : BindsTo s fd args binds := by
  intro M A E Q hq
  cases eo : (Kf w).lookup T with
  | none => rw [eo] at e; cases e
  | some o =>
    rw [eo] at e
    simp only [Option.bind_some] at e
    generalize ht : bindArgs fd args = t at e
    cases t with
    | load a part k =>
      simp only [peel] at e
      split at e
      · rename_i x hx
        simp only [Option.some.injEq, Prod.mk.injEq] at e
        obtain ⟨rfl, rfl⟩ := e
        exact fun Γ p hΓ => ⟨o, hk _ _ eo, by rw [hx]; exact hq⟩
      · cases e
    | _ => simp only [peel] at e; cases e
set_option maxHeartbeats 1000000 in
theorem popFrom_ok {w : World} {k : Nat} {A : Around} {s : Shared} {h : Heap} {tk : Nat} {E Q : Value → Shared → Prop} {X : List Addr} {L : Addr} {M : List (Addr × Obj)} {B₀ h₀ B : Heap} {m : Str → Option Value} {p d : Addr} {it : Array Value} {ep n : Nat} {v : Value} {ds : List PyData}
    (ok : Ok (k + 1) A) (hb : Bs w B) (a : At X L ((p, accOb d it ep) :: M) B₀ h₀ m B h) (hz : it.size ≤ sizeLine) (rv : Rd B v (.int n)) (rd : RdAll B it.toList ds)
    (q : ∀ B' h' tk' u ep', At X L ((p, accOb d (it.toList.take n).toArray ep') :: M) B₀ h₀ m B' h' → Ext B B' → Rd B' u (.list (ds.drop n)) → Q u (St s h' tk')) : wpAny (model Pr w) A (call (.ref 53) [.ref p, v]) Q E (St s h tk) := by
  refine call_defX (T := [(p, accOb d it ep)]) (fd := fdPopFrom w) ok hb a (isPopFrom w) (by kernel_rfl) (by unfold fdPopFrom; rfl) (binds_peel (w := w) (T := 46) (binds := [(Str.ofString "self", .ref p), (Str.ofString "i", v)]) (hb.k.keeps a.bh) (by kernel_rfl)) (by kernel_rfl) (by kernel_rfl) fun L' h₁ E' a1 => ?_
  have ok' := ok.deeper (callEnv (fdPopFrom w) L' 53)
  generalize hA : A.deeper (callEnv (fdPopFrom w) L' 53) = A' at ok'
  have hs : (fun x => List.lookup x [(Str.ofString "self", Value.ref p), (Str.ofString "i", v)].reverse) (Str.ofString "self") = some (.ref p) := by rfl
  have hi : (fun x => List.lookup x [(Str.ofString "self", Value.ref p), (Str.ofString "i", v)].reverse) (Str.ofString "i") = some v := by rfl
  generalize hm : (fun x => List.lookup x [(Str.ofString "self", Value.ref p), (Str.ofString "i", v)].reverse) = m1 at a1 hs hi
  refine x_seq (x_assignR (ev_accFrom ok' hb a1 hs (pe_local hi rv) hz fun B2 h2 t2 l a2 e2 g2 => ⟨_, B2, h2, t2, rfl, a2, fun h3 a3 t3 => ?_⟩))
  refine x_seq (x_accCut ok' (hb.ext e2) a3 (upd_ne hs) (pe_local (upd_ne hi) (rv.ext e2)) hz (fun B4 h4 t4 ep4 a4 e4 => ?_) (pe_list pes_nil))
  have rl : Rd B4 (.ref l) (.list (ds.drop n)) := by
    refine Rd.list (vs := it.toList.drop n) ⟨_, e4 _ _ g2, rfl, 0, by rw [slicePick_from']⟩ ((rd.drop n).ext (e2.trans e4))
  refine x_seq (x_ret ok' a4 (pe_local upd_self rl) fun v5 B5 h5 t5 a5 e5 r5 => ?_)
  exact q B5 h5 t5 v5 ep4 (At.back (T := [(p, accOb d it ep)]) (T' := [(p, accOb d (it.toList.take n).toArray ep4)]) (M' := []) a a5 rfl) ((e2.trans e4).trans e5) r5
end Mine
end
section
open PySem PySem.W PyProof.Rows PySem.Calls
set_option Elab.async false
set_option maxRecDepth 100000
set_option linter.unusedVariables false
set_option linter.unusedSimpArgs false
namespace Mine
/-- what a stopped run goes on with -/
noncomputable def stopK {α : Type} : Ran (Out α) → Result → Sem α
  | some (.stop _ _ k, _) => k
  | _ => fun _ => .unsupported ""

section
variable {w : World} {X : List Addr} {L : Addr} {T M : List (Addr × Obj)} {B₀ h₀ B h : Heap} {m : Str → Option Value}
/-- a tree run up to a call -/
theorem run_stop {α : Type} {t : Sem α} {A : Around} {s : Shared} {Q : α → Shared → Prop} {E : Value → Shared → Prop} (f : Nat) (acts : List Act) {tk : Nat} {c : Code} {os news : List Obj} {tk' : Nat} (hb : Bs w B) (a : At X L (T ++ M) B₀ h₀ m B h)
    (er : theRun w T h.objs.size f t (acts ++ [.p]) tk = some (.stop c none (stopK (theRun w T h.objs.size f t (acts ++ [.p]) tk)), twins (T.map (·.1)) h.objs.size acts, [], ⟨os, news, tk'⟩))
    (q : ∀ h', At X L (newsAt h.objs.size 0 news ++ ((T.map (·.1)).zip os ++ M)) B₀ h₀ m B h' → codeAny (model Pr w) (A.mark none) c (fun r s' => wpAny (model Pr w) A (stopK (theRun w T h.objs.size f t (acts ++ [.p]) tk) r) Q E s') (St s h' tk')) :
    wpAny (model Pr w) A t Q E (St s h tk) := by
  have ht : ∀ l : List Act, twins (T.map (·.1)) h.objs.size (l ++ [.p]) = twins (T.map (·.1)) h.objs.size l := fun l => by
    induction l with
    | nil => rfl
    | cons x l ih => cases x <;> simp [twins, ih]
  exact run_at f (acts ++ [.p]) hb a (by rw [ht]; exact er) q
theorem code_defS {k : Nat} {A : Around} {s : Shared} {tk : Nat} {f : Addr} {fd : FuncData} {body : List Stmt} {vs : List Value} {binds : List (Str × Value)} {R : Result → Shared → Prop} (ok : Ok (k + 1) A) (hb : Bs w B) (a : At X L (T ++ M) B₀ h₀ m B h) (ho : ∃ c d s, (Kf w).lookup f = some ⟨c, d, .func fd, s⟩) (hc : codeIn (Kf w) fd.code fd.qualname = true) (hbody : fd.body = .stmts body)
    (hbind : BindsTo (St s h tk) fd ⟨vs, []⟩ binds) (hcell : (fd.scope.names.all fun x => decide (x.2 ≠ .cell)) = true) (hloc : ((binds.map (·.1)).all fun x => decide (fd.scope.names.lookup x = some .local)) = true)
    (hw : ∀ L' h₁ E', At (T.map (·.1)) L' T B h (fun x => binds.reverse.lookup x) B h₁ → PySem.wpAt (model Pr w) (A.deeper (callEnv fd L' f)) (.func body (callEnv fd L' f)) (execs body (callEnv fd L' f)) (fun fl s' => R (.ok (.ret (match fl with | .ret v => v | _ => .none))) s') E' (St s h₁ (tk + binds.length)))
    (hco : fd.scope.isCoroutine = false := by kernel_rfl) (hgen : fd.scope.isGenerator = false := by kernel_rfl) (hk : fd.scope.kind = .function := by kernel_rfl) : codeAny (model Pr w) A (.call (.ref f) ⟨vs, []⟩) R (St s h tk) := by
  obtain ⟨oc, od, osl, ho⟩ := ho
  refine ks_codeAny_call_defAt (s := St s h tk) (fd := fd) (body := body) (binds := binds) ok.room (a.bh _ _ (hb.k _ _ ho)) rfl (hb.lim.keeps a.bh) (codeRec_of (hb.k.keeps a.bh) hc) hbody hbind (fun x hx => of_decide_eq_true (List.all_eq_true.mp hcell x hx)) (fun x hx => of_decide_eq_true (List.all_eq_true.mp hloc x.1 (List.mem_map_of_mem hx))) (fun h₁ hns hk₁ => ?_) hco hgen hk
  exact ks_wpAt_mono (hw h.objs.size h₁ _ (a.enter rfl hns hk₁)) (fun fl s' q => q) fun _ _ q => q
end
theorem ok_make {k : Nat} {A : Around} {vs : List Value} (ok : Ok (k + 1) A) : Ok k ((A.under (.builtin "type.__call__" ⟨.ref 101 :: vs, []⟩)).mark none) := by
  have hw : (Code.builtin "type.__call__" ⟨.ref 101 :: vs, []⟩).weight = 1 := by kernel_rfl
  have hu : (Code.builtin "type.__call__" ⟨.ref 101 :: vs, []⟩).cUnits = 1 := by kernel_rfl
  refine ⟨ok.handled, ?_, ?_⟩
  · have := ok.depth
    show A.depth + (Code.builtin "type.__call__" ⟨.ref 101 :: vs, []⟩).weight + k < _
    rw [hw]; omega
  · have := ok.units
    show A.units + (Code.builtin "type.__call__" ⟨.ref 101 :: vs, []⟩).cUnits + 10 * k + 200 < _
    rw [hu]; omega

section
variable {w : World} {X : List Addr} {L : Addr} {M : List (Addr × Obj)} {B₀ h₀ B h : Heap} {m : Str → Option Value} {A : Around} {s : Shared} {tk : Nat} {E : Value → Shared → Prop}
/-- list.__new__ for the acc's class -/
theorem acc_new0 {v : Value} {R : Result → Shared → Prop} (hb : Bs w B) (a : At X L M B₀ h₀ m B h)
    (q : ∀ p d h' , At X L ((p, accOb d #[] 0) :: (d, dicOb #[] 0) :: M) B₀ h₀ m B h' → R (.ok (.ret (.ref p))) (St s h' tk)) : codeAny (model Pr w) A (.call (.builtin "list.__new__") ⟨[.ref 101, v], []⟩) R (St s h tk) := by
  refine codeAny_of_tree ?_
  show wpAny _ _ (callAny (.builtin "list.__new__") ⟨[.ref 101, v], []⟩) _ _ _
  refine run_look (T := []) (tk' := tk) (v := .again (.builtin "list.__new__" ⟨[.ref 101, v], []⟩)) 6 [.k, .k, .k, .k, .k, .k, .k] hb a (by kernel_rfl) fun h1 a1 => ⟨by kernel_rfl, ?_⟩
  refine codeAny_builtin_stack (b := Builtin.«list.__new__») (entryFor_of_tree (by kernel_rfl)) rfl fun pp st => ?_
  have hown := owner_list_new
  simp only [hown]
  refine run_at (T := []) (v := .ok (.done (.ret (.ref (h1.objs.size + 1))))) (os := []) (news := [dicOb #[] 0, accOb h1.objs.size #[] 0]) (tk' := tk) 6 [.k, .k, .k] hb a1 (by kernel_rfl) fun h2 a2 => ?_
  exact q _ _ h2 a2.swap
end
end Mine
end
section
open PySem PySem.W PyProof.Rows PySem.Calls
set_option Elab.async false
set_option maxRecDepth 100000
set_option linter.unusedVariables false
set_option linter.unusedSimpArgs false
namespace Mine
noncomputable def hsI (w : World) : Int := reduceHash (w.params.strHash (Str.ofString "_initial_size").cps)
section
variable {w : World} {X : List Addr} {L : Addr} {M : List (Addr × Obj)} {B₀ h₀ B h : Heap} {m : Str → Option Value} {A : Around} {s : Shared} {tk : Nat} {E : Value → Shared → Prop}
theorem set_size {p d : Addr} {v : Value} {Q : Unit → Shared → Prop} (hb : Bs w B) (a : At X L ((p, accOb d #[] 0) :: (d, dicOb #[] 0) :: M) B₀ h₀ m B h)
    (q : ∀ h' tk', At X L ((p, accOb d #[] 0) :: (d, dicZ (hsI w) (tk + 1) v) :: M) B₀ h₀ m B h' → Q () (St s h' tk')) : wpAny (model Pr w) A (setAttr (.ref p) (Str.ofString "_initial_size") v) Q E (St s h tk) :=
  run_at (T := [(p, accOb d #[] 0), (d, dicOb #[] 0)]) (v := .ok ()) (os := [accOb d #[] 0, dicZ (hsI w) (tk + 1) v]) (news := []) (tk' := tk + 2) 6 [.t 0, .k, .k, .k, .t 0, .k, .t 0, .k, .t 0, .k, .k, .k, .t 0, .k, .t 1, .t 1, .t 1] hb a (by kernel_rfl) fun h' a' => q h' _ a'
theorem gm_superInit {p d so : Addr} {it : Array Value} {ep : Nat} {pl : Sem Bool} {Q : Value × List Value → Shared → Prop} (hp : 156 ≤ p) (hb : Bs w B) (a : At X L ((so, supOb p) :: (p, accOb d it ep) :: M) B₀ h₀ m B h)
    (q : ∀ mw h' tk', At X L ((mw, mwOb "list.__init__" p) :: (so, supOb p) :: (p, accOb d it ep) :: M) B₀ h₀ m B h' → Q (.ref mw, []) (St s h' tk')) : wpAny (model Pr w) A (getMethod (.ref so) (Str.ofString "__init__") pl) Q E (St s h tk) := by
  obtain ⟨r, rfl⟩ : ∃ r, p = r + 156 := ⟨p - 156, (Nat.sub_add_cancel hp).symm⟩
  exact run_at (T := [(so, supOb (r + 156)), (r + 156, accOb d it ep)]) (v := .ok (.ref h.objs.size, [])) (os := [supOb (r + 156), accOb d it ep]) (news := [mwOb "list.__init__" (r + 156)]) (tk' := tk + 1) 6 [.t 0, .t 0, .t 0, .t 0, .t 0, .t 0, .k, .k, .t 1, .k] hb a (by kernel_rfl) fun h' a' => q h.objs.size h' _ a'
theorem cw_superInit {p d mw : Addr} {pos : Pos} {Q : Value → Shared → Prop} (hb : Bs w B) (a : At X L ((mw, mwOb "list.__init__" p) :: (p, accOb d #[] 0) :: M) B₀ h₀ m B h)
    (q : ∀ h' tk', At X L ((p, accOb d #[] 0) :: M) B₀ h₀ m B h' → Q .none (St s h' tk')) : wpAny (model Pr w) A (callWith pos (.ref mw) [] [] []) Q E (St s h tk) :=
  run_at (T := [(mw, mwOb "list.__init__" p), (p, accOb d #[] 0)]) (v := .ok .none) (os := [mwOb "list.__init__" p, accOb d #[] 0]) (news := []) (tk' := tk) 6 [.t 0, .t 0, .t 1, .t 1, .t 1, .t 1] hb a (by kernel_rfl) fun h' a' => q h' _ (a'.drop (List.Sublist.cons _ (List.Sublist.refl _)))
end
theorem cdInit (w : World) : ∃ vs tf c d s, (Kf w).lookup 37 = some ⟨c, d, .fields vs, s⟩ ∧ vs[2]? = some (.str Pr.main.file tf) := ⟨_, _, _, _, _, rfl, rfl⟩
theorem arInit (w : World) : ∃ an ps, ((fdInit w).params.posonlyargs ++ (fdInit w).params.args).head? = some ⟨Str.ofString "self", an, ps⟩ := ⟨_, _, by unfold fdInit; rfl⟩
end Mine
end
section
open PySem PySem.W PyProof.Rows PySem.Calls
set_option Elab.async false
set_option maxRecDepth 100000
set_option linter.unusedVariables false
set_option linter.unusedSimpArgs false
namespace Mine
set_option maxHeartbeats 1000000 in
theorem init_code {w : World} {k : Nat} {A : Around} {s : Shared} {h : Heap} {tk : Nat} {R : Result → Shared → Prop} {X : List Addr} {L : Addr} {M : List (Addr × Obj)} {B₀ h₀ B : Heap} {m : Str → Option Value} {p d : Addr} {v : Value}
    (ok : Ok (k + 1) A) (hb : Bs w B) (hp : 156 ≤ p) (a : At X L ((p, accOb d #[] 0) :: (d, dicOb #[] 0) :: M) B₀ h₀ m B h)
    (q : ∀ B' h' tk' t, At X L ((p, accOb d #[] 0) :: (d, dicZ (hsI w) t v) :: M) B₀ h₀ m B' h' → Ext B B' → R (.ok (.ret .none)) (St s h' tk')) : codeAny (model Pr w) A (.call (.ref 38) ⟨[.ref p, v], []⟩) R (St s h tk) := by
  refine code_defS (T := [(p, accOb d #[] 0), (d, dicOb #[] 0)]) (fd := fdInit w) ok hb a (isInit w) (by kernel_rfl) (by unfold fdInit; rfl) (binds_peel (w := w) (T := 30) (binds := [(Str.ofString "self", .ref p), (Str.ofString "initial_size", v)]) (hb.k.keeps a.bh) (by kernel_rfl)) (by kernel_rfl) (by kernel_rfl) fun L' h₁ E' a1 => ?_
  have ok' := ok.deeper (callEnv (fdInit w) L' 38)
  generalize hA : A.deeper (callEnv (fdInit w) L' 38) = A' at ok'
  have hs : (fun x => List.lookup x [(Str.ofString "self", Value.ref p), (Str.ofString "initial_size", v)].reverse) (Str.ofString "self") = some (.ref p) := by rfl
  have hi : (fun x => List.lookup x [(Str.ofString "self", Value.ref p), (Str.ofString "initial_size", v)].reverse) (Str.ofString "initial_size") = some v := by rfl
  generalize hm : (fun x => List.lookup x [(Str.ofString "self", Value.ref p), (Str.ofString "initial_size", v)].reverse) = m1 at a1 hs hi
  refine ks_wpAt_execs_cons (ks_wpAt_Assign_Attr (PySem.wpAt_of_wpAny (ev_local a1 hi (ev_local a1 hs (set_size hb a1 fun h2 t2 a2 => ?_)))) (by kernel_rfl))
  refine ks_wpAt_execs_cons (ks_wpAt_Expr_any (ks_wpAt_MethodCall (ev_super ok' hb a2 (isInit w) (cdInit w) (arInit w) hs (fun so B3 h3 t3 a3 e3 => ?_) (fun _ _ => by kernel_rfl))) (by kernel_rfl) (by kernel_rfl))
  refine gm_superInit hp (hb.ext e3) a3 fun mw h4 t4 a4 => ?_
  refine cw_superInit (hb.ext e3) (a4.drop (List.Sublist.cons_cons _ (List.Sublist.cons _ (List.Sublist.refl _)))) fun h5 t5 a5 => ?_
  refine PySem.wpAt_of_wpAny (wpAny_execs_nil ?_)
  exact q B3 h5 _ _ (At.back (T := [(p, accOb d #[] 0), (d, dicOb #[] 0)]) (T' := [(p, accOb d #[] 0), (d, dicZ (hsI w) _ v)]) (M' := []) a a5 rfl) e3

set_option maxHeartbeats 1000000 in
/-- _Accumulator(v) -/
theorem acc_make {w : World} {k : Nat} {A : Around} {s : Shared} {h : Heap} {tk : Nat} {E Q : Value → Shared → Prop} {X : List Addr} {L : Addr} {M : List (Addr × Obj)} {B₀ h₀ B : Heap} {m : Str → Option Value} {v : Value}
    (ok : Ok (k + 2) A) (hb : Bs w B) (hx : ∀ x ∈ X, x ∈ M.map (·.1)) (h0 : 156 ≤ h₀.objs.size) (a : At X L M B₀ h₀ m B h)
    (q : ∀ B' h' tk' p d t, 156 ≤ p → At X L ((p, accOb d #[] 0) :: (d, dicZ (hsI w) t v) :: M) B₀ h₀ m B' h' → Ext B B' → Q (.ref p) (St s h' tk')) : wpAny (model Pr w) A (call (.ref 101) [v]) Q E (St s h tk) := by
  refine wpAny_call (codeAny_of_tree ?_)
  show wpAny _ _ (callAny (.ref 101) ⟨[v], []⟩) _ _ _
  refine run_look (T := []) (tk' := tk) (v := .again (.call (.builtin "type.__call__") ⟨[.ref 101, v], []⟩)) 6 [.k, .k] hb a (by kernel_rfl) fun h1 a1 => ⟨by kernel_rfl, codeAny_of_tree ?_⟩
  show wpAny _ _ (callAny (.builtin "type.__call__") ⟨[.ref 101, v], []⟩) _ _ _
  refine run_look (T := []) (tk' := tk) (v := .again (.builtin "type.__call__" ⟨[.ref 101, v], []⟩)) 6 [.k] hb a1 (by kernel_rfl) fun h2 a2 => ⟨by kernel_rfl, codeAny_builtin (b := Builtin.«type.__call__») (entryFor_of_tree (by kernel_rfl)) ?_⟩
  have ok' : Ok (k + 1) _ := ok_make (vs := [v]) ok
  generalize hA : A.under (.builtin "type.__call__" ⟨[.ref 101, v], []⟩) = A' at ok'
  refine run_stop (T := []) (c := .call (.builtin "list.__new__") ⟨[.ref 101, v], []⟩) (os := []) (news := []) (tk' := tk) 6 [.k, .k, .k] hb a2 (by kernel_rfl) fun h3 a3 => ?_
  refine acc_new0 hb a3 fun p d h4 a4 => ?_
  have hp : 156 ≤ p := (a4.offM (p, _) (.head _)).2.2.elim (fun hm => by
    have nd := a4.nd
    simp only [List.map_cons, List.nodup_cons] at nd
    exact absurd (List.mem_cons_of_mem _ (hx p hm)) nd.1) (Nat.le_trans h0)
  refine run_stop (T := [(p, accOb d #[] 0), (d, dicOb #[] 0)]) (c := .call (.ref 38) ⟨[.ref p, v], []⟩) (os := [accOb d #[] 0, dicOb #[] 0]) (news := []) (tk' := tk) 6 [.t 0, .k, .t 0, .k, .k, .k, .k] hb a4 (by kernel_rfl) fun h5 a5 => ?_
  refine init_code ok' hb hp a5 fun B6 h6 t6 t a6 e6 => ?_
  refine run_look (s := s) (T := []) (tk := t6) (tk' := t6) (v := .done (.ret (.ref p))) 6 [] (hb.ext e6) a6 (by kernel_rfl) fun h7 a7 => ?_
  exact q B6 h7 t6 p d t hp a7 e6
end Mine
end
section
open PySem PySem.W PyProof.Rows PySem.Calls
set_option Elab.async false
set_option maxRecDepth 100000
set_option linter.unusedVariables false
set_option linter.unusedSimpArgs false
namespace Mine
noncomputable def liOb (p : Addr) (i : Nat) : Obj := { cls := .type "list_iterator", data := .fields #[.ref p, .int i 0] }
section
variable {w : World} {X : List Addr} {L : Addr} {M : List (Addr × Obj)} {B₀ h₀ B h : Heap} {m : Str → Option Value} {A : Around} {s : Shared} {tk : Nat} {E : Value → Shared → Prop}
/-- iter(acc) -/
theorem iter_acc {p d : Addr} {it : Array Value} {ep : Nat} {Q : Value → Shared → Prop} (hb : Bs w B) (a : At X L ((p, accOb d it ep) :: M) B₀ h₀ m B h)
    (q : ∀ I h', At X L ((I, liOb p 0) :: (p, accOb d it ep) :: M) B₀ h₀ m B h' → Q (.ref I) (St s h' tk)) : wpAny (model Pr w) A (pyIter (.ref p)) Q E (St s h tk) := by
  unfold pyIter
  refine wpAny_bind (run_look (T := [(p, accOb d it ep)]) (v := some (.builtin "list.__iter__")) (tk' := tk) 3 [.t 0, .k, .k, .k] hb a (by kernel_rfl) fun h1 a1 => ?_)
  show wpAny _ A (callSpecialIfBoundUnlessNone? (.ref p) "__iter__" _ >>= _) Q E _
  refine wpAny_bind ?_
  unfold callSpecialIfBoundUnlessNone? bindSpecialIfBound?
  refine wpAny_holding (wpAny_bind (wpAny_bind (run_look (T := [(p, accOb d it ep)]) (v := some (.builtin "list.__iter__")) (tk' := tk) 3 [.t 0, .k, .k, .k] hb a1 (by kernel_rfl) fun h2 a2 => ?_)))
  have e2 : bindSpecial (.builtin "list.__iter__") (.ref p) = pure (.builtin "list.__iter__", [.ref p]) := by kernel_rfl
  simp only [e2]
  have fin : wpAny (model Pr w) A (call (.builtin "list.__iter__") [.ref p]) (fun v s' => wpAny (model Pr w) A (match some v with
      | some it => (do match ← specialOf it "__next__" with
        | none => rule "iter.non-iterator"; raiseError "TypeError" s!"iter() returned non-iterator of type '{← typeNameOf it}'"
        | some _ => pure it)
      | none => (do match ← bindSpecialIfBound? (.ref p) "__getitem__" with
        | none => rule "iter.not-iterable"; raiseError "TypeError" s!"'{← typeNameOf (.ref p)}' object is not iterable"
        | some _ => rule "iter.getitem-fallback"; newFields "iterator" [.ref p, ← mkInt 0])) Q E s') E (St s h2 tk) := by
    refine run_at (T := [(p, accOb d it ep)]) (v := .ok (.ref h2.objs.size)) (os := [accOb d it ep]) (news := [liOb p 0]) (tk' := tk) 6 [.t 0, .k] hb a2 (by kernel_rfl) fun h3 a3 => ?_
    refine wpAny_bind (run_look (s := s) (tk := tk) (T := [(h2.objs.size, liOb p 0)]) (v := some (.builtin "list_iterator.__next__")) (tk' := tk) 3 [.t 0] hb a3 (by kernel_rfl) fun h4 a4 => wpAny_pure (q _ h4 a4))
  refine wpAny_bind (wpAny_askSetting (wpAny_ite ?_))
  split
  · exact wpAny_bind (wpAny_pure (wpAny_pure (wpAny_bind (wpAny_mono fin (fun v s' h' => wpAny_pure h') fun _ _ e => e))))
  · refine wpAny_tryCatch (wpAny_bind (wpAny_pure (wpAny_pure ?_)))
    exact wpAny_bind (wpAny_mono fin (fun v s' h' => wpAny_pure h') fun _ _ e => e)
end
section
variable {w : World} {A : Around} {s : Shared} {E : Value → Shared → Prop}
/-- the next of a list's iterator, whatever the class of the list -/
theorem next_item {I p : Addr} {op o : Obj} {it : Array Value} {ep i : Nat} {x : Value} {Q : Option Value → Shared → Prop} (hI : s.heap.get? I = some o) (hc : o.cls = .type "list_iterator") (hd : o.data = .fields #[.ref p, .int i 0]) (hp : s.heap.get? p = some op) (hpd : op.data = .seq it ep) (hx : it[i]? = some x)
    (q : ∀ h', (∃ o', h'.get? I = some o' ∧ o'.cls = .type "list_iterator" ∧ o'.data = .fields #[.ref p, .int (i + 1 : Nat) 0]) → Heap.SameBut I s.heap h' → Q (some x) { s with heap := h' }) : wpAny (model Pr w) A (pyNext (.ref I)) Q E s := by
  have hT : s.TypeIs (.ref I) "list_iterator" := ⟨_, hI, hc⟩
  unfold pyNext
  refine wpAny_bind (wpAny_attempt (wpAny_callSpecial?_slot (name := Str.ofString "__next__") hT slot_listiter_next (wpAny_call_entry slot_listiter_next hT entry_listiter_next ?_ (args_listiter_next _))))
  refine wpAny_bind (m := field (.ref I) 0) (wpAny_field hI hd (x := .ref p) rfl ?_)
  rw [if_neg (show ¬ ((Value.ref p == Value.none) = true) from Bool.false_ne_true)]
  refine wpAny_bind (m := field (.ref I) 1) (wpAny_field hI hd (x := .int i 0) rfl ?_)
  refine wpAny_bind (m := seqItems? (.ref p)) (wpAny_seqItems hp hpd ?_)
  simp only [Int.toNat_natCast, hx]
  refine wpAny_bind (wpAny_setField hI hd (by simp) (wpAny_pure ⟨x, rfl, wpAny_pure (q _ ⟨_, Heap.get?_update_self _ hI (Obj.isFreed_of_fields (Obj.data_mapFields hd _)), (Obj.cls_mapFields ..).trans hc, ?_⟩ (Heap.SameBut.update ..))⟩))
  rw [Obj.data_mapFields hd]
  simp [rawInt]
theorem next_end {I p : Addr} {op o : Obj} {it : Array Value} {ep : Nat} {Q : Option Value → Shared → Prop} (hh : A.handled = none) (hI : s.heap.get? I = some o) (hc : o.cls = .type "list_iterator") (hd : o.data = .fields #[.ref p, .int it.size 0]) (hp : s.heap.get? p = some op) (hpd : op.data = .seq it ep)
    (q : ∀ h', Heap.ExtBut I s.heap h' → Q none { s with heap := h' }) : wpAny (model Pr w) A (pyNext (.ref I)) Q E s := by
  have hT : s.TypeIs (.ref I) "list_iterator" := ⟨_, hI, hc⟩
  have hx : it[it.size]? = none := by simp
  unfold pyNext
  refine wpAny_bind (wpAny_attempt (wpAny_callSpecial?_slot (name := Str.ofString "__next__") hT slot_listiter_next (wpAny_call_entry slot_listiter_next hT entry_listiter_next ?_ (args_listiter_next _))))
  refine wpAny_bind (m := field (.ref I) 0) (wpAny_field hI hd (x := .ref p) rfl ?_)
  rw [if_neg (show ¬ ((Value.ref p == Value.none) = true) from Bool.false_ne_true)]
  refine wpAny_bind (m := field (.ref I) 1) (wpAny_field hI hd (x := .int it.size 0) rfl ?_)
  refine wpAny_bind (m := seqItems? (.ref p)) (wpAny_seqItems hp hpd ?_)
  simp only [Int.toNat_natCast, hx]
  refine wpAny_bind (wpAny_rule (wpAny_bind (wpAny_setField hI hd (by simp) ?_)))
  refine wpAny_bind (m := newExc (.type "StopIteration") []) ?_
  simp only [newExc, newTuple]
  refine wpAny_bind (wpAny_newObj_type ?_ (by size_fits))
  refine wpAny_bind (m := firstArgMember _ _) (wpAny_of_eq (a := Value.none) (by first | rfl | (simp only [firstArgMember]; rfl)) (wpAny_newObj_type ?_ (by size_fits)))
  simp only [raiseNew]
  refine wpAny_bind (wpAny_handled ?_)
  rw [show A.in1.handled = none from hh]
  refine wpAny_bind (wpAny_pure (wpAny_throw ?_))
  refine wpAny_bind (wpAny_isInstance (T := "StopIteration") (b := true) ⟨_, Heap.get?_push_size _ rfl, rfl⟩ isSubtype_stop (wpAny_pure ?_))
  exact q _ (((Heap.SameBut.update ..).extBut.push _).push _)
end
/-- the acc as what a comprehension goes over -/
theorem It.acc {w : World} {k : Nat} {B : Heap} {p d : Addr} {it : Array Value} {ep : Nat} {ds : List PyData} (r : RdAll B it.toList ds) : It w k (fun h => h.get? p = some (accOb d it ep)) B ds.length (listSt p) (fun i => ds.getD i .none) where
  next := fun {A s I o i Q E} ok eb hs hI ho hi q => by
    obtain ⟨v, hv, rv⟩ := r.get (i := i) (d := ds.getD i .none) (by simp [hi])
    refine next_item (p := p) (i := i) (x := v) hI ho.1 ho.2 hs rfl (by simpa using hv) fun h' hit hsb => ?_
    obtain ⟨o', ho', hc, hd⟩ := hit
    exact q v h' s.toks o' rv ho' ⟨hc, hd⟩ hsb
  done := fun {A s I o Q E} ok eb hs hI ho q => by
    have hl : it.size = ds.length := by have := r.length; simpa using this
    exact next_end ok.handled hI ho.1 (by rw [hl]; exact ho.2) hs rfl fun h' he => q h' s.toks he
  self := fun {A s I o i Q E} hI ho q => wpAny_pyIter_listiter ⟨_, hI, ho.1, ho.2⟩ q
end Mine
end
section
open PySem PySem.W PyProof.Rows PySem.Calls
set_option Elab.async false
set_option maxRecDepth 100000
set_option linter.unusedVariables false
set_option linter.unusedSimpArgs false
namespace Mine
theorem k_below (w : World) : ((Kf w).all fun x => decide (x.1 < 156)) = true := by kernel_rfl
theorem lookup_mem' {p : Addr} {o : Obj} : ∀ {l : List (Addr × Obj)}, l.lookup p = some o → (p, o) ∈ l
  | [], e => by cases e
  | (a, b) :: l, e => by
    simp only [List.lookup_cons] at e
    split at e
    · rename_i h
      cases e
      rw [beq_iff_eq.mp h]
      exact .head _
    · exact .tail _ (lookup_mem' e)
theorem k_off {w : World} {p : Addr} (hp : 156 ≤ p) : (Kf w).lookup p = none := by
  cases e : (Kf w).lookup p with
  | none => rfl
  | some o =>
    have hm : (p, o) ∈ Kf w := lookup_mem' e
    have := List.all_eq_true.mp (k_below w) _ hm
    exact absurd (of_decide_eq_true this) (Nat.not_lt.mpr hp)
/-- a run that only looks, with no frame in sight -/
theorem run_read {w : World} {T : List (Addr × Obj)} {B : Heap} {α : Type} {t : Sem α} {A : Around} {s : Shared} {Q : α → Shared → Prop} {E : Value → Shared → Prop} (f : Nat) (acts : List Act) {v : α} (hb : Bs w B) (eb : Ext B s.heap) (hT : ∀ q ∈ T, 156 ≤ q.1) (nd : (T.map (·.1)).Nodup) (own : ∀ q ∈ T, s.heap.get? q.1 = some q.2)
    (er : ∀ n tk, theRun w T n f t acts tk = some (.ok v, twins (T.map (·.1)) n acts, [], ⟨T.map (·.2), [], tk⟩))
    (q : ∀ h', Step B s.heap B h' → Q v (St s h' s.toks)) : wpAny (model Pr w) A t Q E s := by
  have T1 : Tr (Kf w) (T.map (·.1)) s.heap.objs.size s.heap := by
    refine ⟨hb.k.keeps eb, fun b hm => ?_, nd, fun b hm => ?_, rfl⟩
    · obtain ⟨p, hp, rfl⟩ := List.mem_map.mp hm
      exact k_off (hT p hp)
    · obtain ⟨p, hp, rfl⟩ := List.mem_map.mp hm
      exact Heap.lt_size (own p hp)
  have R0 : Rp (T.map (·.1)) s.heap.objs.size s.heap ⟨T.map (·.2), [], s.toks⟩ s.heap := by
    refine ⟨fun j b o hb ho => ?_, fun j o e => (nomatch e), rfl, fun b o _ e => e⟩
    simp only [List.getElem?_map, Option.map_eq_some_iff] at hb ho
    obtain ⟨p, hp, rfl⟩ := hb
    obtain ⟨q, hq, rfl⟩ := ho
    rw [hp] at hq
    cases hq
    exact own p (List.mem_of_getElem? hp)
  refine runT_sound T1 (runC_sound T1 f) t acts _ _ _ _ _ (er s.heap.objs.size s.toks) twins_eqs A s s.heap Q E R0 fun h' p' => ?_
  have hh : Ext s.heap h' := fun b o e => by
    by_cases hm : b ∈ T.map (·.1)
    · obtain ⟨x, hx, rfl⟩ := List.mem_map.mp hm
      obtain ⟨j, hj⟩ := List.getElem?_of_mem hx
      have := p'.own j x.1 x.2 (by simp [hj]) (by simp [hj])
      rw [own x hx] at e
      cases e
      exact this
    · exact p'.keep b o hm e
  exact q h' ⟨Ext.refl _, eb.trans hh, hh, by rw [p'.size]; exact Nat.le_add_right .., fun x o e => .inl e⟩

theorem one {h : Heap} {p : Addr} {o : Obj} (e : h.get? p = some o) : ∀ q ∈ [(p, o)], h.get? q.1 = some q.2 := fun q hq => by
  cases List.mem_singleton.mp hq
  exact e
section
variable {w : World} {k : Nat} {env : Env} {B : Heap}
theorem body_getint {A : Around} {s : Shared} {E : Value → Shared → Prop} {p : Addr} {o : Obj} {it : Array Value} {ep : Nat} {n : Int} {tt : Tok} {v : Value} {Q : Fin → Shared → Prop} (ho : s.heap.get? p = some o) (hd : o.data = .seq it ep) (h0 : 0 ≤ n) (hi : n < 2 ^ 63) (hv : it[n.toNat]? = some v) (q : Q (.done (.ret v)) s) : wpAny (model Pr w) A (Builtin.«list.__getitem__» ⟨[.ref p, .int n tt], []⟩) Q E s := by
  show wpAny _ _ (Builtin.List.listSubscript? (.int n tt) >>= _) _ _ s
  refine wpAny_bind (wpAny_listSubscript_int (fitsIndex_of h0 hi) ?_)
  clear hi
  obtain ⟨i, rfl⟩ := Int.eq_ofNat_of_zero_le h0
  have hx' : it[i]? = some v := hv
  show wpAny _ _ ((seqItemAt p i >>= fun r => pure (r.map (i, ·))) >>= _) _ _ s
  refine wpAny_bind (wpAny_bind (wpAny_seqItemAt ho hd (wpAny_pure ?_)))
  rw [hx']
  exact wpAny_pure q
/-- acc[i] -/
theorem pe_accItem {x : Str} {px pos : Pos} {idx : Expr} {p d : Addr} {it : Array Value} {ep : Nat} {n : Int} {M : List (Addr × Obj)} {m : Str → Option Value} {ds : List PyData} {dd : PyData} (hb : Bs w B) (hp : 156 ≤ p) (hm : m x = some (.ref p)) (pi : PE w k (Fm env m ((p, accOb d it ep) :: M)) env B idx (.int n)) (r : RdAll B it.toList ds) (h0 : 0 ≤ n) (hi : n < 2 ^ 63) (hd : ds[n.toNat]? = some dd)
    (hl : env.kindOf x = some .local := by kernel_rfl) (hk : env.scope.kind = .function := by kernel_rfl) (hdb : (x == ("__debug__" : Str)) = false := by kernel_rfl)
    (hs : ∀ o v, subscripted idx false o v = operate [o, v] (getItem o v) := by intro _ _; with_unfolding_all rfl)
    (ht : ∀ o r, letTemporaryGo (.Name x px) o r = pure () := by intro _ _; rfl) : PE w k (Fm env m ((p, accOb d it ep) :: M)) env B (.Subscript (.Name x px) idx pos) dd := by
  refine .mk fun A s Q E ok eb j q => ?_
  rw [eval_Subscript]
  refine wpAny_bind (wpAny_Name (wpAny_loadName_local hk hl j.1 hm (wpAny_bind (wpAny_holding (pi.run A s _ E ok eb j fun v B1 h1 t1 s1 r1 => wpAny_bind (wpAny_standAt ?_))))) hdb)
  obtain ⟨tt, rfl⟩ := r1.int_inv
  have own1 : h1.get? p = some (accOb d it ep) := s1.hh _ _ (j.2 (p, _) (.head _))
  have hb1 := hb.ext s1.bb
  refine wpAny_bind (run_read (s := St s h1 t1) (T := [(p, accOb d it ep)]) (v := false) 3 [.t 0, .k, .k, .k] hb1 s1.bh (by simpa using hp) (by simp) (one own1) (fun _ _ => by kernel_rfl) fun h2 s2 => ?_)
  rw [hs]
  have own2 : h2.get? p = some (accOb d it ep) := s2.hh _ _ own1
  refine wpAny_bind (wpAny_operating ?_)
  unfold getItem
  refine wpAny_holding (wpAny_bind (run_read (s := St s h2 t1) (T := [(p, accOb d it ep)]) (v := .int n tt) 3 [.t 0, .k] hb1 s2.bh (by simpa using hp) (by simp) (one own2) (fun _ _ => by kernel_rfl) fun h3 s3 => ?_))
  have own3 : h3.get? p = some (accOb d it ep) := s3.hh _ _ own2
  refine wpAny_bind ?_
  unfold callSpecial?
  refine wpAny_bind (run_read (s := St s h3 t1) (T := [(p, accOb d it ep)]) (v := some (.builtin "list.__getitem__")) 3 [.t 0, .k, .k, .k] hb1 s3.bh (by simpa using hp) (by simp) (one own3) (fun _ _ => by kernel_rfl) fun h4 s4 => ?_)
  have own4 : h4.get? p = some (accOb d it ep) := s4.hh _ _ own3
  have e2 : bindSpecial (.builtin "list.__getitem__") (.ref p) = pure (.builtin "list.__getitem__", [.ref p]) := by kernel_rfl
  refine wpAny_holding (wpAny_bind (wpAny_of_eq e2 (wpAny_bind (wpAny_call ?_))))
  refine codeAny_call_builtin (b := Builtin.«list.__getitem__») (by kernel_rfl) (entryFor_of_tree (by kernel_rfl)) (run_read (s := St s h4 t1) (T := [(p, accOb d it ep)]) (v := ()) 3 [.t 0, .k] hb1 s4.bh (by simpa using hp) (by simp) (one own4) (fun _ _ => by kernel_rfl) fun h5 s5 => ?_)
  have own5 : h5.get? p = some (accOb d it ep) := s5.hh _ _ own4
  obtain ⟨v, hv, rv⟩ := r.get hd
  exact body_getint (s := St s h5 t1) own5 rfl h0 hi (by simpa using hv) (wpAny_pure (wpAny_pure (wpAny_bind (wpAny_of_eq (ht _ _) (wpAny_pure (q v B1 h5 t1 ((((s1.trans s2).trans s3).trans s4).trans s5) (rv.ext s1.bb)))))))
end
end Mine
end
section
open PySem PySem.W PyProof.Rows
set_option Elab.async false
namespace Mine
/-- the fragment's value written out, so that no twin of it is laid (a twin would fill the compiled file) -/
inductive Ix {α : Type} (K : α) : Prop where
  | mk
noncomputable def outOf {α : Type} (K : α) (_ : Ix K) : α := K
noncomputable def Kq : Params → Frag := (fun (_ : Str.ofString "a" = ⟨#[97]⟩) => outOf _ (by have e : Ix hd.heap_1 := .mk; delta hd.heap_1 at e; exact e)) rfl
noncomputable def hdAs : List Addr := [2, 3, 15, 17, 18, 20, 21, 22, 25, 30, 31, 32, 34, 35, 37, 38, 39, 41, 42, 44, 45, 46, 47, 49, 50, 52, 53, 54,
          55, 57, 58, 60, 61, 62, 64, 65, 67, 68, 69, 71, 72, 74, 75, 76, 77, 79, 80, 82, 83, 84, 86, 87, 89, 90, 91,
          92, 94, 95, 97, 98, 99, 100, 101, 102, 103, 106, 108, 109, 111, 112, 113, 115, 116, 118, 119, 120, 123, 124,
          125, 127, 128, 130, 131, 132, 134, 135, 137, 138, 139, 141, 142, 144, 145, 146, 149, 150, 151, 154, 155]
local macro_rules | `(tactic| k_head) => `(tactic| o_head (kmHook Mine.Kq Mine.hdAs (fun _ => by kernel_rfl) [63, 70, 121]))
set_option maxRecDepth 100000 in
set_option maxHeartbeats 8000000 in
open_top hd2 for PySem.Challenge.rw_nb0078_01
end Mine
end
section
open PySem PySem.W PyProof.Rows PySem.Calls
set_option Elab.async false
set_option maxRecDepth 100000
set_option linter.unusedVariables false
set_option linter.unusedSimpArgs false
namespace Mine
section
variable {w : World} {A : Around} {I : Addr} {fp wr : List Addr} {G : Array GenState → Array GenState → Prop} {n : Nat} {P : Nat → Value → Prop} {S : Nat → Shared → Prop}
/-- a walk with a first value ahead of it -/
noncomputable def preP (P : Nat → Value → Prop) : Nat → Value → Prop
  | 0, _ => False
  | i + 1, v => P i v
noncomputable def preS (S : Nat → Shared → Prop) : Nat → Shared → Prop
  | 0, _ => False
  | i + 1, s => S i s
noncomputable def preV (z : Int) (val : Nat → Int) : Nat → Int
  | 0 => z
  | i + 1 => val i
theorem walk_ahead (W : WalksS Pr w A I fp wr G n P S) : WalksS Pr w A I fp wr G (n + 1) (preP P) (preS S) where
  sub := W.sub
  grefl := W.grefl
  gtrans := W.gtrans
  frame := fun i s h' tk st ht hk => by
    cases i with
    | zero => exact st
    | succ i => exact W.frame i s h' tk st ht hk
  item := fun i s Q E hi st q => by
    cases i with
    | zero => exact st.elim
    | succ i => exact W.item i s Q E (by omega) st q
  done := fun s Q E st q => W.done s Q E st q
  self := fun i s Q E st q => by
    cases i with
    | zero => exact st.elim
    | succ i => exact W.self i s Q E st q
theorem preSum_ahead (z : Int) (val : Nat → Int) : ∀ n, preSum (preV z val) (n + 1) = z + preSum val n
  | 0 => by simp [preSum, preV]
  | n + 1 => by
    rw [preSum, preSum_ahead z val n]
    show z + preSum val n + val n = z + (preSum val n + val n)
    omega
end
section
variable {w : World} {A : Around} {E : Value → Shared → Prop} {s : Shared}
theorem args_sum2 (a b : Value) : argsOk "sum" ⟨[a, b], []⟩ := by unfold argsOk; kernel_rfl
/-- sum(x, z) -/
theorem call_sum2 {x : Value} {z : Int} {tz : Tok} {Q : Value → Shared → Prop} 
    (h : wpAny (model Pr w) A.in1 (pyIter x) (fun it s₂ => ∃ I fp wr G n P S val, it = .ref I ∧ WalksS Pr w A.in1 I fp wr G n P S ∧ S 0 s₂ ∧ (∀ b ∈ fp, b < s₂.heap.objs.size) ∧
      (∀ i v, P i v → ∃ t, v = .int (val i) t) ∧ ∀ s' t', Moved wr G s₂ s' → Q (.int (z + preSum val n) t') s') E s) :
    wpAny (model Pr w) A (call (.builtin "sum") [x, .int z tz]) Q E s := by
  refine call_function_tree F.kind_sum F.plain_sum F.entry_sum (args_sum2 _ _) ?_
  unfold Builtin.«sum»
  simp only [List.length_cons, List.length_nil]
  rw [if_neg (by decide)]
  refine wpAny_bind (wpAny_of_eq (a := [some (.int z tz)]) (by rfl) ?_)
  refine wpAny_bind (wpAny_mono h (fun it s₂ h₂ => ?_) fun _ _ e => e)
  obtain ⟨I, fp, wr, G, n, P, S, val, rfl, W, hst, hfp, hval, hQ⟩ := h₂
  have fin : ∀ (tA : Tok) (tk : Nat) (st : Int), s₂.toks ≤ tk → (st = 0 ∨ st = 2) → wpAny (model Pr w) A.in1 (do
      for (ty, what, hint) in [("str", "strings", "''"), ("bytes", "bytes", "b''"), ("bytearray", "bytearray", "b''")] do
        if ← isInstance (.int z tA) (.type ty) then
          rule "sum.start-refused"; raiseError "TypeError" s!"sum() can't sum {what} [use {hint}.join(seq) instead]"
      again (.builtin "sum.loop" ⟨[.ref I, ← newList [.int z tA], rawInt st, rawInt 0], []⟩)) (fun fin s' => match fin with | .done f => (fun r s' => match r with | .ok (.ret v) => Q v s' | .ok _ => False | .error e => E e s') (Except.ok f : Result) s' | .again c' => c'.quiet = true ∧ codeAny (model Pr w) A c' (fun r s' => match r with | .ok (.ret v) => Q v s' | .ok _ => False | .error e => E e s') s') (fun e s' => E e s') { s₂ with toks := tk } := by
    intro tA tk st htk hst2
    simp only [List.forIn_cons, List.forIn_nil]
    refine wpAny_bind (wpAny_bind (wpAny_bind (wpAny_isInstance (T := "int") (b := false) (typeIs_int _ _ _) PySem.sub_int_str ?_)))
    simp only [Bool.false_eq_true, if_false]
    refine wpAny_pure (wpAny_bind (wpAny_bind (wpAny_isInstance (T := "int") (b := false) (typeIs_int _ _ _) PySem.sub_int_bytes ?_)))
    simp only [Bool.false_eq_true, if_false]
    refine wpAny_pure (wpAny_bind (wpAny_bind (wpAny_isInstance (T := "int") (b := false) (typeIs_int _ _ _) PySem.sub_int_bytearray ?_)))
    simp only [Bool.false_eq_true, if_false]
    refine wpAny_pure (wpAny_pure (wpAny_bind (wpAny_newObj_type ?_)))
    have hSf : s₂.heap.objs.size ∉ fp := fun hm => Nat.lt_irrefl _ (hfp _ hm)
    have hv : ∀ i v, preP P i v → ∃ t, v = .int (preV z val i) t := fun i v hp => by
      cases i with
      | zero => exact hp.elim
      | succ i => exact hval i v hp
    refine wpAny_pure ⟨plainId_quiet F.plain_sum_loop _, codeAny_sum_loopAnyS (walk_ahead W) (preV z val) hv s₂.heap.objs.size hSf n 1 _ tA 0 st hst2 (by omega) (by omega)
      (W.frame 0 s₂ _ _ hst htk fun b _ o e => Heap.get?_push_of_some _ e) ?_ fun s' t' hm => ?_⟩
    · have e1 : preSum (preV z val) 1 = z := by simp [preSum, preV]
      rw [e1]
      exact Heap.get?_push_size _ rfl
    · rw [preSum_ahead]
      exact hQ s' t' (hm.drop_new htk)
  show wpAny _ A.in1 (if (_ : Bool) = true then _ else _) _ _ _
  split
  · refine wpAny_bind (wpAny_rule (wpAny_bind (wpAny_mkInt (wpAny_bind (wpAny_pure ?_)))))
    exact fin s₂.toks (s₂.toks + 1) 0 (Nat.le_succ _) (.inl rfl)
  · refine wpAny_bind (wpAny_pure ?_)
    exact fin tz s₂.toks 2 (Nat.le_refl _) (.inr rfl)
end
end Mine
end
section
open PySem PySem.W PyProof.Rows PySem.Calls
set_option Elab.async false
set_option maxRecDepth 100000
set_option linter.unusedVariables false
set_option linter.unusedSimpArgs false
namespace Mine
/-- pieces of the acc, as data -/
noncomputable def pairD (x : Str × Str) : PyData := .tuple [.str x.1, .str x.2]
/-- where a walk over the acc stands -/
noncomputable def accSt (B : Heap) (I p d : Addr) (it : Array Value) (ep : Nat) (i : Nat) (h : Heap) : Prop := (∃ o, h.get? I = some o ∧ listSt p i o) ∧ h.get? p = some (accOb d it ep) ∧ Ext B h
noncomputable def strPair (xs : List (Str × Str)) (i : Nat) (vals : Array Value) : Prop := ∃ x ta tb, xs[i]? = some x ∧ vals = #[.str x.1 ta, .str x.2 tb]
theorem walk_acc {w : World} {A : Around} (hh : A.handled = none) {B : Heap} {I p d N : Addr} {it : Array Value} {ep : Nat} {xs : List (Str × Str)} (r : RdAll B it.toList (xs.map pairD)) (hI : I < N) (hp : p < N) (hpI : p ≠ I) (hB : ∀ b o, B.get? b = some o → b < N) (hBI : B.get? I = none) :
    WalksU Pr w A I (List.range N) [I] xs.length (strPair xs) (accSt B I p d it ep) (fun i T h => accSt B I p d it ep (i + 1) h ∧ T ≠ I) where
  sub := fun b hb => by cases List.mem_singleton.mp hb; exact List.mem_range.mpr hI
  frame := fun i h h' st hk => by
    obtain ⟨⟨o, ho, hs⟩, hpp, hb⟩ := st
    exact ⟨⟨o, hk I (List.mem_range.mpr hI) o ho, hs⟩, hk p (List.mem_range.mpr hp) _ hpp, fun b o e => hk b (List.mem_range.mpr (hB b o e)) o (hb b o e)⟩
  item := fun i s Q E hi st q => by
    obtain ⟨⟨o, ho, hs⟩, hpp, hb⟩ := st
    obtain ⟨x, hx⟩ : ∃ x, xs[i]? = some x := ⟨xs[i], List.getElem?_eq_getElem hi⟩
    obtain ⟨v, hv, rv⟩ := r.get (i := i) (d := pairD x) (by simp [hx])
    obtain ⟨T, vs, rfl, hT, ra⟩ := rv.tuple_inv
    obtain ⟨va, vs', rfl, r1, ra⟩ := ra.cons_inv
    obtain ⟨vb, vs', rfl, r2, ra⟩ := ra.cons_inv
    rw [ra.nil_inv] at hT
    obtain ⟨ta, rfl⟩ := r1.str_inv
    obtain ⟨tb, rfl⟩ := r2.str_inv
    refine next_item (p := p) (i := i) (x := .ref T) ho hs.1 hs.2 hpp rfl (by simpa using hv) fun h' hit hsb => ?_
    obtain ⟨o', ho', hc, hd⟩ := hit
    have keep : ∀ b o, b ∉ [I] → s.heap.get? b = some o → h'.get? b = some o := fun b o hbI e => (hsb.2 b (by simpa using hbI)).trans e
    have hTB : ∃ oT, B.get? T = some oT := by obtain ⟨oT, e, _⟩ := hT; exact ⟨oT, e⟩
    have hTI : T ≠ I := fun e => by obtain ⟨oT, eT⟩ := hTB; rw [e, hBI] at eT; cases eT
    have hB' : Ext B h' := fun b o e => keep b o (by simp; intro eb; rw [eb, hBI] at e; cases e) (hb b o e)
    refine q T #[.str x.1 ta, .str x.2 tb] h' s.toks ⟨x, ta, tb, hx, rfl⟩ ?_ ⟨⟨⟨o', ho', hc, hd⟩, keep p _ (by simpa using hpI) hpp, hB'⟩, hTI⟩ keep
    obtain ⟨oT, eT, cT, nT, dT⟩ := hT
    exact ⟨oT, hB' _ _ eT, cT, nT, dT⟩
  go := fun elts k pos i T s Q E st q => by
    obtain ⟨⟨⟨o, ho, hs⟩, hpp, hb⟩, hT⟩ := st
    exact wpAny_letOwnedTupleGo_listiter (l := p) (i := i + 1) ⟨o, ho, hs.1, hs.2⟩ (q s.heap ⟨⟨o, ho, hs⟩, hpp, hb⟩ fun b o _ e => e)
  apart := fun i T h st => by simpa using st.2
  done := fun s Q E st q => by
    obtain ⟨⟨o, ho, hs⟩, hpp, hb⟩ := st
    have hl : it.size = xs.length := by have := r.length; simpa using this
    exact next_end hh ho hs.1 (by rw [hl]; exact hs.2) hpp rfl fun h' he => q h' s.toks fun b o hbI e => he b o (by simpa using hbI) e
  self := fun i s Q E st q => by
    obtain ⟨⟨o, ho, hs⟩, hpp, hb⟩ := st
    exact wpAny_pyIter_listiter ⟨_, ho, hs.1, hs.2⟩ q
end Mine
end
section
open PySem PySem.W PyProof.Rows PySem.Calls
set_option Elab.async false
set_option maxRecDepth 100000
set_option linter.unusedVariables false
set_option linter.unusedSimpArgs false
namespace Mine
section
variable {w : World} {A : Around} {s : Shared} {E : Value → Shared → Prop} {env : Env} {B : Heap}
theorem ldr_bi {x : Str} {pos : Pos} {v : Value} {Q : Value → Shared → Prop} (hb : Bs w B) (eb : Ext B s.heap) (e : nsIn (Kf w) 3 x = some none) (hv : bootBuiltins x = some v) (q : Q v s) (hg : env.globals = 3) (hbi : env.builtins = builtinsNs) (hk : env.scope.kind = .function) (hx : env.kindOf x = some .globalImplicit)
    (hn : (x == ("__name__" : Str)) = false := by kernel_rfl) (hd : (x == ("__debug__" : Str)) = false := by kernel_rfl) : wpAny (model Pr w) A (eval (.Name x pos) env) Q E s := by
  refine Name_function_global hk hx ?_ hd
  unfold loadGlobal
  rw [hg, hbi]
  obtain ⟨mb, hm, hmb⟩ := hb.b
  refine wpAny_bind (looks_nsIn (hb.k.keeps eb) e A _ E s (Ext.refl _) ?_)
  refine wpAny_bind (wpAny_nsGet (hm.keeps eb) ?_)
  rw [hmb x (by intro e; rw [e] at hn; exact absurd hn (by decide +kernel)), hv]
  exact wpAny_pure q
/-- len(x), x a text by its name; nothing asked of the room -/
theorem ev_lenR {x : Str} {p px pos : Pos} {m : Str → Option Value} {y : Str} {t : Tok} {Q : Value → Shared → Prop} (hb : Bs w B) (eb : Ext B s.heap) (hns : s.heap.Ns env.locals m) (hm : m x = some (.str y t)) (hz : y.length < 2 ^ 62)
    (q : ∀ t' k, Q (.int y.length t') { s with toks := k }) (hg : env.globals = 3) (hbi : env.builtins = builtinsNs) (hk : env.scope.kind = .function) (hx : env.kindOf (Str.ofString "len") = some .globalImplicit) (hl : env.kindOf x = some .local) (hd : (x == ("__debug__" : Str)) = false)
    (he : starEach [.Name x px] env = (false, eval (.Name x px) env) :: starEach [] env := by rfl) : wpAny (model Pr w) A (eval (.Call (.Name (Str.ofString "len") p) [.Name x px] [] pos) env) Q E s := by
  refine wpAny_Call_NameR (ldr_bi (v := .builtin "len") hb eb (by kernel_rfl) (by kernel_rfl) ?_ hg hbi hk hx)
  refine callWith_builtin1 ?_ he rfl
  rw [he]
  refine spliced_more (wpAny_Name (wpAny_loadName_local hk hl hns hm (spliced_nil ?_)) hd)
  exact PySem.P.len_str (by omega) (q _ _)
end
end Mine
end
section
open PySem PySem.W PyProof.Rows PySem.Calls
set_option Elab.async false
set_option maxRecDepth 100000
set_option linter.unusedVariables false
set_option linter.unusedSimpArgs false
namespace Mine
theorem quiet_len {w : World} {cenv : Env} {B href : Heap} {I N : Addr} {xs : List (Str × Str)} {p1 p2 q1 q2 r1 r2 rr : Pos} (hb : Bs w B) (hB : ∀ b o, B.get? b = some o → b < N) (hBI : B.get? I = none) (hBh : Ext B href) (hz : ∀ x ∈ xs, x.1.length < 2 ^ 62 ∧ x.2.length < 2 ^ 62)
    (hg : cenv.globals = 3) (hbi : cenv.builtins = builtinsNs) (hk : cenv.scope.kind = .function) (hx : cenv.kindOf (Str.ofString "len") = some .globalImplicit) (ha : cenv.kindOf (Str.ofString "fws") = some .local) (hb' : cenv.kindOf (Str.ofString "part") = some .local) :
    QuietGenT Pr w cenv (Str.ofString "fws") (Str.ofString "part") [] (.BinOp (.Call (.Name (Str.ofString "len") p1) [.Name (Str.ofString "fws") q1] [] r1) .Add (.Call (.Name (Str.ofString "len") p2) [.Name (Str.ofString "part") q2] [] r2) rr) (List.range N) [I] (strPair xs) (fun _ => true) (fun i y => ∃ x t, xs[i]? = some x ∧ y = .int ((x.1.length : Int) + x.2.length) t) href where
  tests := fun A' E' i va vb s₂ m₂ hh hp hn h1 h2 hk' => by
    rw [List.forIn_nil]
    exact wpAny_pure ⟨rfl, s₂.heap, s₂.toks, rfl, fun _ _ e => e⟩
  elt := fun A' E' i va vb s₂ m₂ hh hp _ hn h1 h2 hk' => by
    obtain ⟨x, ta, tb, hxx, e⟩ := hp
    have e1 : va = .str x.1 ta ∧ vb = .str x.2 tb := by simpa using e
    obtain ⟨rfl, rfl⟩ := e1
    have hxm := hz x (List.mem_of_getElem? hxx)
    have eb : Ext B s₂.heap := fun b o e => hk' b (List.mem_range.mpr (hB b o e)) (by simp; intro q; rw [q, hBI] at e; cases e) o (hBh b o e)
    refine wpAny_BinOp (ev_lenR hb eb hn h1 hxm.1 (fun t1 k1 => ?_) hg hbi hk hx ha (by kernel_rfl))
    refine ev_lenR (s := { s₂ with toks := k1 }) hb eb hn h2 hxm.2 (fun t2 k2 => ?_) hg hbi hk hx hb' (by kernel_rfl)
    exact wpAny_add_int ⟨⟨x, _, hxx, rfl⟩, s₂.heap, _, rfl, fun _ _ e => e⟩
end Mine
end
section
open PySem PySem.W PyProof.Rows PySem.Calls
set_option Elab.async false
set_option maxRecDepth 100000
set_option linter.unusedVariables false
set_option linter.unusedSimpArgs false
namespace Mine
/-- a table of codes -/
noncomputable def TabO (o : Obj) : Prop := ∃ ps, o = tabObj ps ∧ TriplesOk ps.toList
theorem triples_more {ps : Array Value} (l c : Int) (v : Value) (h : TriplesOk ps.toList) : TriplesOk (ps ++ #[rawInt l, rawInt c, v]).toList := by
  rw [show (ps ++ #[rawInt l, rawInt c, v]).toList = ps.toList ++ [rawInt l, rawInt c, v] by simp]
  exact TriplesOk_snoc _ _ _ _ h
section
variable {w : World} {X : List Addr} {L : Addr} {M : List (Addr × Obj)} {B₀ h₀ B h h' : Heap} {m : Str → Option Value} {A : Around} {s : Shared} {tk : Nat} {E : Value → Shared → Prop}
theorem At.changeExt {p : Addr} {o o' : Obj} (a : At X L ((p, o) :: M) B₀ h₀ m B h) (he : Heap.ExtBut p h h') (hg : h'.get? p = some o') : At X L ((p, o') :: M) B₀ h₀ m B h' := by
  have g := a.gone he
  have hp := a.offM (p, o) (.head _)
  have nd := a.nd
  simp only [List.map_cons, List.nodup_cons] at nd
  refine ⟨g.ns, fun q hq => ?_, g.offL, g.newL, fun q hq => ?_, List.nodup_cons.mpr nd, g.bh, g.bb, g.kp, g.sz, g.fresh⟩
  · rcases List.mem_cons.mp hq with rfl | hq
    · exact hg
    · exact g.own q hq
  · rcases List.mem_cons.mp hq with rfl | hq
    · exact hp
    · exact g.offM q hq
/-- the code of a genexpr, made or found -/
theorem gen_code {env : Env} {c P : Addr} {o : Obj} {pos : Pos} {qn : Str} {scope : Scope} {Q : Value → Shared → Prop} (hb : Bs w B) (a : At X L ((P, o) :: M) B₀ h₀ m B h) (ht : TabO o) (e : codeHdIn (Kf w) c P = true) (hc : env.code = .ref c)
    (q : ∀ code h' tk' o', At X L ((P, o') :: M) B₀ h₀ m B h' → TabO o' → Q code (St s h' tk')) : wpAny (model Pr w) A (genexprCode env pos qn scope) Q E (St s h tk) := by
  obtain ⟨ps, rfl, hp⟩ := ht
  have C := codeHd_of_K (hb.k.keeps a.bh) e
  have hP : h.get? P = some (tabObj ps) := a.own (P, _) (.head _)
  cases hnf : codeAmong pos ps.toList with
  | some cv => exact wpAny_genexprCode_hit (s := St s h tk) hc (C.code hP hp) hnf (q cv h tk _ a ⟨ps, rfl, hp⟩)
  | none =>
    refine wpAny_genexprCodeX (s := St s h tk) hc (C.code hP hp) (C.tab hP) hnf fun c' h' tk' hx _ _ _ _ htb _ => ?_
    exact q _ h' tk' _ (a.changeExt hx htb.2) ⟨_, rfl, triples_more _ _ _ hp⟩
end
end Mine
end
section
open PySem PySem.W PyProof.Rows PySem.Calls
set_option Elab.async false
set_option maxRecDepth 100000
set_option linter.unusedVariables false
set_option linter.unusedSimpArgs false
namespace Mine
theorem pass_all (n : Nat) : passing (fun _ => true) n 0 = List.range n := by simp [passing]
section
variable {w : World} {X : List Addr} {M : List (Addr × Obj)} {B₀ h₀ B h : Heap} {m : Str → Option Value} {A : Around} {s : Shared} {tk k : Nat} {E : Value → Shared → Prop} {env : Env}
/-- (elt for xa, xb in self) -/
theorem gen_acc {elt : Expr} {xa xb : Str} {pa pb pt px pos : Pos} {kt : Nat} {scope : Scope} {cl : List (Str × Addr)} {p d c P : Addr} {it : Array Value} {ep : Nat} {o : Obj} {xs : List (Str × Str)} {F : Nat → Value → Prop} {Q : Value → Shared → Prop}
    (ok : Ok k A) (hb : Bs w B) (a : At X env.locals ((p, accOb d it ep) :: (P, o) :: M) B₀ h₀ m B h) (hm : m (Str.ofString "self") = some (.ref p)) (r : RdAll B it.toList (xs.map pairD)) (ht : TabO o) (e : codeHdIn (Kf w) c P = true) (hc : env.code = .ref c)
    (quiet : ∀ C code I N href, (∀ b o, B.get? b = some o → b < N) → B.get? I = none → Ext B href → QuietGenT Pr w (genEnv scope cl C code builtinsNs env) xa xb [] elt (List.range N) [I] (strPair xs) (fun _ => true) F href)
    (q : ∀ ga C I h4 tk4 gs o' , gs.bare = true → WalksS Pr w A.in4 ga (ga :: C :: List.range C) [C, I] (GenOnlyQ s.gens.size) xs.length (fun j y => ∃ i, (List.range xs.length)[j]? = some i ∧ F i y) (GenAt Pr w A.in4 ga s.gens.size C (List.range C) [I] (fun _ => true) xs.length F) →
      GenAt Pr w A.in4 ga s.gens.size C (List.range C) [I] (fun _ => true) xs.length F 0 { St s h4 tk4 with gens := s.gens.push gs } → C < ga → h4.objs.size = ga + 1 → At X env.locals ((p, accOb d it ep) :: (P, o') :: M) B₀ h₀ m B h4 →
      (∀ s', Moved [C, I] (GenOnlyQ s.gens.size) { St s h4 tk4 with gens := s.gens.push gs } s' → ∃ h' tk' gens', s' = St { s with gens := gens' } h' tk' ∧ At X env.locals ((p, accOb d it ep) :: (P, o') :: M) B₀ h₀ m B h' ∧ TabO o' ∧ (AllBare s.gens → AllBare gens')) →
      Q (.ref ga) { St s h4 tk4 with gens := s.gens.push gs })
    (hl : env.kindOf (Str.ofString "self") = some .local) (hk : env.scope.kind = .function) (hg : env.globals = 3) (hco : scope.isCoroutine = false) (hclos : closureFor scope env = pure cl) (hcell : ∀ y ∈ scope.names, y.2 ≠ .cell) (h0 : scope.names.lookup (".0" : Str) = some NameKind.local)
    (hxa : scope.names.lookup xa = some .local) (hxb : scope.names.lookup xb = some .local) (hab : xa ≠ xb) (hkind : scope.kind = .function) (hs : ∀ x, genFold (.Name (Str.ofString "self") px) env x = pure x) :
    wpAny (model Pr w) A (eval (.GeneratorExp elt [⟨.Tuple [.Name xa pa, .Name xb pb] kt pt, .Name (Str.ofString "self") px, [], 0⟩] scope pos) env) Q E (St s h tk) := by
  refine wpAny_GeneratorExp_walksQT ok.handled hco hclos hcell h0 hxa hxb hab hkind ok.room ?_ hs
  refine ev_local a hm (iter_acc hb a fun I h1 a1 => ⟨hb.lim.keeps a1.bh, ?_⟩) hl hk (by kernel_rfl)
  have a1' : At X env.locals ((P, o) :: (I, liOb p 0) :: (p, accOb d it ep) :: M) B₀ h₀ m B h1 := a1.perm (List.perm_middle (l₁ := [(I, liOb p 0), (p, accOb d it ep)])).symm
  refine gen_code (s := s) (tk := tk) hb a1' ht e hc fun code h2 t2 o' a2 ht2 => ?_
  obtain ⟨mg, bm, ob, x⟩ := hb.bm
  rw [hg]
  refine wpAny_builtinsFor (s := St s h2 t2) (x.ns.keeps a2.bh) x.name x.ne (a2.bh _ _ x.obj) x.cls x.dict x.data ?_
  have hIo := a2.own (I, liOb p 0) (.tail _ (.head _))
  have hpo := a2.own (p, accOb d it ep) (.tail _ (.tail _ (.head _)))
  have hpI : p ≠ I := fun q => by
    have nd := a2.nd
    simp only [List.map_cons, List.nodup_cons, List.mem_cons] at nd
    exact nd.2.1 (.inl q.symm)
  have hB : ∀ b o, B.get? b = some o → b < h2.objs.size := fun b o e => Heap.lt_size (a2.bh b o e)
  have hBI : B.get? I = none := (a2.offM (I, liOb p 0) (.tail _ (.head _))).1
  refine ⟨I, List.range h2.objs.size, [I], xs.length, strPair xs, accSt B I p d it ep, _, fun _ => true, F, rfl, fun A' hA => walk_acc hA r (Heap.lt_size hIo) (Heap.lt_size hpo) hpI hB hBI, fun i vals hv => ?_, ⟨⟨_, hIo, rfl, rfl⟩, hpo, a2.bh⟩, fun b hb => List.mem_range.mp hb, hb.lim.keeps a2.bh, ?_, fun href hh => quiet _ _ _ _ _ hB hBI (a2.bh.trans hh), fun ga h5 tk5 gs hgs hlt hsz keep W G0 => ?_⟩
  · obtain ⟨x, ta, tb, _, e⟩ := hv
    exact ⟨_, _, e⟩
  · obtain ⟨mc, hn, _⟩ := hb.lim
    obtain ⟨oc, _, _, hoc, _⟩ := hn
    intro hmem
    rw [List.mem_singleton.mp hmem, hBI] at hoc
    cases hoc
  · rw [pass_all] at W
    simp only [List.length_range] at W
    refine q ga h2.objs.size I h5 tk5 gs o' hgs W G0 hlt hsz (((a2.drop (List.Sublist.cons_cons _ (List.Sublist.cons _ (List.Sublist.refl _)))).perm (List.Perm.swap _ _ _)).more keep) fun s' mv => ⟨s'.heap, s'.toks, s'.gens, ?_, ?_, ht2, fun hA => ?_⟩
    · obtain ⟨sh, sg, sd, st, so⟩ := s'
      have e1 : sd = s.drawn := mv.drawn
      have e2 : so = s.os := mv.os
      subst e1 e2
      rfl
    · have he : Heap.ExtBut I h2 s'.heap := fun b o hbI e => mv.heap b o (by simp only [List.mem_cons, List.not_mem_nil, or_false, not_or]; exact ⟨Nat.ne_of_lt (Heap.lt_size e), hbI⟩) (keep b o e)
      exact ((a2.perm (List.Perm.swap _ _ _)).gone he).perm (List.Perm.swap _ _ _)
    · exact AllBare.moved (hA.push hgs) mv.gens
end
end Mine
end
section
open PySem PySem.W PyProof.Rows PySem.Calls
set_option Elab.async false
set_option maxRecDepth 100000
set_option linter.unusedVariables false
set_option linter.unusedSimpArgs false
namespace Mine
/-- the same, marks used up -/
theorem run_readT {w : World} {T : List (Addr × Obj)} {B : Heap} {α : Type} {t : Sem α} {A : Around} {s : Shared} {Q : α → Shared → Prop} {E : Value → Shared → Prop} (f : Nat) (acts : List Act) {v : α} (dt : Nat) (hb : Bs w B) (eb : Ext B s.heap) (hT : ∀ q ∈ T, 156 ≤ q.1) (nd : (T.map (·.1)).Nodup) (own : ∀ q ∈ T, s.heap.get? q.1 = some q.2)
    (er : ∀ n, theRun w T n f t acts s.toks = some (.ok v, twins (T.map (·.1)) n acts, [], ⟨T.map (·.2), [], s.toks + dt⟩))
    (q : ∀ h', Step B s.heap B h' → Q v (St s h' (s.toks + dt))) : wpAny (model Pr w) A t Q E s := by
  have T1 : Tr (Kf w) (T.map (·.1)) s.heap.objs.size s.heap := by
    refine ⟨hb.k.keeps eb, fun b hm => ?_, nd, fun b hm => ?_, rfl⟩
    · obtain ⟨p, hp, rfl⟩ := List.mem_map.mp hm
      exact k_off (hT p hp)
    · obtain ⟨p, hp, rfl⟩ := List.mem_map.mp hm
      exact Heap.lt_size (own p hp)
  have R0 : Rp (T.map (·.1)) s.heap.objs.size s.heap ⟨T.map (·.2), [], s.toks⟩ s.heap := by
    refine ⟨fun j b o hb ho => ?_, fun j o e => (nomatch e), rfl, fun b o _ e => e⟩
    simp only [List.getElem?_map, Option.map_eq_some_iff] at hb ho
    obtain ⟨p, hp, rfl⟩ := hb
    obtain ⟨q, hq, rfl⟩ := ho
    rw [hp] at hq
    cases hq
    exact own p (List.mem_of_getElem? hp)
  refine runT_sound T1 (runC_sound T1 f) t acts _ _ _ _ _ (er s.heap.objs.size) twins_eqs A s s.heap Q E R0 fun h' p' => ?_
  have hh : Ext s.heap h' := fun b o e => by
    by_cases hm : b ∈ T.map (·.1)
    · obtain ⟨x, hx, rfl⟩ := List.mem_map.mp hm
      obtain ⟨j, hj⟩ := List.getElem?_of_mem hx
      have := p'.own j x.1 x.2 (by simp [hj]) (by simp [hj])
      rw [own x hx] at e
      cases e
      exact this
    · exact p'.keep b o hm e
  exact q h' ⟨Ext.refl _, eb.trans hh, hh, by rw [p'.size]; exact Nat.le_add_right .., fun x o e => .inl e⟩


section
variable {w : World} {A : Around} {s : Shared} {E : Value → Shared → Prop} {env : Env} {B : Heap}
/-- self._initial_size -/
theorem ev_size {px pos : Pos} {m : Str → Option Value} {p d : Addr} {it : Array Value} {ep : Nat} {hs : Int} {t : Nat} {zi : Int} {tz : Tok} {Q : Value → Shared → Prop} (hb : Bs w B) (eb : Ext B s.heap) (hns : s.heap.Ns env.locals m) (hm : m (Str.ofString "self") = some (.ref p)) (hp : 156 ≤ p) (hd : 156 ≤ d) (hpd : p ≠ d) (op : s.heap.get? p = some (accOb d it ep)) (od : s.heap.get? d = some (dicZ hs t (.int zi tz)))
    (q : ∀ h', Step B s.heap B h' → Q (.int zi tz) (St s h' (s.toks + 1))) (hl : env.kindOf (Str.ofString "self") = some .local) (hk : env.scope.kind = .function) (hb1 : attributeBase (.Name (Str.ofString "self") px) (Str.ofString "_initial_size") env (eval (.Name (Str.ofString "self") px) env) = eval (.Name (Str.ofString "self") px) env := by rfl)
    (ht : ∀ o r, letTemporaryGo (.Name (Str.ofString "self") px) o r = pure () := by intro _ _; rfl) : wpAny (model Pr w) A (eval (.Attribute (.Name (Str.ofString "self") px) (Str.ofString "_initial_size") pos) env) Q E s := by
  obtain ⟨r, rfl⟩ : ∃ r, p = r + 156 := ⟨p - 156, (Nat.sub_add_cancel hp).symm⟩
  obtain ⟨u, rfl⟩ : ∃ u, d = u + 156 := ⟨d - 156, (Nat.sub_add_cancel hd).symm⟩
  rw [arm_eval_Attribute, hb1]
  refine wpAny_bind (wpAny_Name (wpAny_loadName_local hk hl hns hm (wpAny_bind (wpAny_standAt (wpAny_bind (wpAny_holding ?_))))) (by kernel_rfl))
  refine run_readT (T := [(r + 156, accOb (u + 156) it ep), (u + 156, dicZ hs t (.int zi tz))]) (v := .int zi tz) 6 [.t 0, .k, .k, .k, .k, .k, .k, .t 0, .k, .t 0, .k, .k, .k, .t 0, .t 0, .k, .t 1] 1 hb eb ?_ ?_ ?_ (fun _ => by kernel_rfl) fun h' st => wpAny_bind (wpAny_of_eq (ht _ _) (wpAny_pure (q h' st)))
  · intro x hx
    simp only [List.mem_cons, List.not_mem_nil, or_false] at hx
    rcases hx with rfl | rfl
    · exact hp
    · exact hd
  · exact List.nodup_cons.mpr ⟨fun h => hpd (List.mem_singleton.mp h), List.nodup_cons.mpr ⟨List.not_mem_nil, .nil⟩⟩
  · intro x hx
    simp only [List.mem_cons, List.not_mem_nil, or_false] at hx
    rcases hx with rfl | rfl
    · exact op
    · exact od
end
end Mine
end
section
open PySem PySem.W PyProof.Rows PySem.Calls
set_option Elab.async false
set_option maxRecDepth 100000
set_option linter.unusedVariables false
set_option linter.unusedSimpArgs false
namespace Mine
noncomputable def lenSum : List (Str × Str) → Int
  | [] => 0
  | x :: r => (x.1.length : Int) + x.2.length + lenSum r
theorem lenSum_append (a b : List (Str × Str)) : lenSum (a ++ b) = lenSum a + lenSum b := by
  induction a with
  | nil => simp [lenSum]
  | cons x r ih => simp [lenSum, ih]; omega
noncomputable def lenAt (xs : List (Str × Str)) (i : Nat) : Int := ((xs.getD i (Str.empty, Str.empty)).1.length : Int) + (xs.getD i (Str.empty, Str.empty)).2.length
theorem preSum_len (xs : List (Str × Str)) : ∀ n, n ≤ xs.length → preSum (lenAt xs) n = lenSum (xs.take n)
  | 0, _ => by simp [preSum, lenSum]
  | n + 1, h => by
    rw [preSum, preSum_len xs n (by omega), List.take_add_one, lenSum_append]
    have : n < xs.length := h
    simp [lenAt, this, lenSum]
set_option maxHeartbeats 1000000 in
theorem len_ok {w : World} {k : Nat} {A : Around} {s : Shared} {h : Heap} {tk : Nat} {E Q : Value → Shared → Prop} {X : List Addr} {L : Addr} {M : List (Addr × Obj)} {B₀ h₀ B : Heap} {m : Str → Option Value} {p d : Addr} {it : Array Value} {ep : Nat} {hs : Int} {t : Nat} {zi : Int} {tz : Tok} {o : Obj} {xs : List (Str × Str)}
    (ok : Ok (k + 1) A) (hb : Bs w B) (hp : 156 ≤ p) (hd : 156 ≤ d) (a : At X L ((p, accOb d it ep) :: (d, dicZ hs t (.int zi tz)) :: (63, o) :: M) B₀ h₀ m B h) (r : RdAll B it.toList (xs.map pairD)) (hz : ∀ x ∈ xs, x.1.length < 2 ^ 62 ∧ x.2.length < 2 ^ 62) (ht : TabO o) (bare : AllBare s.gens)
    (q : ∀ h' tk' gens' o' tv, At X L ((p, accOb d it ep) :: (d, dicZ hs t (.int zi tz)) :: (63, o') :: M) B₀ h₀ m B h' → TabO o' → AllBare gens' → Q (.int (zi + lenSum xs) tv) (St { s with gens := gens' } h' tk')) : wpAny (model Pr w) A (call (.ref 68) [.ref p]) Q E (St s h tk) := by
  have hpd : p ≠ d := fun e => by
    have nd := a.nd
    simp only [List.map_cons, List.nodup_cons, List.mem_cons] at nd
    exact nd.1 (.inl e)
  refine call_defX (T := [(p, accOb d it ep), (d, dicZ hs t (.int zi tz)), (63, o)]) (fd := fdLen w) ok hb a (isLen w) (by kernel_rfl) (by unfold fdLen; rfl) (BindsTo.of_eq (binds := [(Str.ofString "self", .ref p)]) (by kernel_rfl)) (by kernel_rfl) (by kernel_rfl) fun L' h₁ E' a1 => ?_
  have ok' := ok.deeper (callEnv (fdLen w) L' 68)
  generalize hA : A.deeper (callEnv (fdLen w) L' 68) = A' at ok'
  have hs1 : (fun x => List.lookup x [(Str.ofString "self", Value.ref p)].reverse) (Str.ofString "self") = some (.ref p) := by rfl
  generalize hm : (fun x => List.lookup x [(Str.ofString "self", Value.ref p)].reverse) = m1 at a1 hs1
  refine x_seq (wx (wpAny_Return_some (wpAny_Call_NameR (ldr_bi (v := .builtin "sum") hb a1.bh (by kernel_rfl) (by kernel_rfl) ?_ (by kernel_rfl) (by kernel_rfl) (by kernel_rfl) (by kernel_rfl)))))
  refine callWith_builtin1 (spliced_more ?_ (by kernel_rfl)) (by kernel_rfl) (by kernel_rfl)
  have a1' : At _ (callEnv (fdLen w) L' 68).locals ((p, accOb d it ep) :: (63, o) :: [(d, dicZ hs t (.int zi tz))]) B h m1 B h₁ := a1.perm (List.Perm.cons _ (List.Perm.swap ..))
  refine gen_acc (F := fun i y => ∃ x t, xs[i]? = some x ∧ y = .int ((x.1.length : Int) + x.2.length) t) (c := 67) (cl := []) ok' hb a1' hs1 r ht (by kernel_rfl) (by kernel_rfl) (fun C code I N href hB hBI hBh => quiet_len hb hB hBI hBh hz (by kernel_rfl) (by kernel_rfl) (by kernel_rfl) (by kernel_rfl) (by kernel_rfl) (by kernel_rfl)) (fun ga C I h4 t4 gs o' hgs W G0 hC hsz a4 back => ?_) (by kernel_rfl) (by kernel_rfl) (by kernel_rfl) (by kernel_rfl) (by kernel_rfl) ?cell (by kernel_rfl) (by kernel_rfl) (by kernel_rfl) ?ab (by kernel_rfl) (fun x => rfl)
  case cell => exact fun y hy => of_decide_eq_true (List.all_eq_true.mp (by kernel_rfl : (_ : List (Str × NameKind)).all (fun x => decide (x.2 ≠ .cell)) = true) y hy)
  case ab => exact by decide +kernel
  refine spliced_more ?_ (by kernel_rfl)
  refine ev_size (s := { St s h4 t4 with gens := s.gens.push gs }) hb a4.bh a4.ns hs1 hp hd hpd (a4.own (p, _) (.head _)) (a4.own (d, _) (.tail _ (.tail _ (.head _)))) (fun h5 s5 => ?_) (by kernel_rfl) (by kernel_rfl)
  refine spliced_nil ?_
  have G5 := W.frame 0 _ h5 (t4 + 1) G0 (Nat.le_succ _) (fun b _ o e => s5.hh b o e)
  refine call_sum2 (W.of_in1.of_in1.of_in1.self 0 _ _ _ G5 ⟨ga, _, _, _, xs.length, _, _, lenAt xs, rfl, W.of_in1.of_in1.of_in1, G5, ?_, ?_, fun s' t' mv => ?_⟩)
  · intro b hb'
    have h45 : h4.objs.size ≤ h5.objs.size := s5.sz
    rw [hsz] at h45
    show b < h5.objs.size
    have hga : ga < h5.objs.size := h45
    rcases List.mem_cons.mp hb' with e | hb'
    · exact e ▸ hga
    · rcases List.mem_cons.mp hb' with e | hb'
      · exact e ▸ Nat.lt_trans hC hga
      · exact Nat.lt_trans (List.mem_range.mp hb') (Nat.lt_trans hC hga)
  · rintro i v ⟨j, hj, x, tt, hx, rfl⟩
    have hij : j = i := by
      have hi : i < xs.length := by
        rcases Nat.lt_or_ge i xs.length with c | c
        · exact c
        · rw [List.getElem?_eq_none (by simpa using c)] at hj; cases hj
      rw [List.getElem?_range hi] at hj
      cases hj; rfl
    subst hij
    exact ⟨tt, by simp [lenAt, hx]⟩
  · obtain ⟨h6, t6, gens6, rfl, a6, ht6, hbare⟩ := back s' (Moved.trans (s' := St { St s h4 t4 with gens := s.gens.push gs } h5 (t4 + 1)) W.gtrans ⟨fun b o _ e => s5.hh b o e, W.grefl _, rfl, rfl, Nat.le_succ t4⟩ mv)
    rw [preSum_len xs _ (Nat.le_refl _), List.take_length]
    exact q h6 t6 gens6 o' t' (At.back (T := [(p, accOb d it ep), (d, dicZ hs t (.int zi tz)), (63, o)]) (T' := [(p, accOb d it ep), (d, dicZ hs t (.int zi tz)), (63, o')]) (M' := []) a (a6.perm (List.Perm.cons _ (List.Perm.swap ..))) rfl) ht6 (hbare bare)
end Mine
end
section
open PySem PySem.W PyProof.Rows PySem.Calls
set_option Elab.async false
set_option maxRecDepth 100000
set_option linter.unusedVariables false
set_option linter.unusedSimpArgs false
namespace Mine
noncomputable def catp (x : Str × Str) : Str := cat [x.1, x.2]
noncomputable def accText (xs : List (Str × Str)) : Str := cat (xs.map catp)
section
variable {w : World} {A : Around} {s : Shared} {E : Value → Shared → Prop} {env : Env} {B : Heap}
theorem ldr_g {x : Str} {pos : Pos} {v : Value} {Q : Value → Shared → Prop} (hb : Bs w B) (eb : Ext B s.heap) (e : nsIn (Kf w) 3 x = some (some v)) (q : Q v s) (hg : env.globals = 3) (hk : env.scope.kind = .function) (hx : env.kindOf x = some .globalImplicit)
    (hd : (x == ("__debug__" : Str)) = false := by kernel_rfl) : wpAny (model Pr w) A (eval (.Name x pos) env) Q E s := by
  refine Name_function_global hk hx ?_ hd
  unfold loadGlobal
  rw [hg]
  exact wpAny_bind (looks_nsIn (hb.k.keeps eb) e A _ E s (Ext.refl _) (wpAny_pure q))
end
theorem isEmp (w : World) : ∃ t, nsIn (Kf w) 3 (Str.ofString "EMPTYSTRING") = some (some (.str (Str.ofString "") t)) := ⟨_, rfl⟩
theorem quiet_str {w : World} {cenv : Env} {B href : Heap} {I N : Addr} {xs : List (Str × Str)} {p1 p2 q1 q2 r1 rr : Pos} {kt : Nat} (hb : Bs w B) (hB : ∀ b o, B.get? b = some o → b < N) (hBI : B.get? I = none) (hBh : Ext B href) (hz : ∀ x ∈ xs, x.1.length + x.2.length ≤ 1000000)
    (hg : cenv.globals = 3) (hk : cenv.scope.kind = .function) (hx : cenv.kindOf (Str.ofString "EMPTYSTRING") = some .globalImplicit) (ha : cenv.kindOf (Str.ofString "fws") = some .local) (hb' : cenv.kindOf (Str.ofString "part") = some .local) (hline : (p2.endLine == rr.line) = true) :
    QuietGenT Pr w cenv (Str.ofString "fws") (Str.ofString "part") [] (.Call (.Attribute (.Name (Str.ofString "EMPTYSTRING") p1) (Str.ofString "join") p2) [.Tuple [.Name (Str.ofString "fws") q1, .Name (Str.ofString "part") q2] kt r1] [] rr) (List.range N) [I] (strPair xs) (fun _ => true) (fun i y => ∃ x t, xs[i]? = some x ∧ y = .str (catp x) t) href where
  tests := fun A' E' i va vb s₂ m₂ hh hp hn h1 h2 hk' => by
    rw [List.forIn_nil]
    exact wpAny_pure ⟨rfl, s₂.heap, s₂.toks, rfl, fun _ _ e => e⟩
  elt := fun A' E' i va vb s₂ m₂ hh hp _ hn h1 h2 hk' => by
    obtain ⟨x, ta, tb, hxx, e⟩ := hp
    have e1 : va = .str x.1 ta ∧ vb = .str x.2 tb := by simpa using e
    obtain ⟨rfl, rfl⟩ := e1
    have hxm := hz x (List.mem_of_getElem? hxx)
    have eb : Ext B s₂.heap := fun b o e => hk' b (List.mem_range.mpr (hB b o e)) (by simp; intro q; rw [q, hBI] at e; cases e) o (hBh b o e)
    obtain ⟨te, hte⟩ := isEmp w
    refine wp_method rfl hline rfl (ldr_g hb eb hte (GM.join ?_) hg hk hx)
    refine callWith_method1 (spliced_more (Tuple_ (spliced_more (wpAny_Name (wpAny_loadName_local hk ha hn h1 ?_) (by kernel_rfl)) rfl)) rfl) rfl rfl
    refine spliced_more (wpAny_Name (wpAny_loadName_local hk hb' hn h2 (spliced_nil ?_)) (by kernel_rfl)) rfl
    refine wpAny_newTuple ?_ (by simp [sizeLine])
    refine spliced_nil ?_
    refine join_tupleW (s := { s₂ with heap := _ }) (items := #[.str x.1 ta, .str x.2 tb]) (ys := [x.1, x.2]) ⟨_, Heap.get?_push_size _ rfl, rfl, _, rfl⟩ (.cons _ _ (.cons _ _ .nil)) (by decide +kernel) (by simp; omega) fun t' k' => ?_
    refine ⟨⟨x, t', hxx, ?_⟩, s₂.heap.push _, k', rfl, fun b o e => Heap.get?_push_of_some _ e⟩
    rw [empty_is]
    exact congrArg (fun z => Value.str z t') (glued_cat [x.1, x.2])
theorem items_text {xs : List (Str × Str)} {l : List (Str × Tok)} (hi : ItemsOf (fun j y => ∃ i, (List.range xs.length)[j]? = some i ∧ ∃ x t, xs[i]? = some x ∧ y = Value.str (catp x) t) (strValues l).toArray xs.length) : l.map (·.1) = xs.map catp := by
  obtain ⟨h1, h2⟩ := hi
  have hl : l.length = xs.length := by simpa [strValues] using h1
  apply List.ext_getElem
  · simp [hl]
  · intro j hj hj'
    simp at hj hj'
    obtain ⟨i, hi, x, t, hx, e⟩ := h2 j (.str l[j].1 l[j].2) (by simp [strValues, hj])
    rw [List.getElem?_range hj'] at hi
    cases hi
    have hx' : xs[j] = x := by rw [List.getElem?_eq_getElem hj'] at hx; exact Option.some.inj hx
    simp only [List.getElem_map]
    rw [hx']
    injection e
set_option maxHeartbeats 1000000 in
theorem str_ok {w : World} {k : Nat} {A : Around} {s : Shared} {h : Heap} {tk : Nat} {E Q : Value → Shared → Prop} {X : List Addr} {L : Addr} {M : List (Addr × Obj)} {B₀ h₀ B : Heap} {m : Str → Option Value} {p d : Addr} {it : Array Value} {ep : Nat} {o : Obj} {xs : List (Str × Str)}
    (ok : Ok (k + 1) A) (hb : Bs w B) (a : At X L ((p, accOb d it ep) :: (70, o) :: M) B₀ h₀ m B h) (r : RdAll B it.toList (xs.map pairD)) (hz : ∀ x ∈ xs, x.1.length + x.2.length ≤ 1000000) (hzz : (accText xs).length ≤ 1000000) (hn : xs.length ≤ sizeLine) (ht : TabO o) (bare : AllBare s.gens)
    (q : ∀ h' tk' gens' o' tv, At X L ((p, accOb d it ep) :: (70, o') :: M) B₀ h₀ m B h' → TabO o' → AllBare gens' → Q (.str (accText xs) tv) (St { s with gens := gens' } h' tk')) : wpAny (model Pr w) A (call (.ref 75) [.ref p]) Q E (St s h tk) := by
  refine call_defX (T := [(p, accOb d it ep), (70, o)]) (fd := fdStr w) ok hb a (isStr w) (by kernel_rfl) (by unfold fdStr; rfl) (BindsTo.of_eq (binds := [(Str.ofString "self", .ref p)]) (by kernel_rfl)) (by kernel_rfl) (by kernel_rfl) fun L' h₁ E' a1 => ?_
  have ok' := ok.deeper (callEnv (fdStr w) L' 75)
  generalize hA : A.deeper (callEnv (fdStr w) L' 75) = A' at ok'
  have hs1 : (fun x => List.lookup x [(Str.ofString "self", Value.ref p)].reverse) (Str.ofString "self") = some (.ref p) := by rfl
  generalize hm : (fun x => List.lookup x [(Str.ofString "self", Value.ref p)].reverse) = m1 at a1 hs1
  obtain ⟨te, hte⟩ := isEmp w
  refine x_seq (wx (wpAny_Return_some (wp_method rfl (by kernel_rfl) (by kernel_rfl) (ldr_g hb a1.bh hte (GM.join ?_) (by kernel_rfl) (by kernel_rfl) (by kernel_rfl)))))
  refine callWith_method1 (spliced_more ?_ (by kernel_rfl)) (by kernel_rfl) (by kernel_rfl)
  refine gen_acc (F := fun i y => ∃ x t, xs[i]? = some x ∧ y = .str (catp x) t) (c := 74) (cl := []) (M := []) ok' hb a1 hs1 r ht (by kernel_rfl) (by kernel_rfl) (fun C code I N href hB hBI hBh => quiet_str hb hB hBI hBh hz (by kernel_rfl) (by kernel_rfl) (by kernel_rfl) (by kernel_rfl) (by kernel_rfl) (by kernel_rfl)) (fun ga C I h4 t4 gs o' hgs W G0 hC hsz a4 back => ?_) (by kernel_rfl) (by kernel_rfl) (by kernel_rfl) (by kernel_rfl) (by kernel_rfl) ?cell (by kernel_rfl) (by kernel_rfl) (by kernel_rfl) ?ab (by kernel_rfl) (fun x => rfl)
  case cell => exact fun y hy => of_decide_eq_true (List.all_eq_true.mp (by kernel_rfl : (_ : List (Str × NameKind)).all (fun x => decide (x.2 ≠ .cell)) = true) y hy)
  case ab => exact by decide +kernel
  refine spliced_nil ?_
  rw [empty_is]
  refine SC.joinGen W.of_in1.of_in1 (fun i s st => ?_) G0 ?_ (.head _) ?_ (fun s' l mv hi => ?_) hn
  · exact st.1.typeIs
  · intro b hb'
    show b < h4.objs.size
    have hga : ga < h4.objs.size := by rw [hsz]; exact Nat.lt_succ_self _
    rcases List.mem_cons.mp hb' with e | hb'
    · exact e ▸ hga
    · rcases List.mem_cons.mp hb' with e | hb'
      · exact e ▸ Nat.lt_trans hC hga
      · exact Nat.lt_trans (List.mem_range.mp hb') (Nat.lt_trans hC hga)
  · rintro i v ⟨j, hj, x, tt, hx, rfl⟩
    exact ⟨_, _, rfl⟩
  · have hl := items_text hi
    rw [hl]
    refine ⟨joinOk_cat _ hzz, fun t' k' => ?_⟩
    have : Txt.join Str.empty (xs.map catp) = accText xs := glued_cat _
    rw [this]
    obtain ⟨h6, t6, gens6, rfl, a6, ht6, hbare⟩ := back s' mv
    exact q h6 k' gens6 o' t' (At.back (T := [(p, accOb d it ep), (70, o)]) (T' := [(p, accOb d it ep), (70, o')]) (M' := []) a a6 rfl) ht6 (hbare bare)
end Mine
end
section
open PySem PySem.W PyProof.Rows PySem.Calls
set_option Elab.async false
set_option maxRecDepth 100000
set_option linter.unusedVariables false
set_option linter.unusedSimpArgs false
namespace Mine
theorem Ok.in1 {k : Nat} {A : Around} (h : Ok (k + 1) A) : Ok k A.in1 :=
  ⟨h.handled, by have := h.depth; simp only [Around.in1_depth]; omega, by have := h.units; simp only [Around.in1_units]; omega⟩
theorem Ok.room' {k : Nat} {A : Around} (h : Ok k A) : A.units < cLine := by have := h.units; omega
theorem lenSum_nonneg : ∀ xs : List (Str × Str), 0 ≤ lenSum xs
  | [] => Int.le_refl _
  | x :: r => by have := lenSum_nonneg r; simp only [lenSum]; omega
section
variable {w : World} {k : Nat} {A : Around} {s : Shared} {h : Heap} {tk : Nat} {E Q : Value → Shared → Prop} {X : List Addr} {L : Addr} {M : List (Addr × Obj)} {B₀ h₀ B : Heap} {m : Str → Option Value} {p d : Addr} {it : Array Value} {ep : Nat} {hs : Int} {t : Nat} {zi : Int} {tz : Tok} {o : Obj} {xs : List (Str × Str)}
/-- len(acc) -/
theorem acc_len (ok : Ok (k + 2) A) (hb : Bs w B) (hp : 156 ≤ p) (hd : 156 ≤ d) (a : At X L ((p, accOb d it ep) :: (d, dicZ hs t (.int zi tz)) :: (63, o) :: M) B₀ h₀ m B h) (r : RdAll B it.toList (xs.map pairD)) (hz : ∀ x ∈ xs, x.1.length < 2 ^ 62 ∧ x.2.length < 2 ^ 62) (h0 : 0 ≤ zi) (h1 : zi + lenSum xs < 2 ^ 62) (ht : TabO o) (bare : AllBare s.gens)
    (q : ∀ h' tk' gens' o' tv, At X L ((p, accOb d it ep) :: (d, dicZ hs t (.int zi tz)) :: (63, o') :: M) B₀ h₀ m B h' → TabO o' → AllBare gens' → Q (.int (zi + lenSum xs) tv) (St { s with gens := gens' } h' tk')) : wpAny (model Pr w) A (call (.builtin "len") [.ref p]) Q E (St s h tk) := by
  have hn := lenSum_nonneg xs
  refine Calls.call_function_entry kind_len plain_len entry_len (args_len1 _) ?_
  unfold Builtin.«len»
  refine wpAny_bind (m := oneArg "len" _) (wpAny_pure ?_)
  refine wpAny_bind (m := callSpecial? (.ref p) (Str.ofString "__len__")) (special_fn (K := Kf w) (f := 68) (C := 101) (ox := accOb d it ep) (od := some (dicZ hs t (.int zi tz))) (hb.k.keeps a.bh) ⟨a.own (p, _) (.head _), rfl, rfl, a.own (d, _) (.tail _ (.head _))⟩ (by kernel_rfl) (by kernel_rfl) (len_ok ok.in1 hb hp hd a r hz ht bare fun h' tk' gens' o' tv a' ht' bare' => ?_))
  refine wpAny_bind (wpAny_holding (wpAny_pure ?_))
  refine wpAny_bind (wpAny_letGo ?_)
  show wpAny _ _ (if zi + lenSum xs < 0 then _ else _) _ _ _
  rw [if_neg (by omega)]
  show wpAny _ _ (if zi + lenSum xs ≥ 2 ^ 63 then _ else _) _ _ _
  rw [if_neg (by omega)]
  exact wpAny_bind (wpAny_mkInt (wpAny_pure ⟨_, rfl, q _ _ _ _ _ a' ht' bare'⟩))
/-- str(acc) -/
theorem acc_str {dob : Obj} (ok : Ok (k + 3) A) (hb : Bs w B) (a : At X L ((p, accOb d it ep) :: (d, dob) :: (70, o) :: M) B₀ h₀ m B h) (r : RdAll B it.toList (xs.map pairD)) (hz : ∀ x ∈ xs, x.1.length + x.2.length ≤ 1000000) (hzz : (accText xs).length ≤ 1000000) (hn : xs.length ≤ sizeLine) (ht : TabO o) (bare : AllBare s.gens)
    (q : ∀ h' tk' gens' o' tv, At X L ((p, accOb d it ep) :: (d, dob) :: (70, o') :: M) B₀ h₀ m B h' → TabO o' → AllBare gens' → Q (.str (accText xs) tv) (St { s with gens := gens' } h' tk')) : wpAny (model Pr w) A (call (.type "str") [.ref p]) Q E (St s h tk) := by
  refine kso_call (K := Kf w) (f := 75) (C := 101) (ox := accOb d it ep) (od := some dob) (s := St s h tk) ok.in1.in1.room' (hb.k.keeps a.bh) ⟨a.own (p, _) (.head _), rfl, rfl, a.own (d, _) (.tail _ (.head _))⟩ (by kernel_rfl) (by kernel_rfl) ?_
  refine str_ok ok.in1.in1 hb (a.perm (List.Perm.cons _ (List.Perm.swap ..))) r hz hzz hn ht bare fun h' tk' gens' o' tv a' ht' bare' => ?_
  exact q _ _ _ _ _ (a'.perm (List.Perm.cons _ (List.Perm.swap ..))) ht' bare'
end
end Mine
end
section
open PySem PySem.W PyProof.Rows PySem.Calls
set_option Elab.async false
set_option maxRecDepth 100000
set_option linter.unusedVariables false
set_option linter.unusedSimpArgs false
namespace Mine
/-- the machine's inner def -/
noncomputable abbrev RdPart (w : World) : Type := { x : Arguments × List Stmt × Scope // ∃ a c p, (fdMachine w).body = .stmts (a :: .FunctionDef (Str.ofString "read") x.1 x.2.1 [] none [] x.2.2 none (Str.ofString "read") p :: c) }
noncomputable def rdPart (w : World) : RdPart w := ⟨(_, _, _), _, _, _, by unfold fdMachine; rfl⟩
noncomputable def rdQual : Str := Str.ofString "_law_machine.<locals>.read"
noncomputable def fdRd (w : World) (c : Addr) (doc pm cd ctv : Value) : FuncData := fnX (Str.ofString "read") rdQual (rdPart w).1.1 (rdPart w).1.2.1 (rdPart w).1.2.2 [(Str.ofString "left", c)] .none .none doc pm none cd ctv
/-- what stands of the stream's reader -/
structure Rdr (w : World) (B : Heap) (fr c l : Addr) : Prop where
  fn : ∃ doc pm cd ctv, B.get? fr = some { cls := .type "function", data := .func (fdRd w c doc pm cd ctv) } ∧ B.CodeRec cd rdQual
  cell : ∃ o, B.get? c = some o ∧ o.data = .cell (some (.ref l))
theorem Rdr.ext {w : World} {B B' : Heap} {fr c l : Addr} (h : Rdr w B fr c l) (e : Ext B B') : Rdr w B' fr c l :=
  ⟨let ⟨a, b, cc, d, h1, h2⟩ := h.fn; ⟨a, b, cc, d, e _ _ h1, h2.keeps e⟩, let ⟨o, h1, h2⟩ := h.cell; ⟨o, e _ _ h1, h2⟩⟩
section
variable {w : World} {X : List Addr} {L : Addr} {T M : List (Addr × Obj)} {B₀ h₀ B h : Heap} {m : Str → Option Value}
/-- a call of a def that the call itself has made -/
theorem call_defB {k : Nat} {A : Around} {s : Shared} {tk : Nat} {f : Addr} {o : Obj} {fd : FuncData} {body : List Stmt} {vs : List Value} {binds : List (Str × Value)} {Q E : Value → Shared → Prop} (ok : Ok (k + 1) A) (hb : Bs w B) (a : At X L (T ++ M) B₀ h₀ m B h) (ho : B.get? f = some o) (hod : o.data = .func fd) (hc : B.CodeRec fd.code fd.qualname) (hbody : fd.body = .stmts body)
    (hbind : BindsTo (St s h tk) fd ⟨vs, []⟩ binds) (hcell : (fd.scope.names.all fun x => decide (x.2 ≠ .cell)) = true) (hloc : ((binds.map (·.1)).all fun x => decide (fd.scope.names.lookup x = some .local)) = true)
    (hw : ∀ L' h₁ E', At (T.map (·.1)) L' T B h (fun x => binds.reverse.lookup x) B h₁ → Wx w (A.deeper (callEnv fd L' f)) (execs body (callEnv fd L' f)) (fun fl s' => Q (match fl with | .ret v => v | _ => .none) s') E' (St s h₁ (tk + binds.length)))
    (hco : fd.scope.isCoroutine = false := by kernel_rfl) (hgen : fd.scope.isGenerator = false := by kernel_rfl) (hk : fd.scope.kind = .function := by kernel_rfl) : wpAny (model Pr w) A (call (.ref f) vs) Q E (St s h tk) := by
  refine wpAny_call (codeAny_call_def (s := St s h tk) (fd := fd) (body := body) (binds := binds) ok.room (a.bh _ _ ho) hod (hb.lim.keeps a.bh) (hc.keeps a.bh) hbody hbind (fun x hx => of_decide_eq_true (List.all_eq_true.mp hcell x hx)) (fun x hx => of_decide_eq_true (List.all_eq_true.mp hloc x.1 (List.mem_map_of_mem hx))) (fun h₁ hns hk₁ => ?_) hco hgen hk)
  exact wpAny_mono (xw (hw h.objs.size h₁ _ (a.enter rfl hns hk₁))) (fun fl s' q => q) fun _ _ q => q
/-- a free name, its cell in the standing part -/
theorem ev_free {env : Env} {A : Around} {s : Shared} {E : Value → Shared → Prop} {x : Str} {px : Pos} {c : Addr} {v : Value} {Q : Value → Shared → Prop} (eb : Ext B s.heap) (hc : env.cells.lookup x = some c) (hv : ∃ o, B.get? c = some o ∧ o.data = .cell (some v)) (q : Q v s)
    (hl : env.kindOf x = some .free := by kernel_rfl) (hk : env.scope.kind = .function := by kernel_rfl) (hd : (x == ("__debug__" : Str)) = false := by kernel_rfl) (hn : (x == ("__classdict__" : Str)) = false := by kernel_rfl) : wpAny (model Pr w) A (eval (.Name x px) env) Q E s :=
  wpAny_Name (wpAny_loadName_free hk hl hc (let ⟨o, h1, h2⟩ := hv; ⟨o, eb _ _ h1, h2⟩) q hn) hd
noncomputable def lisOb (it : Array Value) (ep : Nat) : Obj := { cls := .type "list", data := .seq it ep }
/-- l[lo:hi] = [] of a plain list -/
theorem si_list {A : Around} {s : Shared} {tk : Nat} {E : Value → Shared → Prop} {l sl e : Addr} {it : Array Value} {ep : Nat} {vl vu : Value} {lo hi : Option Int} {oe : Obj} {ne : Nat} {Q : Unit → Shared → Prop} (hb : Bs w B) (a : At X L ((l, lisOb it ep) :: M) B₀ h₀ m B h) (hm : (sl, sliOb vl vu) ∈ M) (he : B.get? e = some oe) (hec : oe.cls = .type "list") (hed : oe.data = .seq #[] ne) (pl : IsPart vl lo) (pu : IsPart vu hi) (hz : it.size ≤ sizeLine)
    (q : ∀ h' ep', At X L ((l, lisOb (sliceOut it lo hi) ep') :: M) B₀ h₀ m B h' → Q () (St s h' tk)) : wpAny (model Pr w) A (setItem (.ref l) (.ref sl) (.ref e)) Q E (St s h tk) := by
  have hpe : l ≠ e := fun x => by
    have := (a.offM (l, _) (.head _)).1
    rw [show (l, lisOb it ep).1 = e from x, he] at this
    cases this
  unfold setItem
  refine wpAny_holding (wpAny_bind (run_look (T := [(l, lisOb it ep)]) (v := .ref sl) (tk' := tk) 3 [.t 0] hb a (by kernel_rfl) fun h1 a1 => ?_))
  refine wpAny_bind ?_
  unfold callSpecial?
  refine wpAny_bind (run_look (T := [(l, lisOb it ep)]) (v := some (.builtin "list.__setitem__")) (tk' := tk) 3 [.t 0] hb a1 (by kernel_rfl) fun h2 a2 => ?_)
  have e2 : bindSpecial (.builtin "list.__setitem__") (.ref l) = pure (.builtin "list.__setitem__", [.ref l]) := by kernel_rfl
  refine wpAny_holding (wpAny_bind (wpAny_of_eq e2 ?_))
  refine wpAny_bind (call_bi (T := [(l, lisOb it ep)]) (b := Builtin.«list.__setitem__») 3 [.t 0] hb a2 (by kernel_rfl) (by kernel_rfl) (by kernel_rfl) fun h3 a3 => ?_)
  exact body_setslice (c := .type "list") (d := none) a3 (a3.own (sl, _) (.tail _ hm)) (a3.bh _ _ he) hec hed hpe pl pu hz fun h4 ep4 a4 => wpAny_pure (wpAny_pure (q h4 ep4 a4))
end
theorem ints_of {B : Heap} : ∀ {vs : List Value} {ns : List Int}, RdAll B vs (ns.map .int) → IntsAre vs ns
  | _, [], r => by rw [r.nil_inv]; exact .nil
  | _, n :: ns, r => by
    obtain ⟨v, vs', rfl, rv, r'⟩ := RdAll.cons_inv (by simpa using r)
    obtain ⟨t, rfl⟩ := rv.int_inv
    exact .cons _ _ (ints_of r')
set_option maxHeartbeats 1000000 in
theorem rd_ok {w : World} {k : Nat} {A : Around} {s : Shared} {h : Heap} {tk : Nat} {E Q : Value → Shared → Prop} {X : List Addr} {L : Addr} {M : List (Addr × Obj)} {B₀ h₀ B : Heap} {m : Str → Option Value} {fr c l : Addr} {it : Array Value} {ep n : Nat} {v : Value} {ns : List Int}
    (ok : Ok (k + 1) A) (hb : Bs w B) (rdr : Rdr w B fr c l) (a : At X L ((l, lisOb it ep) :: M) B₀ h₀ m B h) (hz : it.size ≤ sizeLine) (rv : Rd B v (.int n)) (rd : RdAll B it.toList (ns.map .int)) (hr : ∀ x ∈ ns, 0 ≤ x ∧ x < 256)
    (q : ∀ B' h' tk' ep' t, At X L ((l, lisOb (it.toList.drop n).toArray ep') :: M) B₀ h₀ m B' h' → Ext B B' → Q (.bytes (byteArr (ns.take n)) t) (St s h' tk')) : wpAny (model Pr w) A (call (.ref fr) [v]) Q E (St s h tk) := by
  obtain ⟨doc, pm, cd, ctv, hfn, hcd⟩ := rdr.fn
  refine call_defB (T := [(l, lisOb it ep)]) (fd := fdRd w c doc pm cd ctv) (body := (rdPart w).1.2.1) ok hb a hfn rfl hcd rfl (BindsTo.of_eq (binds := [(Str.ofString "count", v)]) (by kernel_rfl)) (by kernel_rfl) (by kernel_rfl) (fun L' h₁ E' a1 => ?_)
  have ok' := ok.deeper (callEnv (fdRd w c doc pm cd ctv) L' fr)
  generalize hA : A.deeper (callEnv (fdRd w c doc pm cd ctv) L' fr) = A' at ok'
  have hs : (fun x => List.lookup x [(Str.ofString "count", v)].reverse) (Str.ofString "count") = some v := by rfl
  generalize hm : (fun x => List.lookup x [(Str.ofString "count", v)].reverse) = m1 at a1 hs
  have hcl : ∀ L', (callEnv (fdRd w c doc pm cd ctv) L' fr).cells.lookup (Str.ofString "left") = some c := fun L' => by kernel_rfl
  have hlen : it.size = ns.length := by have := rd.length; simpa using this
  refine x_seq (x_assignR (X := [(l, lisOb it ep)].map (·.1)) (B₀ := B) (h₀ := h) (m := m1) (wpAny_Subscript_list_slice (ev_free a1.bh (hcl L') rdr.cell (wpAny_evalPart_none (wpAny_evalPart_some ((pe_local (w := w) (k := k) (m := m1) (cs := [(l, lisOb it ep)]) hs rv).run A' _ _ _ ok' a1.bh a1.fm fun y B2 h2 t2 s2 r2 => ?_))))))
  obtain ⟨tt, rfl⟩ := r2.int_inv
  have a2 := a1.step s2
  refine ⟨l, it, none, some n, rfl, ⟨_, a2.own (l, _) (.head _), rfl, ep, rfl⟩, hz, .none, part_int, ?_⟩
  obtain ⟨B3, s3, _⟩ := step_push { cls := .type "slice", data := .fields #[.none, .int n tt, .none] } a2.bh rfl
  obtain ⟨B4, s4, g4⟩ := step_push { cls := .type "list", data := .seq (slicePick it none (some n) none) } s3.bh rfl
  rw [Heap.size_push] at g4
  refine ⟨_, B4, _, _, rfl, (a2.step s3).step s4, fun h5 a5 t5 => ?_⟩
  have e4 : Ext B B4 := (s2.bb.trans s3.bb).trans s4.bb
  have ht : B4.IsList (h2.objs.size + 1) (it.toList.take n).toArray := ⟨_, g4, rfl, 0, by
    have := slicePick_upto' it n
    simpa using this⟩
  have rt : RdAll B4 (it.toList.take n) ((ns.take n).map .int) := by
    have := (rd.take n).ext e4
    simpa using this
  refine x_seq (wx (wpAny_Assign_Subscript ((pe_list (w := w) (k := k) (J := Fm (callEnv (fdRd w c doc pm cd ctv) L' fr) _ [(l, lisOb it ep)]) pes_nil).run A' (St s h5 t5) _ _ ok' a5.bh a5.fm fun ve B6 h6 t6 s6 r6 => ?_) (by kernel_rfl)))
  have a6 := a5.step s6
  have e6 := e4.trans s6.bb
  refine ev_free a6.bh (hcl L') (rdr.ext e6).cell ?_
  refine wpAny_Slice (wpAny_evalPart_none (wpAny_evalPart_some ((pe_local (w := w) (k := k) (cs := [(l, lisOb it ep)]) (upd_ne hs) (rv.ext e6)).run A' (St s h6 t6) _ _ ok' a6.bh a6.fm fun y B7 h7 t7 s7 r7 => ?_)))
  rw [evalPart_none]
  refine wpAny_pure ?_
  obtain ⟨tt7, rfl⟩ := r7.int_inv
  obtain ⟨le, vs, rfl, hle, ra⟩ := (r6.ext s7.bb).list_inv
  have hv : vs = [] := ra.nil_inv
  subst hv
  obtain ⟨oe, he, hec, ne, hed⟩ := hle
  have a7 := (a6.step s7).new (sliOb .none (.int n tt7))
  generalize hsl : h7.objs.size = sl at a7
  have e7 := e6.trans s7.bb
  refine si_list (s := s) (tk := t7) (hb.ext e7) a7.swap (.head _) he hec hed .none part_int hz fun h8 ep8 a8 => ?_
  rw [sliceOut_upto] at a8
  have a8' := a8.drop (List.Sublist.cons_cons _ (List.Sublist.cons _ (List.Sublist.refl _)))
  refine x_seq (wx (wpAny_Return_some (wpAny_Call_NameR (ldr_bi (v := .type "bytes") (hb.ext e7) a8'.bh (by kernel_rfl) (by kernel_rfl) ?_ (by kernel_rfl) (by kernel_rfl) (by kernel_rfl) (by kernel_rfl)))))
  refine PyProof.Rows.callWith_type1 (spliced_more (ev_local a8' upd_self (spliced_nil ?_) (by kernel_rfl) (by kernel_rfl) (by kernel_rfl)) (by kernel_rfl)) (by kernel_rfl) (by kernel_rfl)
  have e47 := s6.bb.trans s7.bb
  refine call_bytes_ints (s := St s h8 t7) (vs := it.toList.take n) (ns := ns.take n) (ht.at fun o e => a8'.bh _ _ (e47 _ _ e)) (ints_of rt) (fun x hx => hr x (List.mem_of_mem_take hx)) (by simp; omega) ok'.handled fun h9 t9 k9 hk9 => ?_
  have a9 := a8'.more (h' := h9) hk9
  exact q B7 h9 k9 ep8 t9 (At.back (T := [(l, lisOb it ep)]) (T' := [(l, lisOb (it.toList.drop n).toArray ep8)]) (M' := []) a a9 rfl) e7
end Mine
end
section
open PySem PySem.W PyProof.Rows PySem.Calls
set_option Elab.async false
set_option maxRecDepth 100000
set_option linter.unusedVariables false
set_option linter.unusedSimpArgs false
namespace Mine
/-- the same things, up to what a raise writes into frames -/
noncomputable def SameG (G G' : List (Addr × Obj)) : Prop := G'.map (·.1) = G.map (·.1) ∧ G'.map (·.2.data) = G.map (·.2.data)
theorem SameG.refl (G : List (Addr × Obj)) : SameG G G := ⟨rfl, rfl⟩
theorem SameG.trans {G G' G'' : List (Addr × Obj)} (a : SameG G G') (b : SameG G' G'') : SameG G G'' := ⟨b.1.trans a.1, b.2.trans a.2⟩
theorem SameG.cons_inv {p : Addr × Obj} {G G' : List (Addr × Obj)} (a : SameG (p :: G) G') : ∃ o G₁, G' = (p.1, o) :: G₁ ∧ o.data = p.2.data ∧ SameG G G₁ := by
  cases G' with
  | nil => exact absurd a.1 (by simp)
  | cons q G₁ =>
    obtain ⟨h1, h2⟩ := a
    simp only [List.map_cons, List.cons.injEq] at h1 h2
    exact ⟨q.2, G₁, by rw [← h1.1], h2.1, h1.2, h2.2⟩
theorem SameG.nil_inv {G' : List (Addr × Obj)} (a : SameG [] G') : G' = [] := by simpa using a.1
section
variable {X : List Addr} {L : Addr} {T M G : List (Addr × Obj)} {B₀ h₀ B h : Heap} {m : Str → Option Value}
/-- a frame begins that holds its caller's frame too -/
theorem At.enterL {L' : Addr} {oL : Obj} {m' : Str → Option Value} {h₁ : Heap} (a : At X L (T ++ M) B₀ h₀ m B h) (hoL : h.get? L = some oL) (hl : L' = h.objs.size) (hns : h₁.Ns L' m') (hk : Ext h h₁) : At (L :: T.map (·.1)) L' ((L, oL) :: T) B h m' B h₁ := by
  have b := a.enter hl hns hk
  refine ⟨b.ns, fun p hp => ?_, b.offL, b.newL, fun p hp => ?_, ?_, b.bh, b.bb, fun x o hx e => hk x o e, b.sz, b.fresh⟩
  · rcases List.mem_cons.mp hp with rfl | hp
    · exact hk _ _ hoL
    · exact b.own p hp
  · rcases List.mem_cons.mp hp with rfl | hp
    · exact ⟨a.offL, by rw [hl]; exact Nat.ne_of_lt a.ltL, .inl (.head _)⟩
    · have := b.offM p hp
      exact ⟨this.1, this.2.1, this.2.2.elim (fun q => .inl (.tail _ q)) .inr⟩
  · refine List.nodup_cons.mpr ⟨fun hm => ?_, b.nd⟩
    obtain ⟨q, hq, e⟩ := List.mem_map.mp hm
    exact (a.offM q (List.mem_append_left _ hq)).2.1 e
theorem At.backL {L' : Addr} {oL oL' : Obj} {T' M' : List (Addr × Obj)} {m' : Str → Option Value} {B' h' : Heap} (a : At X L (T ++ M) B₀ h₀ m B h) (hoL : h.get? L = some oL) (b : At (L :: T.map (·.1)) L' ((L, oL') :: T' ++ M') B h m' B' h') (hd : oL'.data = oL.data) (e : T'.map (·.1) = T.map (·.1)) : At X L (T' ++ M) B₀ h₀ m B' h' := by
  have nd := a.nd
  rw [List.map_append] at nd
  have ndp := List.nodup_append.mp nd
  have inT : ∀ x ∈ T.map (·.1), ∃ q ∈ T, q.1 = x := fun x hm => by obtain ⟨q, hq, e⟩ := List.mem_map.mp hm; exact ⟨q, hq, e⟩
  have offN : ∀ x, x < h.objs.size → B.get? x = none → B'.get? x = none := fun x hx hn => by
    cases e : B'.get? x with
    | none => rfl
    | some o =>
      rcases b.fresh x o e with c | c
      · rw [hn] at c; cases c
      · exact absurd hx (Nat.not_lt.mpr c)
  refine ⟨?_, fun q hq => ?_, offN _ a.ltL a.offL, a.newL, fun q hq => ?_, by rw [List.map_append, e]; exact nd, b.bh, a.bb.trans b.bb, fun x o hx ex => ?_, Nat.le_trans a.sz b.sz, fun x o ex => ?_⟩
  · obtain ⟨o, es, ep, ho, hdd, rest⟩ := a.ns
    rw [hoL] at ho
    cases ho
    exact ⟨oL', es, ep, b.own (L, oL') (.head _), hd.trans hdd, rest⟩
  · rcases List.mem_append.mp hq with hq | hq
    · exact b.own q (.tail _ (List.mem_append_left _ hq))
    · refine b.kp _ _ (fun hm => ?_) (a.own q (List.mem_append_right _ hq))
      rcases List.mem_cons.mp hm with h1 | h1
      · exact (a.offM q (List.mem_append_right _ hq)).2.1 h1
      · exact ndp.2.2 _ h1 _ (List.mem_map_of_mem hq) rfl
  · rcases List.mem_append.mp hq with hq | hq
    · obtain ⟨x, hx, ex⟩ := inT q.1 (e ▸ List.mem_map_of_mem hq)
      have := a.offM x (List.mem_append_left _ hx)
      rw [ex] at this
      exact ⟨(b.offM q (.tail _ (List.mem_append_left _ hq))).1, this.2⟩
    · have := a.offM q (List.mem_append_right _ hq)
      exact ⟨offN _ (Heap.lt_size (a.own q (List.mem_append_right _ hq))) this.1, this.2⟩
  · refine b.kp _ _ (fun hm => ?_) (a.kp x o hx ex)
    rcases List.mem_cons.mp hm with h1 | h1
    · subst h1; exact Nat.lt_irrefl _ (Nat.lt_of_lt_of_le (Heap.lt_size ex) a.newL)
    · obtain ⟨q, hq, eq⟩ := inT _ h1
      rcases (a.offM q (List.mem_append_left _ hq)).2.2 with c | c
      · rw [eq] at c; exact hx c
      · rw [eq] at c; exact Nat.lt_irrefl _ (Nat.lt_of_lt_of_le (Heap.lt_size ex) c)
  · rcases b.fresh x o ex with c | c
    · exact a.fresh x o c
    · exact .inr (Nat.le_trans a.sz c)

/-- the frames around: all of them among these places -/
noncomputable def FrOk (Ls : List Addr) (fs : List Env) : Prop := ∀ env ∈ fs, env.scope.kind ≠ .module ∧ ∃ F, env.frame = some F ∧ F ∈ Ls
noncomputable def Plain (G : List (Addr × Obj)) : Prop := ∀ p ∈ G, ∀ vs, p.2.data ≠ .fields vs
theorem Plain.same {G G' : List (Addr × Obj)} (h : Plain G) (e : SameG G G') : Plain G' := by
  intro p hp vs hd
  have : p.2.data ∈ G'.map (·.2.data) := List.mem_map_of_mem hp
  rw [e.2] at this
  obtain ⟨q, hq, eq⟩ := List.mem_map.mp this
  exact h q hq vs (eq.trans hd)
/-- an error in flight: G the outer frames' places, M the rest -/
structure Fly (X : List Addr) (L : Addr) (G M : List (Addr × Obj)) (B₀ h₀ : Heap) (m : Str → Option Value) (B base : Heap) (fs : List Env) (e : Addr) (msg : Str) (h : Heap) : Prop where
  at_ : ∃ G', SameG G G' ∧ At X L (G' ++ M) B₀ h₀ m B h
  bB : Ext B base
  bM : ∀ p ∈ M, base.get? p.1 = some p.2
  b0 : ∀ b o, b ∉ X → h₀.get? b = some o → base.get? b = some o
  bL : base.get? L = none ∧ ∀ p ∈ G, base.get? p.1 = none
  fl : ∃ t tk, Heap.FlyingW base fs e (.type "ValueError") (.ref t) h ∧ h.TupAt t [.str msg tk]
/-- the heap moves on, the frames up to slots -/
theorem At.slots {G' : List (Addr × Obj)} {base h' : Heap} (a : At X L (G ++ M) B₀ h₀ m B h) (pl : Plain G) (bB : Ext B base) (bM : ∀ p ∈ M, base.get? p.1 = some p.2) (b0 : ∀ b o, b ∉ X → h₀.get? b = some o → base.get? b = some o) (st : base.StaysIn h') (u : h.UpToSlots h') : ∃ G', SameG G G' ∧ At X L (G' ++ M) B₀ h₀ m B h' := by
  have hG : ∀ p ∈ G, ∃ sl, h'.get? p.1 = some { p.2 with slots := sl } := fun p hp => u p.1 p.2 (a.own p (List.mem_append_left _ hp)) (pl p hp)
  have e1 : (G.map fun p => (p.1, (h'.get? p.1).getD p.2)).map (·.1) = G.map (·.1) := by simp
  have e2 : (G.map fun p => (p.1, (h'.get? p.1).getD p.2)).map (·.2.data) = G.map (·.2.data) := by
    simp only [List.map_map]
    apply List.map_congr_left
    intro p hp
    obtain ⟨sl, e⟩ := hG p hp
    simp [e]
  refine ⟨G.map fun p => (p.1, (h'.get? p.1).getD p.2), ⟨e1, e2⟩, u.ns a.ns, fun p hp => ?_, a.offL, a.newL, fun p hp => ?_, ?_, fun b o e => st b o (bB b o e), a.bb, fun b o hx e => st b o (b0 b o hx e), ?_, a.fresh⟩
  · rcases List.mem_append.mp hp with hp | hp
    · obtain ⟨q, hq, rfl⟩ := List.mem_map.mp hp
      obtain ⟨sl, e⟩ := hG q hq
      simp [e]
    · exact st _ _ (bM p hp)
  · rcases List.mem_append.mp hp with hp | hp
    · obtain ⟨q, hq, rfl⟩ := List.mem_map.mp hp
      exact a.offM q (List.mem_append_left _ hq)
    · exact a.offM p (List.mem_append_right _ hp)
  · rw [List.map_append, e1, ← List.map_append]; exact a.nd
  · exact Nat.le_of_lt (Nat.lt_of_le_of_lt a.newL (u.ns a.ns).lt)
theorem Fly.move {base h' : Heap} {fs fs' : List Env} {e : Addr} {msg : Str} (f : Fly X L G M B₀ h₀ m B base fs e msg h) (pl : Plain G) (u : h.UpToSlots h') (hf : ∀ t, Heap.FlyingW base fs e (.type "ValueError") (.ref t) h → Heap.FlyingW base fs' e (.type "ValueError") (.ref t) h') : Fly X L G M B₀ h₀ m B base fs' e msg h' := by
  obtain ⟨G', sg, a⟩ := f.at_
  obtain ⟨t, tk, hfl, htp⟩ := f.fl
  have hfl' := hf t hfl
  obtain ⟨G'', sg', a'⟩ := At.slots (G' := []) a (pl.same sg) f.bB f.bM f.b0 hfl'.1 u
  exact ⟨⟨G'', sg.trans sg', a'⟩, f.bB, f.bM, f.b0, f.bL, t, tk, hfl', htp.of_slots u⟩
theorem funFrames_of {base h : Heap} {Ls : List Addr} : ∀ {fs : List Env}, FrOk Ls fs → (∀ x ∈ Ls, base.get? x = none ∧ ∃ o, h.get? x = some o ∧ ∀ vs, o.data ≠ .fields vs) → h.FunFrames base fs
  | [], _, _ => trivial
  | env :: fs, hf, hl => by
    obtain ⟨h1, F, h2, h3⟩ := hf env (.head _)
    obtain ⟨h4, o, h5, h6⟩ := hl F h3
    exact ⟨h1, ⟨F, o, h2, h4, h5, h6⟩, funFrames_of (fun e he => hf e (.tail _ he)) hl⟩
/-- an error is born in a frame and leaves it -/
theorem fly_first {w : World} {A : Around} {s : Shared} {tk : Nat} {env : Env} {fs : List Env} {e : Addr} {h₁ : Heap} {msg : Str} {tm : Tok} {Q : Unit → Shared → Prop} {E : Value → Shared → Prop} (a : At X L (G ++ M) B₀ h₀ m B h) (pl : Plain G) (hfr : A.frames = some (env :: fs)) (hf : env.frame = some L) (hok : FrOk (L :: G.map (·.1)) (env :: fs)) (hx : Heap.MadeExcOf h h₁ e (.type "ValueError") [.str msg tm])
    (hX : ∀ p ∈ G, p.1 ∈ X)
    (q : ∀ base h', Fly X L G M B₀ h₀ m B base fs e msg h' → Q () (St s h' tk)) : wpAny (model Pr w) A (leaving env (.ref e)) Q E (St s h₁ tk) := by
  have nd := a.nd
  rw [List.map_append] at nd
  have ndp := List.nodup_append.mp nd
  let base : Heap := only h fun x => decide (x ∉ L :: G.map (·.1))
  have bget : ∀ x, x ∉ L :: G.map (·.1) → base.get? x = h.get? x := fun x hx => by rw [only_get]; simp [decide_eq_true hx]
  have bnone : ∀ x, x ∈ L :: G.map (·.1) → base.get? x = none := fun x hx => by
    rw [only_get]
    have : decide (x ∉ L :: G.map (·.1)) = false := decide_eq_false (fun c => c hx)
    rw [this]; rfl
  have bst : base.StaysIn h := fun b o eb => by
    rw [only_get] at eb
    split at eb
    · exact eb
    · cases eb
  have bB : Ext B base := fun b o eb => by
    rw [bget b fun hm => ?_]
    · exact a.bh b o eb
    · rcases List.mem_cons.mp hm with h1 | h1
      · rw [h1, a.offL] at eb; cases eb
      · obtain ⟨p, hp, e1⟩ := List.mem_map.mp h1
        rw [← e1, (a.offM p (List.mem_append_left _ hp)).1] at eb; cases eb
  have bM : ∀ p ∈ M, base.get? p.1 = some p.2 := fun p hp => by
    rw [bget _ fun hm => ?_]
    · exact a.own p (List.mem_append_right _ hp)
    · rcases List.mem_cons.mp hm with h1 | h1
      · exact (a.offM p (List.mem_append_right _ hp)).2.1 h1
      · exact ndp.2.2 _ h1 _ (List.mem_map_of_mem hp) rfl
  have b0 : ∀ b o, b ∉ X → h₀.get? b = some o → base.get? b = some o := fun b o hb eb => by
    rw [bget _ fun hm => ?_]
    · exact a.kp b o hb eb
    · rcases List.mem_cons.mp hm with h1 | h1
      · rw [h1] at eb; exact Nat.lt_irrefl _ (Nat.lt_of_lt_of_le (Heap.lt_size eb) a.newL)
      · obtain ⟨p, hp, e1⟩ := List.mem_map.mp h1
        exact hb (e1 ▸ hX p hp)
  have hff : h.FunFrames base (env :: fs) := funFrames_of hok fun x hm => ⟨bnone x hm, by
    rcases List.mem_cons.mp hm with h1 | h1
    · obtain ⟨o, es, ep, ho, hd, _⟩ := a.ns
      exact ⟨o, h1 ▸ ho, fun vs c => by rw [hd] at c; cases c⟩
    · obtain ⟨p, hp, e1⟩ := List.mem_map.mp h1
      exact ⟨p.2, e1 ▸ a.own p (List.mem_append_left _ hp), pl p hp⟩⟩
  refine wpAny_leaves_madeW (s := St s h₁ tk) (base := base) hfr hf bst hff hx fun h' t hfl htp _ u => ?_
  have a1 := a.more (h' := h₁) hx.keeps
  obtain ⟨G', sg, a'⟩ := At.slots (G' := []) a1 pl bB bM b0 hfl.1 u
  exact q base h' ⟨⟨G', sg, a'⟩, bB, bM, b0, ⟨bnone _ (.head _), fun p hp => bnone _ (.tail _ (List.mem_map_of_mem hp))⟩, t, tm, hfl, htp⟩
/-- it leaves one more frame -/
theorem fly_on {w : World} {A : Around} {s : Shared} {tk : Nat} {env : Env} {fs : List Env} {e : Addr} {base : Heap} {msg : Str} {Q : Unit → Shared → Prop} {E : Value → Shared → Prop} (f : Fly X L G M B₀ h₀ m B base (env :: fs) e msg h) (pl : Plain G) (hfr : A.frames = some (env :: fs)) (hf : env.frame = some L)
    (q : ∀ h', Fly X L G M B₀ h₀ m B base fs e msg h' → Q () (St s h' tk)) : wpAny (model Pr w) A (leaving env (.ref e)) Q E (St s h tk) := by
  obtain ⟨t, tm, hfl, htp⟩ := f.fl
  refine wpAny_leaves_onW (s := St s h tk) hfr hf hfl fun h' hfl' u => q h' ?_
  obtain ⟨G', sg, a⟩ := f.at_
  obtain ⟨G'', sg', a'⟩ := At.slots (G' := []) a (pl.same sg) f.bB f.bM f.b0 hfl'.1 u
  exact ⟨⟨G'', sg.trans sg', a'⟩, f.bB, f.bM, f.b0, f.bL, t, tm, hfl', htp.of_slots u⟩
/-- as the caller sees it; the caller handed its own frame and T over, Gr of them frames -/
theorem Fly.back {L' e : Addr} {oL : Obj} {Gr Tr Tr' M' : List (Addr × Obj)} {m' : Str → Option Value} {B' base h' : Heap} {fs : List Env} {msg : Str} (a : At X L ((Gr ++ Tr) ++ M) B₀ h₀ m B h) (hoL : h.get? L = some oL) (f : Fly (L :: (Gr ++ Tr).map (·.1)) L' ((L, oL) :: Gr) (Tr' ++ M') B h m' B' base fs e msg h') (et : Tr'.map (·.1) = Tr.map (·.1)) : Fly X L Gr (Tr' ++ M) B₀ h₀ m B' base fs e msg h' := by
  obtain ⟨G', sg, b⟩ := f.at_
  obtain ⟨oL', G₁, rfl, hd, sg₁⟩ := sg.cons_inv
  have nd := a.nd
  rw [List.map_append] at nd
  have ndp := List.nodup_append.mp nd
  have hT : (G₁ ++ Tr').map (·.1) = (Gr ++ Tr).map (·.1) := by rw [List.map_append, List.map_append, sg₁.1, et]
  have b' : At (L :: (Gr ++ Tr).map (·.1)) L' ((L, oL') :: (G₁ ++ Tr') ++ M') B h m' B' h' := by
    have : (L, oL') :: G₁ ++ (Tr' ++ M') = (L, oL') :: (G₁ ++ Tr') ++ M' := by simp
    exact this ▸ b
  have c := At.backL a hoL b' hd hT
  refine ⟨⟨G₁, sg₁, by rw [← List.append_assoc]; exact c⟩, f.bB, fun p hp => ?_, fun x o hx ex => ?_, ⟨f.bL.2 (L, oL) (.head _), fun p hp => f.bL.2 p (.tail _ hp)⟩, f.fl⟩
  · rcases List.mem_append.mp hp with hp | hp
    · exact f.bM p (List.mem_append_left _ hp)
    · refine f.b0 _ _ (fun hm => ?_) (a.own p (List.mem_append_right _ hp))
      rcases List.mem_cons.mp hm with h1 | h1
      · exact (a.offM p (List.mem_append_right _ hp)).2.1 h1
      · exact ndp.2.2 _ h1 _ (List.mem_map_of_mem hp) rfl
  · refine f.b0 _ _ (fun hm => ?_) (a.kp x o hx ex)
    rcases List.mem_cons.mp hm with h1 | h1
    · subst h1; exact Nat.lt_irrefl _ (Nat.lt_of_lt_of_le (Heap.lt_size ex) a.newL)
    · obtain ⟨q, hq, eq⟩ := List.mem_map.mp h1
      rcases (a.offM q (List.mem_append_left _ hq)).2.2 with c | c
      · rw [eq] at c; exact hx c
      · rw [eq] at c; exact Nat.lt_irrefl _ (Nat.lt_of_lt_of_le (Heap.lt_size ex) c)
end
end Mine
end
section
open PySem PySem.W PyProof.Rows PySem.Calls
open PySem.W.KBw (bInts)
set_option Elab.async false
set_option maxRecDepth 100000
set_option linter.unusedVariables false
set_option linter.unusedSimpArgs false
namespace Mine
theorem FrOk.cons {Ls : List Addr} {fs : List Env} {env : Env} {L' : Addr} (h : FrOk Ls fs) (hk : env.scope.kind = .function) (hf : env.frame = some L') : FrOk (L' :: Ls) (env :: fs) := by
  intro e he
  rcases List.mem_cons.mp he with rfl | he
  · exact ⟨fun c => (by rw [hk] at c; cases c), L', hf, .head _⟩
  · obtain ⟨h1, F, h2, h3⟩ := h e he
    exact ⟨h1, F, h2, .tail _ h3⟩
/-- the stream: a function with one attribute -/
noncomputable def Stm (B : Heap) (st fr : Addr) : Prop := ∃ dd fdl hs t, 156 ≤ st ∧ 156 ≤ dd ∧ st ≠ dd ∧ B.get? st = some ⟨.type "function", some dd, .func fdl, #[]⟩ ∧ B.get? dd = some (dicOb #[⟨hs, .str "read" t, .ref fr⟩] 1)
theorem Stm.ext {B B' : Heap} {st fr : Addr} (h : Stm B st fr) (e : Ext B B') : Stm B' st fr := let ⟨a, b, c, d, h1, h2, h3, h4, h5⟩ := h; ⟨a, b, c, d, h1, h2, h3, e _ _ h4, e _ _ h5⟩
section
variable {w : World} {X : List Addr} {L : Addr} {T M : List (Addr × Obj)} {B₀ h₀ B h : Heap} {m : Str → Option Value}
theorem call_defL {k : Nat} {A : Around} {s : Shared} {tk : Nat} {oL : Obj} {f : Addr} {fd : FuncData} {body : List Stmt} {vs : List Value} {binds : List (Str × Value)} {Q E : Value → Shared → Prop} (ok : Ok (k + 1) A) (hb : Bs w B) (a : At X L (T ++ M) B₀ h₀ m B h) (hoL : h.get? L = some oL) (ho : ∃ c d s, (Kf w).lookup f = some ⟨c, d, .func fd, s⟩) (hc : codeIn (Kf w) fd.code fd.qualname = true) (hbody : fd.body = .stmts body)
    (hbind : BindsTo (St s h tk) fd ⟨vs, []⟩ binds) (hcell : (fd.scope.names.all fun x => decide (x.2 ≠ .cell)) = true) (hloc : ((binds.map (·.1)).all fun x => decide (fd.scope.names.lookup x = some .local)) = true)
    (hw : ∀ L' h₁, At (L :: T.map (·.1)) L' ((L, oL) :: T) B h (fun x => binds.reverse.lookup x) B h₁ → Wx w (A.deeper (callEnv fd L' f)) (execs body (callEnv fd L' f)) (fun fl s' => Q (match fl with | .ret v => v | _ => .none) s')
      (fun e s' => wpAny (model Pr w) (A.deeper (callEnv fd L' f)) (leaving (callEnv fd L' f) e) (fun _ s'' => E e s'') (fun e' s'' => E e' s'') s') (St s h₁ (tk + binds.length)))
    (hco : fd.scope.isCoroutine = false := by kernel_rfl) (hgen : fd.scope.isGenerator = false := by kernel_rfl) (hk : fd.scope.kind = .function := by kernel_rfl) : wpAny (model Pr w) A (call (.ref f) vs) Q E (St s h tk) := by
  obtain ⟨oc, od, osl, ho⟩ := ho
  refine wpAny_call (codeAny_call_def (s := St s h tk) (fd := fd) (body := body) (binds := binds) ok.room (a.bh _ _ (hb.k _ _ ho)) rfl (hb.lim.keeps a.bh) (codeRec_of (hb.k.keeps a.bh) hc) hbody hbind (fun x hx => of_decide_eq_true (List.all_eq_true.mp hcell x hx)) (fun x hx => of_decide_eq_true (List.all_eq_true.mp hloc x.1 (List.mem_map_of_mem hx))) (fun h₁ hns hk₁ => ?_) hco hgen hk)
  exact wpAny_mono (xw (hw h.objs.size h₁ (a.enterL hoL rfl hns hk₁))) (fun fl s' q => q) fun _ _ q => q
/-- f.read(n) -/
theorem ev_read {k : Nat} {env : Env} {A : Around} {s : Shared} {tk : Nat} {E : Value → Shared → Prop} {x : Str} {px apos pos : Pos} {arg : Expr} {st fr c l : Addr} {it : Array Value} {ep n : Nat} {ns : List Int} {Q : Value → Shared → Prop}
    (ok : Ok (k + 1) A) (hb : Bs w B) (rdr : Rdr w B fr c l) (stm : Stm B st fr) (a : At X env.locals ((l, lisOb it ep) :: M) B₀ h₀ m B h) (hm : m x = some (.ref st)) (pn : PE w (k + 1) (Fm env m ((l, lisOb it ep) :: M)) env B arg (.int n)) (hz : it.size ≤ sizeLine) (rd : RdAll B it.toList (ns.map .int)) (hr : ∀ x ∈ ns, 0 ≤ x ∧ x < 256)
    (q : ∀ B' h' tk' ep' t, At X env.locals ((l, lisOb (it.toList.drop n).toArray ep') :: M) B₀ h₀ m B' h' → Ext B B' → Q (.bytes (byteArr (ns.take n)) t) (St s h' tk'))
    (hl : env.kindOf x = some .local := by kernel_rfl) (hk : env.scope.kind = .function := by kernel_rfl) (hd : (x == ("__debug__" : Str)) = false := by kernel_rfl)
    (hbase : attributeBase (.Name x px) (Str.ofString "read") env (eval (.Name x px) env) = eval (.Name x px) env := by rfl) (hline : (apos.endLine == pos.line) = true := by kernel_rfl) (hfew : methodCallForm ([arg].length + 0) (backTo pos (starEach [arg] env)) [] = true := by kernel_rfl)
    (he : starEach [arg] env = (false, eval arg env) :: starEach [] env := by kernel_rfl) : wpAny (model Pr w) A (eval (.Call (.Attribute (.Name x px) (Str.ofString "read") apos) [arg] [] pos) env) Q E (St s h tk) := by
  refine wp_method hbase hline hfew (ev_local a hm ?_ hl hk hd)
  obtain ⟨dd, fdl, hs, t, h1, h2, h3, h4, h5⟩ := stm
  obtain ⟨r, rfl⟩ : ∃ r, st = r + 156 := ⟨st - 156, (Nat.sub_add_cancel h1).symm⟩
  obtain ⟨u, rfl⟩ : ∃ u, dd = u + 156 := ⟨dd - 156, (Nat.sub_add_cancel h2).symm⟩
  refine run_readT (s := St s h tk) (T := [(r + 156, ⟨.type "function", some (u + 156), .func fdl, #[]⟩), (u + 156, dicOb #[⟨hs, .str "read" t, .ref fr⟩] 1)]) (v := (.ref fr, [])) 6 [.t 0, .t 0, .t 0, .t 0, .t 0, .t 0, .t 0, .t 0, .t 1] 1 hb a.bh ?_ ?_ ?_ (fun _ => by kernel_rfl) fun h' s1 => ?_
  · intro x hx
    simp only [List.mem_cons, List.not_mem_nil, or_false] at hx
    rcases hx with rfl | rfl
    · exact h1
    · exact h2
  · exact List.nodup_cons.mpr ⟨fun h => h3 (List.mem_singleton.mp h), List.nodup_cons.mpr ⟨List.not_mem_nil, .nil⟩⟩
  · intro x hx
    simp only [List.mem_cons, List.not_mem_nil, or_false] at hx
    rcases hx with rfl | rfl
    · exact a.bh _ _ h4
    · exact a.bh _ _ h5
  have a1 := a.step s1
  obtain ⟨doc, pm, cd, ctv, hfn, hcd⟩ := rdr.fn
  refine callWith_def (o := { cls := .type "function", data := .func (fdRd w c doc pm cd ctv) }) (fd := fdRd w c doc pm cd ctv) rfl ((pes_cons Fm.mono pn pes_nil he).run A _ _ E ok a1.bh a1.fm fun vs B2 h2 t2 s2 r2 => ?_) he
  obtain ⟨v, vs', rfl, rv, r2⟩ := r2.cons_inv
  rw [r2.nil_inv]
  have a2 := a1.step s2
  refine ⟨a2.bh _ _ (s2.bb _ _ hfn), rd_ok (hb := hb.ext s2.bb) (rdr := rdr.ext s2.bb) ok a2 hz rv (rd.ext s2.bb) hr fun B3 h3 t3 ep3 t a3 e3 => q B3 h3 t3 ep3 t a3 (s2.bb.trans e3)⟩
end
theorem u8_back {x : Int} (h0 : 0 ≤ x) (h1 : x < 256) : ((x.toNat.toUInt8.toNat : Nat) : Int) = x := by
  have : x.toNat.toUInt8.toNat = x.toNat % 256 := by simp
  rw [this]; omega
theorem bints_byteArr {ns : List Int} (hr : ∀ x ∈ ns, 0 ≤ x ∧ x < 256) : bInts (byteArr ns) = ns := by
  induction ns with
  | nil => rfl
  | cons x ns ih =>
    have h1 := hr x (.head _)
    have h2 := ih fun y hy => hr y (.tail _ hy)
    unfold bInts byteArr at h2 ⊢
    simp only [List.map_cons, List.map_map] at h2 ⊢
    rw [h2, u8_back h1.1 h1.2]
noncomputable def msg1 : Str := Str.ofString "not enough data in stream to read uint1"
set_option maxHeartbeats 1000000 in
theorem u1_ok {w : World} {k : Nat} {A : Around} {s : Shared} {h : Heap} {tk : Nat} {E Q : Value → Shared → Prop} {X : List Addr} {L : Addr} {Gr M : List (Addr × Obj)} {B₀ h₀ B : Heap} {m : Str → Option Value} {st fr c l : Addr} {it : Array Value} {ep : Nat} {ns : List Int} {fs : List Env}
    (ok : Ok (k + 2) A) (hb : Bs w B) (rdr : Rdr w B fr c l) (stm : Stm B st fr) (a : At X L ((Gr ++ [(l, lisOb it ep)]) ++ M) B₀ h₀ m B h) (pl : Plain Gr) (hfr : A.frames = some fs) (hok : FrOk (L :: Gr.map (·.1)) fs) (hz : it.size ≤ sizeLine) (rd : RdAll B it.toList (ns.map .int)) (hr : ∀ x ∈ ns, 0 ≤ x ∧ x < 256)
    (q1 : ∀ x rest, ns = x :: rest → ∀ B' h' tk' ep' t, At X L ((Gr ++ [(l, lisOb (it.toList.drop 1).toArray ep')]) ++ M) B₀ h₀ m B' h' → Ext B B' → Q (.int x t) (St s h' tk'))
    (q0 : ns = [] → ∀ B' base h' tk' ep' e, Fly X L Gr ([(l, lisOb (it.toList.drop 1).toArray ep')] ++ M) B₀ h₀ m B' base fs e msg1 h' → Ext B B' → E (.ref e) (St s h' tk')) : wpAny (model Pr w) A (call (.ref 112) [.ref st]) Q E (St s h tk) := by
  obtain ⟨oL, es, epL, hoL, hdL, _⟩ := a.ns
  refine call_defL (T := Gr ++ [(l, lisOb it ep)]) (fd := fdU1 w) ok hb a hoL (isU1 w) (by kernel_rfl) (by unfold fdU1; rfl) (BindsTo.of_eq (binds := [(Str.ofString "f", .ref st)]) (by kernel_rfl)) (by kernel_rfl) (by kernel_rfl) (fun L' h₁ a1 => ?_)
  have ok' : Ok (k + 1) _ := ok.deeper (callEnv (fdU1 w) L' 112)
  have hfr' : (A.deeper (callEnv (fdU1 w) L' 112)).frames = some (callEnv (fdU1 w) L' 112 :: fs) := by simp [Around.deeper, hfr]
  generalize hA : A.deeper (callEnv (fdU1 w) L' 112) = A' at ok' hfr'
  have hs : (fun x => List.lookup x [(Str.ofString "f", Value.ref st)].reverse) (Str.ofString "f") = some (.ref st) := by rfl
  generalize hm : (fun x => List.lookup x [(Str.ofString "f", Value.ref st)].reverse) = m1 at a1 hs
  have perm : ∀ o : Obj, ((l, o) :: ((L, oL) :: Gr)).Perm ((L, oL) :: (Gr ++ [(l, o)])) := fun o => (List.perm_append_singleton (l, o) ((L, oL) :: Gr)).symm
  have a1' : At (L :: (Gr ++ [(l, lisOb it ep)]).map (·.1)) (callEnv (fdU1 w) L' 112).locals ((l, lisOb it ep) :: ((L, oL) :: Gr)) B h m1 B h₁ := a1.perm (perm _)
  refine x_seq (x_assignR (X := L :: (Gr ++ [(l, lisOb it ep)]).map (·.1)) (B₀ := B) (h₀ := h) (m := m1) (ev_read (n := 1) ok' hb rdr stm a1' hs pe_int hz rd hr fun B2 h2 t2 ep2 tb a2 e2 => ⟨_, B2, h2, t2, rfl, a2, fun h3 a3 t3 => ?_⟩))
  cases ns with
  | nil =>
    refine x_seq (wx (wpAny_If (isTrue_plain (ev_local a3 upd_self ?_) (by rfl))))
    refine KBw.truthy_K (ks := []) (bints_byteArr (by simp)) (by simp) ?_
    show wpAny _ A' (execs [] _) _ _ _
    refine xw (x_nil ?_)
    refine x_seq (wx (wpAny_Raise_call PySem.F.excCall_ValueError PySem.F.excRaise_ValueError ok'.handled (by kernel_rfl) ?_))
    refine ldr_bi (v := .type "ValueError") (hb.ext e2) a3.bh (by kernel_rfl) (by kernel_rfl) ⟨rfl, ?_⟩ (by kernel_rfl) (by kernel_rfl) (by kernel_rfl) (by kernel_rfl)
    refine evalArgs_plain (spliced_cons (wpAny_Constant_str (k := 0) (pos := ⟨0, 0, 0, 0⟩) (spliced_nil ⟨rfl, by simp [sizeLine], fun h5 e hx => ?_⟩)))
    have a3' : At (L :: (Gr ++ [(l, lisOb it ep)]).map (·.1)) L' (((L, oL) :: Gr) ++ [(l, lisOb (it.toList.drop 1).toArray ep2)]) B h _ B2 h3 := a3.perm (perm _).symm
    have pl' : Plain ((L, oL) :: Gr) := fun p hp => by
      rcases List.mem_cons.mp hp with rfl | hp
      · exact fun vs c => by rw [hdL] at c; cases c
      · exact pl p hp
    refine fly_first (s := s) (M := [(l, lisOb (it.toList.drop 1).toArray ep2)]) a3' pl' hfr' rfl ?_ hx.of ?_ fun base h6 f => ?_
    · exact hok.cons (by kernel_rfl) rfl
    · intro p hp
      rcases List.mem_cons.mp hp with rfl | hp
      · exact .head _
      · exact .tail _ (List.mem_map_of_mem (List.mem_append_left _ hp))
    · exact q0 rfl B2 base h6 _ ep2 e (Fly.back (Tr := [(l, lisOb it ep)]) (Tr' := [(l, lisOb (it.toList.drop 1).toArray ep2)]) (M' := []) a hoL f rfl) e2
  | cons x rest =>
    refine x_seq (wx (wpAny_If (isTrue_plain (ev_local a3 upd_self ?_) (by rfl))))
    have hx := hr x (.head _)
    have hbi : bInts (byteArr ((x :: rest).take 1)) = [x] := bints_byteArr (by simpa using hx)
    refine KBw.truthy_K (ks := [x]) hbi (by simp) ?_
    show wpAny _ A' (execs (_ :: []) _) _ _ _
    refine xw (x_seq (wx (wpAny_Return_some (Subscript_ (ev_local (t := t3 + 1 + 1) a3 upd_self (wpAny_Constant_int (KBw.item_K (ks := [x]) hbi (by simp) (by decide) (by simp) fun t' k' _ _ => ?_)))))))
    exact q1 x rest rfl B2 h3 k' ep2 t' (At.backL (T' := Gr ++ [(l, lisOb (it.toList.drop 1).toArray ep2)]) (M' := []) a hoL (by simpa using a3.perm (perm _).symm) rfl (by simp)) e2
end Mine
end
section
open PySem PySem.W PyProof.Rows PySem.Calls
open PySem.W.KBw (bInts)
set_option Elab.async false
set_option maxRecDepth 100000
set_option linter.unusedVariables false
set_option linter.unusedSimpArgs false
namespace Mine
noncomputable def digit (n : Nat) : Str := ⟨#[48 + n]⟩
noncomputable def fmtE (n k : Nat) : Str := Str.ofString "expected " ++ digit n ++ Str.ofString " bytes in a string1, but only " ++ digit k ++ Str.ofString " remain"
noncomputable def fmtS : Str := Str.ofString "expected %d bytes in a string1, but only %d remain"
theorem lawFn (w : World) : ∃ o, (Kf w).lookup 155 = some o := ⟨_, rfl⟩
theorem heap_big {w : World} {B h : Heap} (hb : Bs w B) (e : Ext B h) : 156 ≤ h.objs.size := by
  obtain ⟨o, ho⟩ := lawFn w
  exact Heap.lt_size (e _ _ (hb.k _ _ ho))
noncomputable def tupOb (vs : Array Value) : Obj := { cls := .type "tuple", data := .seq vs 0 }
set_option maxHeartbeats 1000000 in
theorem fmt_run {w : World} {A : Around} {s : Shared} {E Q : Value → Shared → Prop} {B : Heap} {tp : Addr} {t u v : Tok} {n k : Nat} (hb : Bs w B) (eb : Ext B s.heap) (hp : 156 ≤ tp) (ho : s.heap.get? tp = some (tupOb #[.int n u, .int k v])) (hn : n ≤ 3) (hk : k ≤ 3)
    (q : ∀ h' t' tk, Step B s.heap B h' → Q (.str (fmtE n k) t') (St s h' tk)) : wpAny (model Pr w) A (binaryOp .Mod (.str fmtS t) (.ref tp)) Q E s := by
  have fin : ∀ (i j : Int) (st : Str), s.heap.get? tp = some (tupOb #[.int i u, .int j v]) → (∀ nn, theRun w [(tp, tupOb #[.int i u, .int j v])] nn 6 (binaryOp .Mod (.str fmtS t) (.ref tp)) [.t 0, .t 0, .t 0, .t 0, .t 0] s.toks = some (.ok (.str st (s.toks + 4)), twins [tp] nn [.t 0, .t 0, .t 0, .t 0, .t 0], [], ⟨[tupOb #[.int i u, .int j v]], [], s.toks + 5⟩)) → (∀ h' t' tk, Step B s.heap B h' → Q (.str st t') (St s h' tk)) → wpAny (model Pr w) A (binaryOp .Mod (.str fmtS t) (.ref tp)) Q E s :=
    fun i j st ho er q => run_readT (T := [(tp, tupOb #[.int i u, .int j v])]) 6 [.t 0, .t 0, .t 0, .t 0, .t 0] 5 hb eb (by simpa using hp) (by simp) (one ho) er fun h' s1 => q h' _ _ s1
  have h1 : n = 0 ∨ n = 1 ∨ n = 2 ∨ n = 3 := by omega
  have h2 : k = 0 ∨ k = 1 ∨ k = 2 ∨ k = 3 := by omega
  rcases h1 with rfl | rfl | rfl | rfl <;> rcases h2 with rfl | rfl | rfl | rfl
  · exact fin 0 0 (fmtE 0 0) ho (fun _ => by kernel_rfl) q
  · exact fin 0 1 (fmtE 0 1) ho (fun _ => by kernel_rfl) q
  · exact fin 0 2 (fmtE 0 2) ho (fun _ => by kernel_rfl) q
  · exact fin 0 3 (fmtE 0 3) ho (fun _ => by kernel_rfl) q
  · exact fin 1 0 (fmtE 1 0) ho (fun _ => by kernel_rfl) q
  · exact fin 1 1 (fmtE 1 1) ho (fun _ => by kernel_rfl) q
  · exact fin 1 2 (fmtE 1 2) ho (fun _ => by kernel_rfl) q
  · exact fin 1 3 (fmtE 1 3) ho (fun _ => by kernel_rfl) q
  · exact fin 2 0 (fmtE 2 0) ho (fun _ => by kernel_rfl) q
  · exact fin 2 1 (fmtE 2 1) ho (fun _ => by kernel_rfl) q
  · exact fin 2 2 (fmtE 2 2) ho (fun _ => by kernel_rfl) q
  · exact fin 2 3 (fmtE 2 3) ho (fun _ => by kernel_rfl) q
  · exact fin 3 0 (fmtE 3 0) ho (fun _ => by kernel_rfl) q
  · exact fin 3 1 (fmtE 3 1) ho (fun _ => by kernel_rfl) q
  · exact fin 3 2 (fmtE 3 2) ho (fun _ => by kernel_rfl) q
  · exact fin 3 3 (fmtE 3 3) ho (fun _ => by kernel_rfl) q
/-- fmt % (a, b) -/
theorem pe_fmt {w : World} {k : Nat} {J : Heap → Prop} {env : Env} {B : Heap} {c : Const} {q0 kt : Nat} {p0 p1 pos : Pos} {e1 e2 : Expr} {n j : Nat} (hJ : Mono J) (hb : Bs w B) (h : PEs w k J env p1 B [e1, e2] [.int n, .int j]) (hn : n ≤ 3) (hj : j ≤ 3) (hc : c = .str fmtS := by rfl) : PE w k J env B (.BinOp (.Constant c q0 p0) .Mod (.Tuple [e1, e2] kt p1) pos) (.str (fmtE n j)) := by
  subst hc
  refine .mk fun A s Q E ok eb jj q => wpAny_BinOp (wpAny_Constant_str (Tuple_ (h.run A _ _ E ok eb jj fun vs B1 h1 t1 s1 r1 => ?_)))
  obtain ⟨v1, vs1, rfl, q1, r1⟩ := r1.cons_inv
  obtain ⟨v2, vs2, rfl, q2, r1⟩ := r1.cons_inv
  rw [r1.nil_inv]
  obtain ⟨u, rfl⟩ := q1.int_inv
  obtain ⟨v, rfl⟩ := q2.int_inv
  refine wpAny_newTuple ?_ (by simp [sizeLine])
  obtain ⟨B2, s2, g2⟩ := step_push (tupOb #[.int n u, .int j v]) s1.bh rfl
  have e2 := s1.bb.trans s2.bb
  refine fmt_run (s := { s with heap := h1.push (tupOb #[.int n u, .int j v]), toks := t1 }) (hb.ext e2) s2.bh (heap_big (hb.ext s1.bb) s1.bh) (Heap.get?_push_size _ rfl) hn hj fun h3 t3 tk3 s3 => ?_
  exact q _ B2 h3 tk3 ((s1.trans s2).trans s3) (.str ..)
/-- bytes to a text, octet by octet -/
noncomputable def latin (ns : List Int) : Str := ⟨(ns.map Int.toNat).toArray⟩
set_option maxHeartbeats 1000000 in
theorem dec_ok {w : World} {A : Around} {s : Shared} {E Q : Value → Shared → Prop} {B : Heap} {t u : Tok} {l : List UInt8} (hb : Bs w B) (eb : Ext B s.heap) (hl : l.length ≤ 3)
    (q : ∀ h' t' tk, Step B s.heap B h' → Q (.str ⟨(l.map (·.toNat)).toArray⟩ t') (St s h' tk)) : wpAny (model Pr w) A (call (.builtin "bytes.decode") [.bytes l.toArray t, .str (Str.ofString "latin-1") u]) Q E s := by
  have fin : ∀ (l : List UInt8), (∀ nn, theRun w [] nn 8 (call (.builtin "bytes.decode") [.bytes l.toArray t, .str (Str.ofString "latin-1") u]) [] s.toks = some (.ok (.str ⟨(l.map (·.toNat)).toArray⟩ (s.toks + 3)), twins [] nn [], [], ⟨[], [], s.toks + 4⟩)) → (∀ h' t' tk, Step B s.heap B h' → Q (.str ⟨(l.map (·.toNat)).toArray⟩ t') (St s h' tk)) → wpAny (model Pr w) A (call (.builtin "bytes.decode") [.bytes l.toArray t, .str (Str.ofString "latin-1") u]) Q E s :=
    fun l er q => run_readT (T := []) 8 [] 4 hb eb (by simp) (by simp) (by simp) er fun h' s1 => q h' _ _ s1
  match l, hl, q with
  | [], _, q => exact run_readT (T := []) (v := .str ⟨#[]⟩ s.toks) 8 [] 1 hb eb (by simp) (by simp) (by simp) (fun _ => by kernel_rfl) fun h' s1 => q h' _ _ s1
  | [a], _, q => exact fin [a] (fun _ => by kernel_rfl) q
  | [a, b], _, q => exact fin [a, b] (fun _ => by kernel_rfl) q
  | [a, b, c], _, q => exact fin [a, b, c] (fun _ => by kernel_rfl) q
  | a :: b :: c :: d :: r, hl, _ => simp at hl
end Mine
end
section
open PySem PySem.W PyProof.Rows PySem.Calls
open PySem.W.KBw (bInts)
set_option Elab.async false
set_option maxRecDepth 100000
set_option linter.unusedVariables false
set_option linter.unusedSimpArgs false
namespace Mine
/-- len(x) of bytes under a name -/
theorem pe_lenB {w : World} {k : Nat} {env : Env} {B : Heap} {m : Str → Option Value} {cs : List (Addr × Obj)} {x : Str} {p px pos : Pos} {b : Array UInt8} {t : Tok} (hb : Bs w B) (hm : m x = some (.bytes b t)) (hz : b.size ≤ 1000000) (hl : env.kindOf x = some .local := by kernel_rfl) (hd : (x == ("__debug__" : Str)) = false := by kernel_rfl)
    (hg : env.globals = 3 := by kernel_rfl) (hbi : env.builtins = builtinsNs := by kernel_rfl) (hk : env.scope.kind = .function := by kernel_rfl) (hx : env.kindOf (Str.ofString "len") = some .globalImplicit := by kernel_rfl)
    (he : starEach [.Name x px] env = (false, eval (.Name x px) env) :: starEach [] env := by kernel_rfl) : PE w k (Fm env m cs) env B (.Call (.Name (Str.ofString "len") p) [.Name x px] [] pos) (.int b.size) := by
  refine .mk fun A s Q E ok eb j q => wpAny_Call_NameR (ldr_bi (v := .builtin "len") hb eb (by kernel_rfl) (by kernel_rfl) ?_ hg hbi hk hx)
  refine callWith_builtin1 (spliced_more (wpAny_Name (wpAny_loadName_local hk hl j.1 hm (spliced_nil ?_)) hd) he) he rfl
  exact len_bytes (by omega) (q _ B s.heap _ (.refl eb) (.int ..))
theorem byteArr_latin {ns : List Int} (hr : ∀ x ∈ ns, 0 ≤ x ∧ x < 256) : (⟨((byteArr ns).toList.map (·.toNat)).toArray⟩ : Str) = latin ns := by
  unfold latin byteArr
  congr 2
  simp only [List.map_map]
  apply List.map_congr_left
  intro x hx
  have := u8_back (hr x hx).1 (hr x hx).2
  simp only [Function.comp]
  omega
set_option maxHeartbeats 2000000 in
theorem s1_ok {w : World} {k : Nat} {A : Around} {s : Shared} {h : Heap} {tk : Nat} {E Q : Value → Shared → Prop} {X : List Addr} {L : Addr} {Gr M : List (Addr × Obj)} {B₀ h₀ B : Heap} {m : Str → Option Value} {st fr c l : Addr} {it : Array Value} {ep : Nat} {ns : List Int} {fs : List Env}
    (ok : Ok (k + 3) A) (hb : Bs w B) (rdr : Rdr w B fr c l) (stm : Stm B st fr) (a : At X L ((Gr ++ [(l, lisOb it ep)]) ++ M) B₀ h₀ m B h) (pl : Plain Gr) (hfr : A.frames = some fs) (hok : FrOk (L :: Gr.map (·.1)) fs) (hz : it.size ≤ sizeLine) (rd : RdAll B it.toList (ns.map .int)) (hr : ∀ x ∈ ns, 0 ≤ x ∧ x < 256)
    (h3 : ∀ x rest, ns = x :: rest → x ≤ 3)
    (q1 : ∀ x rest, ns = x :: rest → x.toNat ≤ rest.length → ∀ B' h' tk' ep' t, At X L ((Gr ++ [(l, lisOb ((it.toList.drop 1).drop x.toNat).toArray ep')]) ++ M) B₀ h₀ m B' h' → Ext B B' → Q (.str (latin (rest.take x.toNat)) t) (St s h' tk'))
    (q0 : ∀ msg, (ns = [] ∧ msg = msg1) ∨ (∃ x rest, ns = x :: rest ∧ rest.length < x.toNat ∧ msg = fmtE x.toNat rest.length) → ∀ it' B' base h' tk' ep' e, Fly X L Gr ([(l, lisOb it' ep')] ++ M) B₀ h₀ m B' base fs e msg h' → Ext B B' → E (.ref e) (St s h' tk')) : wpAny (model Pr w) A (call (.ref 119) [.ref st]) Q E (St s h tk) := by
  obtain ⟨oL, es, epL, hoL, hdL, _⟩ := a.ns
  refine call_defL (T := Gr ++ [(l, lisOb it ep)]) (fd := fdS1 w) ok hb a hoL (isS1 w) (by kernel_rfl) (by unfold fdS1; rfl) (BindsTo.of_eq (binds := [(Str.ofString "f", .ref st)]) (by kernel_rfl)) (by kernel_rfl) (by kernel_rfl) (fun L' h₁ a1 => ?_)
  have ok' : Ok (k + 2) _ := ok.deeper (callEnv (fdS1 w) L' 119)
  have hfr' : (A.deeper (callEnv (fdS1 w) L' 119)).frames = some (callEnv (fdS1 w) L' 119 :: fs) := by simp [Around.deeper, hfr]
  generalize hA : A.deeper (callEnv (fdS1 w) L' 119) = A' at ok' hfr'
  have hs : (fun x => List.lookup x [(Str.ofString "f", Value.ref st)].reverse) (Str.ofString "f") = some (.ref st) := by rfl
  generalize hm : (fun x => List.lookup x [(Str.ofString "f", Value.ref st)].reverse) = m1 at a1 hs
  have perm : ∀ o : Obj, ((l, o) :: ((L, oL) :: Gr)).Perm ((L, oL) :: (Gr ++ [(l, o)])) := fun o => (List.perm_append_singleton (l, o) ((L, oL) :: Gr)).symm
  have pl' : Plain ((L, oL) :: Gr) := fun p hp => by
    rcases List.mem_cons.mp hp with rfl | hp
    · exact fun vs c => by rw [hdL] at c; cases c
    · exact pl p hp
  have hok' : FrOk (L' :: ((L, oL) :: Gr).map (·.1)) (callEnv (fdS1 w) L' 119 :: fs) := hok.cons (by kernel_rfl) rfl
  have hX : ∀ p ∈ (L, oL) :: Gr, p.1 ∈ L :: (Gr ++ [(l, lisOb it ep)]).map (·.1) := fun p hp => by
    rcases List.mem_cons.mp hp with rfl | hp
    · exact .head _
    · exact .tail _ (List.mem_map_of_mem (List.mem_append_left _ hp))
  obtain ⟨oc, od, osl, ho⟩ := isU1 w
  have a1' : At (L :: (Gr ++ [(l, lisOb it ep)]).map (·.1)) (callEnv (fdS1 w) L' 119).locals ((((L, oL) :: Gr) ++ [(l, lisOb it ep)]) ++ []) B h m1 B h₁ := by rw [List.append_nil]; exact a1
  refine x_seq (x_assignR (X := L :: (Gr ++ [(l, lisOb it ep)]).map (·.1)) (B₀ := B) (h₀ := h) (m := m1) (wpAny_Call_NameR (ldr_g (v := .ref 112) hb a1.bh (by kernel_rfl) ?_ (by kernel_rfl) (by kernel_rfl) (by kernel_rfl))))
  refine callWith_def (o := ⟨oc, od, .func (fdU1 w), osl⟩) rfl (spliced_more (ev_local a1 hs (spliced_nil ⟨a1.bh _ _ (hb.k _ _ ho), ?_⟩)) (by kernel_rfl)) (by kernel_rfl)
  refine u1_ok (Gr := (L, oL) :: Gr) (M := []) ok' hb rdr stm a1' pl' hfr' hok' hz rd hr (fun x rest hns B2 h2 t2 ep2 tx a2 e2 => ?_) (fun hns B2 base h2 t2 ep2 e f e2 => ?_)
  rotate_left
  · exact fly_on f pl' hfr' rfl fun h5 f5 => q0 msg1 (.inl ⟨hns, rfl⟩) _ B2 base h5 t2 ep2 e (Fly.back (Tr := [(l, lisOb it ep)]) (Tr' := [(l, lisOb (it.toList.drop 1).toArray ep2)]) (M' := []) a hoL f5 rfl) e2
  subst hns
  refine ⟨_, B2, h2, t2, rfl, a2, fun h3' a3 t3 => ?_⟩
  have hx := hr x (.head _)
  have hx3 := h3 x rest rfl
  obtain ⟨n, rfl⟩ := Int.eq_ofNat_of_zero_le hx.1
  have hn3 : n ≤ 3 := by omega
  have rn : ∀ B, Rd B (.int (n : Int) tx) (.int (n : Nat)) := fun B => .int ..
  have a3' : At (L :: (Gr ++ [(l, lisOb it ep)]).map (·.1)) (callEnv (fdS1 w) L' 119).locals ((l, lisOb (it.toList.drop 1).toArray ep2) :: ((L, oL) :: Gr)) B h (upd m1 (Str.ofString "n") (.int n tx)) B2 h3' := by
    rw [List.append_nil] at a3
    exact a3.perm (perm _)
  refine x_seq (wx (wpAny_Assert_holds ((te_cmp Fm.mono (pe_local upd_self (rn B2)) pe_int (cop_gei _ _)).run A' (St s h3' t3) _ _ ok' a3'.bh a3'.fm fun b B4 h4 t4 s4 r4 => ⟨by rw [r4]; simp, ?_⟩)))
  have a4 := a3'.step s4
  have e4 := e2.trans s4.bb
  have rd2 : RdAll B4 (it.toList.drop 1) (rest.map .int) := by
    have := (rd.drop 1).ext e4
    simpa using this
  have hr2 : ∀ y ∈ rest, 0 ≤ y ∧ y < 256 := fun y hy => hr y (.tail _ hy)
  refine x_seq (x_assignR (X := L :: (Gr ++ [(l, lisOb it ep)]).map (·.1)) (B₀ := B) (h₀ := h) (m := upd m1 (Str.ofString "n") (.int n tx)) (ev_read (s := s) (n := n) (ns := rest) ok' (hb.ext e4) (rdr.ext e4) (stm.ext e4) a4 (upd_ne hs) (pe_local upd_self (rn B4)) (by simp; omega) rd2 hr2 fun B5 h5 t5 ep5 tb a5 e5 => ⟨_, B5, h5, t5, rfl, a5, fun h6 a6 t6 => ?_⟩))
  have e5' := e4.trans e5
  have hb5 := hb.ext e5'
  have hsz : (byteArr (rest.take n)).size ≤ 3 := by rw [byteArr_size, List.length_take]; omega
  refine x_seq (x_if ok' a6 (te_cmp Fm.mono (pe_lenB hb5 upd_self (by omega)) (pe_local (upd_ne upd_self) (rn B5)) (cop_eqi _ _)) (fun hc B7 h7 t7 a7 e7 => ?_) (fun hc B7 h7 t7 a7 e7 => x_nil ?_))
  · have hlen : n ≤ rest.length := by
      rw [byteArr_size, List.length_take] at hc
      simp at hc; omega
    refine x_seq (wx (wpAny_Return_some (wp_method rfl (by kernel_rfl) (by kernel_rfl) (ev_local a7 upd_self ?_))))
    refine run_readT (s := St s h7 t7) (T := []) (v := (.builtin "bytes.decode", [.bytes (byteArr (rest.take n)) tb])) 6 [] 0 (hb5.ext e7) a7.bh (by simp) (by simp) (by simp) (fun _ => by kernel_rfl) fun h8 s8 => ?_
    have a8 := a7.step s8
    refine callWith_method1 (spliced_more (wpAny_Constant_str (spliced_nil ?_)) (by kernel_rfl)) (by kernel_rfl) (by kernel_rfl)
    have : (Value.bytes (byteArr (rest.take n)) tb) = .bytes (byteArr (rest.take n)).toList.toArray tb := by rw [Array.toArray_toList]
    rw [this]
    refine dec_ok (s := { St (St s h7 t7) h8 ((St s h7 t7).toks + 0) with toks := _ }) (hb5.ext e7) a8.bh (by rw [Array.length_toList]; exact hsz) fun h9 t9 tk9 s9 => ?_
    rw [byteArr_latin (fun y hy => hr2 y (List.mem_of_mem_take hy))]
    have a9 := a8.step s9
    refine q1 n rest rfl (by rw [Int.toNat_natCast]; exact hlen) B7 h9 tk9 ep5 t9 (At.backL (T' := Gr ++ [(l, lisOb ((it.toList.drop 1).drop n).toArray ep5)]) (M' := []) a hoL (by rw [List.append_nil]; exact a9.perm (perm _).symm) rfl (by simp)) (e5'.trans e7)
  · have hlen : rest.length < n := by
      rw [byteArr_size, List.length_take] at hc
      simp at hc; omega
    have hb7 := hb5.ext e7
    have hlk : (byteArr (rest.take n)).size = rest.length := by rw [byteArr_size, List.length_take]; omega
    refine x_seq (wx (wpAny_Raise_call PySem.F.excCall_ValueError PySem.F.excRaise_ValueError ok'.handled (by kernel_rfl) ?_))
    refine ldr_bi (v := .type "ValueError") hb7 a7.bh (by kernel_rfl) (by kernel_rfl) ⟨rfl, ?_⟩ (by kernel_rfl) (by kernel_rfl) (by kernel_rfl) (by kernel_rfl)
    refine evalArgs_plain (spliced_cons ((pe_fmt (w := w) (k := k + 2) (n := n) (j := rest.length) (q0 := 0) (kt := 0) Fm.mono hb7 (pes_cons Fm.mono (pe_local (upd_ne upd_self) (rn B7)) (pes_cons Fm.mono (PE.cast (pe_lenB hb7 upd_self (by omega)) (by rw [hlk])) pes_nil)) hn3 (by omega)).run A' (St s h7 t7) _ _ ok' a7.bh a7.fm fun v8 B8 h8 t8 s8 r8 => spliced_nil ⟨rfl, by simp [sizeLine], fun h9 e hx => ?_⟩))
    obtain ⟨t8', rfl⟩ := r8.str_inv
    have a8 := a7.step s8
    have a8' : At (L :: (Gr ++ [(l, lisOb it ep)]).map (·.1)) L' (((L, oL) :: Gr) ++ [(l, lisOb ((it.toList.drop 1).toArray.toList.drop n).toArray ep5)]) B h _ B8 h8 := a8.perm (perm _).symm
    refine fly_first (s := s) (M := [(l, lisOb ((it.toList.drop 1).toArray.toList.drop n).toArray ep5)]) a8' pl' hfr' rfl hok' hx.of hX fun base h10 f => ?_
    exact q0 (fmtE n rest.length) (.inr ⟨n, rest, rfl, by rw [Int.toNat_natCast]; exact hlen, by rw [Int.toNat_natCast]⟩) _ B8 base h10 _ ep5 e (Fly.back (Tr := [(l, lisOb it ep)]) (Tr' := [(l, lisOb ((it.toList.drop 1).toArray.toList.drop n).toArray ep5)]) (M' := []) a hoL f rfl) ((e5'.trans e7).trans s8.bb)
end Mine
end
section
open PySem PySem.W PyProof.Rows PySem.Calls
set_option Elab.async false
set_option maxRecDepth 100000
set_option linter.unusedVariables false
set_option linter.unusedSimpArgs false
namespace Mine
section
variable {w : World} {X : List Addr} {L : Addr} {M : List (Addr × Obj)} {B₀ h₀ B h : Heap} {m : Str → Option Value}
/-- a thing of the call's own is frozen -/
theorem At.freezeAt {c : Addr} {o : Obj} (a : At X L M B₀ h₀ m B h) (hc : h.get? c = some o) (hM : c ∉ M.map (·.1)) (hL : c ≠ L) (h0 : h₀.objs.size ≤ c) : ∃ B', At X L M B₀ h₀ m B' h ∧ Ext B B' ∧ B'.get? c = some o := by
  have eb : Ext B (only h fun x => (B.get? x).isSome || x == c) := fun x o e => by rw [only_get, e]; simp [a.bh _ _ e]
  have g : ∀ x o', (only h fun x => (B.get? x).isSome || x == c).get? x = some o' → (B.get? x = some o' ∨ x = c) ∧ h.get? x = some o' := fun x o' e => by
    rw [only_get] at e
    split at e
    · rename_i q
      simp only [Bool.or_eq_true, beq_iff_eq] at q
      refine ⟨q.imp (fun q => ?_) id, e⟩
      obtain ⟨o2, ho⟩ := Option.isSome_iff_exists.mp q
      have := a.bh _ _ ho
      rw [e] at this
      cases this
      exact ho
    · cases e
  have nn : ∀ x, x ≠ c → B.get? x = none → (only h fun x => (B.get? x).isSome || x == c).get? x = none := fun x hx hn => by
    cases e : (only h fun x => (B.get? x).isSome || x == c).get? x with
    | none => rfl
    | some o' =>
      rcases (g x o' e).1 with q | q
      · rw [hn] at q; cases q
      · exact absurd q hx
  refine ⟨only h fun x => (B.get? x).isSome || x == c, ⟨a.ns, a.own, nn _ (Ne.symm hL) a.offL, a.newL, fun p hp => ⟨nn _ (fun q => hM (q ▸ List.mem_map_of_mem hp)) (a.offM p hp).1, (a.offM p hp).2⟩, a.nd, fun x o' e => (g x o' e).2, a.bb.trans eb, a.kp, a.sz, fun x o' e => ?_⟩, eb, ?_⟩
  · rcases (g x o' e).1 with q | q
    · exact a.fresh x o' q
    · exact .inr (q ▸ h0)
  · rw [only_get]; simp [hc]
theorem At.freeze1 {p : Addr} {o : Obj} (a : At X L ((p, o) :: M) B₀ h₀ m B h) (h0 : h₀.objs.size ≤ p) : ∃ B', At X L M B₀ h₀ m B' h ∧ Ext B B' ∧ B'.get? p = some o := by
  have nd := a.nd
  simp only [List.map_cons, List.nodup_cons] at nd
  exact (a.drop (List.Sublist.cons _ (List.Sublist.refl _))).freezeAt (a.own (p, o) (.head _)) nd.1 (a.offM (p, o) (.head _)).2.1 h0
/-- a thing of the call's own comes under watch -/
theorem At.addNew {c : Addr} {o : Obj} (a : At X L M B₀ h₀ m B h) (hc : h.get? c = some o) (hM : c ∉ M.map (·.1)) (hL : c ≠ L) (hB : B.get? c = none) (h0 : h₀.objs.size ≤ c) : At X L ((c, o) :: M) B₀ h₀ m B h := by
  refine ⟨a.ns, fun p hp => ?_, a.offL, a.newL, fun p hp => ?_, List.nodup_cons.mpr ⟨hM, a.nd⟩, a.bh, a.bb, a.kp, a.sz, a.fresh⟩
  · rcases List.mem_cons.mp hp with rfl | hp
    · exact hc
    · exact a.own p hp
  · rcases List.mem_cons.mp hp with rfl | hp
    · exact ⟨hB, hL, .inr h0⟩
    · exact a.offM p hp
end
section
variable {w : World} {k : Nat} {env : Env} {A : Around} {s : Shared} {h : Heap} {t : Nat} {E : Value → Shared → Prop} {Q : Flow → Shared → Prop} {X : List Addr} {M : List (Addr × Obj)} {B₀ h₀ B : Heap} {m : Str → Option Value}
/-- a store into a cell -/
theorem st_cell {x : Str} {c : Addr} {o : Obj} {v₀ : Option Value} {v : Value} {Q : Unit → Shared → Prop} (a : At X env.locals ((c, o) :: M) B₀ h₀ m B h) (hd : o.data = .cell v₀)
    (next : ∀ h' o', At X env.locals ((c, o') :: M) B₀ h₀ m B h' → o'.data = .cell (some v) → Q () (St s h' t))
    (hc : env.cells.lookup x = some c) (hl : env.kindOf x = some .cell) (hk : env.scope.kind = .function) : wpAny (model Pr w) A (storeName env x v) Q E (St s h t) := by
  refine wpAny_storeName_cell (s := St s h t) hk hl hc ⟨o, a.own (c, o) (.head _), hd⟩ fun h' hc' hs => ?_
  obtain ⟨o', ho', hd'⟩ := hc'
  exact next h' o' (At.change (M₁ := []) a ho' hs) hd'
theorem x_assignCell {x : Str} {px pos : Pos} {e : Expr} {d : PyData} {c : Addr} {o : Obj} {v₀ : Option Value} (ok : Ok k A) (a : At X env.locals ((c, o) :: M) B₀ h₀ m B h) (hd : o.data = .cell v₀) (p : PE w k (Fm env m ((c, o) :: M)) env B e d)
    (next : ∀ v o' B' h' tk, At X env.locals ((c, o') :: M) B₀ h₀ m B' h' → o'.data = .cell (some v) → Ext B B' → Rd B' v d → Q .next (St s h' tk))
    (hc : env.cells.lookup x = some c := by kernel_rfl) (hl : env.kindOf x = some .cell := by kernel_rfl) (hk : env.scope.kind = .function := by kernel_rfl) (hs : swapsWith e (some (.Name x px)) pos.line env = pure false := by kernel_rfl) : Wx w A (exec (.Assign [.Name x px] e pos) env) Q E (St s h t) :=
  wx (wpAny_Assign_Name (p.run A (St s h t) _ E ok a.bh a.fm fun v B₁ h₁ t₁ s₁ r₁ => st_cell (s := s) (a.step s₁) hd (fun h' o' a' hd' => next v o' B₁ h' _ a' hd' s₁.bb r₁) hc hl hk) hs)
/-- a cell's name, the cell under watch -/
theorem pe_cell {x : Str} {pos : Pos} {cs : List (Addr × Obj)} {c : Addr} {o : Obj} {v : Value} {d : PyData} (hm : (c, o) ∈ cs) (hv : o.data = .cell (some v)) (hr : Rd B v d)
    (hc : env.cells.lookup x = some c := by kernel_rfl) (hl : env.kindOf x = some .cell := by kernel_rfl) (hk : env.scope.kind = .function := by kernel_rfl) (hd : (x == ("__debug__" : Str)) = false := by kernel_rfl) : PE w k (Fm env m cs) env B (.Name x pos) d :=
  .mk fun _ s _ _ _ e j q => wpAny_Name (wpAny_loadName_cell hk hl hc ⟨o, j.2 (c, o) hm, hv⟩ (q _ B s.heap s.toks (.refl e) hr)) hd
end
/-- a comprehension over a list, one name, no test -/
theorem comp_one {w : World} {k : Nat} {J : Heap → Prop} {env : Env} {B : Heap} {x : Str} {px : Pos} {elt : Expr} {scope : Scope} {src : Heap → Prop} {n : Nat} {val el : Nat → PyData} (hJ : Mono J) (hsrc : ∀ h, J h → src h)
    (clos : closureFor scope env = pure []) (kind : scope.kind = .function) (names : (scope.names.all fun x => x.2 != .local || decide (scope.names.lookup x.1 = some .local)) = true) (cell : (scope.names.all fun x => decide (x.2 ≠ .cell)) = true)
    (hx : ∀ C, (compEnvC scope [] C env).kindOf x = some .local)
    (elem : ∀ C i m' M' B' v, i < n → Ext B B' → m' x = some v → Rd B' v (val i) → PE w k (fun h => Fm (compEnvC scope [] C env) m' M' h ∧ J h) (compEnvC scope [] C env) B' elt (el i)) :
    CompOk w k J env B (.Name x px) elt [] scope [] src n listSt val el (fun _ => true) (fun i B m => ∃ v, m x = some v ∧ Rd B v (val i)) where
  clos := clos
  kind := kind
  names := names
  cell := cell
  hsrc := hsrc
  asg := fun C i hi => asg_name (hx C) kind
  tests := fun C i m' M' B' hi e kn => tests_nil
  elem := fun C i m' M' B' hi _ e kn => by
    obtain ⟨v, h1, r1⟩ := kn
    exact elem C i m' M' B' v hi e h1 r1
  mono := fun i m' B' B'' e kn => let ⟨v, a, b⟩ := kn; ⟨v, a, b.ext e⟩
  own := fun A s I l i o v B Q E hi hg hs r q => wpAny_pure q
/-- the table of the machine's inner codes -/
noncomputable def tabFull (c1 c2 : Addr) : Obj := tabObj #[rawInt 56, rawInt 4, .ref c1, rawInt 60, rawInt 13, .ref c2]
noncomputable def T121 (B : Heap) (o : Obj) : Prop := o = tabObj #[] ∨ ∃ c1 c2, o = tabFull c1 c2 ∧ B.CodeRec (.ref c1) rdQual
noncomputable def T121' (B : Heap) (o : Obj) : Prop := ∃ c1, B.CodeRec (.ref c1) rdQual ∧ (o = tabObj #[rawInt 56, rawInt 4, .ref c1] ∨ ∃ c2, o = tabFull c1 c2)
theorem T121.ext {B B' : Heap} {o : Obj} (h : T121 B o) (e : Ext B B') : T121 B' o := h.imp id fun ⟨a, b, c, d⟩ => ⟨a, b, c, d.keeps e⟩
theorem T121'.ext {B B' : Heap} {o : Obj} (h : T121' B o) (e : Ext B B') : T121' B' o := let ⟨a, b, c⟩ := h; ⟨a, b.keeps e, c⟩
theorem T121.tab {B : Heap} {o : Obj} (h : T121 B o) : ∃ ps, o = tabObj ps := by
  rcases h with h | ⟨a, b, c, d⟩
  · exact ⟨_, h⟩
  · exact ⟨_, c⟩
noncomputable abbrev envM (w : World) (L : Addr) : Env := callEnvC (fdMachine w) L 124
theorem bs_at {w : World} {B h : Heap} (hb : Bs w B) (e : Ext B h) (hn : B.get? 121 = none) : ∃ mg, h.Ns mainGlobals mg ∧ h.BuiltinsAt mg 121 ∧ mainGlobals ≠ 121 := by
  obtain ⟨mg, bm, ob, x⟩ := hb.bm
  refine ⟨mg, x.ns.keeps e, ⟨bm, ob, x.name, x.ne, fun q => ?_, fun q => ?_, e _ _ x.obj, x.cls, x.dict, x.data⟩, by decide⟩
  · obtain ⟨o, es, ep, ho, hd, _⟩ := x.ns
    have := x.obj
    rw [q, show (mainGlobals : Addr) = 3 from rfl, ho] at this
    cases this
    rw [x.data] at hd
    cases hd
  · have := x.obj
    rw [q, hn] at this
    cases this
end Mine
end
section
open PySem PySem.W PyProof.Rows PySem.Calls
set_option Elab.async false
set_option maxRecDepth 100000
set_option linter.unusedVariables false
set_option linter.unusedSimpArgs false
namespace Mine
section
variable {w : World} {k : Nat} {A : Around} {s : Shared} {h : Heap} {t : Nat} {E : Value → Shared → Prop} {X : List Addr} {L : Addr} {M : List (Addr × Obj)} {B₀ h₀ B : Heap} {m : Str → Option Value}
/-- def read(count) -/
theorem x_defRead {o : Obj} {Q : Flow → Shared → Prop} (hb : Bs w B) (a : At X (envM w L).locals ((121, o) :: M) B₀ h₀ m B h) (ht : T121 B o)
    (next : ∀ fr o' B' h' tk', At X (envM w L).locals ((121, o') :: M) B₀ h₀ (upd m (Str.ofString "read") (.ref fr)) B' h' → Ext B B' → T121' B' o' → (∃ doc pm cd ctv, B'.get? fr = some { cls := .type "function", data := .func (fdRd w (L + 1) doc pm cd ctv) } ∧ B'.CodeRec cd rdQual) → Q .next (St s h' tk')) :
    Wx w A (exec (.FunctionDef (Str.ofString "read") (rdPart w).1.1 (rdPart w).1.2.1 [] none [] (rdPart w).1.2.2 none (Str.ofString "read") ⟨56, 4, 59, 27⟩) (envM w L)) Q E (St s h t) := by
  refine wx (nestDef_K (by kernel_rfl) (by kernel_rfl) (by kernel_rfl) ?_)
  have hq : qualnameIn (envM w L) (Str.ofString "read") (Str.ofString "read") = rdQual := by kernel_rfl
  rw [hq]
  obtain ⟨mg, hg, hba, hgP⟩ := bs_at hb a.bh (a.offM (121, o) (.head _)).1
  have C : CodeHd h 123 121 := codeHd_of_K (hb.k.keeps a.bh) (by kernel_rfl)
  have hcl : closureFor (rdPart w).1.2.2 (envM w L) = pure [(Str.ofString "left", L + 1)] := by kernel_rfl
  have h121 : ∀ {c : Addr}, h.objs.size ≤ c → c ∉ ((121, o) :: M).map (·.1) := fun {c} hc hm => by
    obtain ⟨q, hq, e⟩ := List.mem_map.mp hm
    exact Nat.lt_irrefl _ (Nat.lt_of_lt_of_le (Heap.lt_size (a.own q hq)) (e ▸ hc))
  have hLs : (envM w L).locals < h.objs.size := a.ltL
  rcases ht with rfl | ⟨c1, c2, rfl, hc1⟩
  · refine makeFunction_K (s := St s h t) hcl (by kernel_rfl) hg (c := 123) (by kernel_rfl) C (a.own (121, _) (.head _)) trivial rfl hgP hba fun c' ctv doc h' tk hx hge hlt hrec htb => ?_
    have a1 : At X (envM w L).locals ((121, tabObj #[rawInt 56, rawInt 4, .ref c']) :: M) B₀ h₀ m B h' := a.changeExt hx htb
    have hcM : c' ∉ ((121, tabObj #[rawInt 56, rawInt 4, .ref c']) :: M).map (·.1) := h121 hge
    obtain ⟨c₂, oc, vs, tt, e2, hoc, hdc, hvc⟩ := hrec
    cases e2
    obtain ⟨B2, a2, e2, g2⟩ := a1.freezeAt hoc hcM (Nat.ne_of_gt (Nat.lt_of_lt_of_le hLs hge)) (Nat.le_trans a.sz hge)
    have a3 := a2.new (fnMade (Str.ofString "read") rdQual (rdPart w).1.1 (rdPart w).1.2.1 (rdPart w).1.2.2 [(Str.ofString "left", L + 1)] doc ((mg "__name__").getD .none) c' ctv)
    obtain ⟨B4, a4, e4, g4⟩ := a3.freeze1 a2.sz
    have hrec4 : B4.CodeRec (.ref c') rdQual := ⟨c', oc, vs, tt, rfl, e4 _ _ g2, hdc, hvc⟩
    refine wpAny_storeName_local (s := St s _ tk) (by kernel_rfl) a4.ns (fun h5 hn5 hs5 => ?_) (by kernel_rfl)
    exact next _ _ B4 h5 _ (a4.store hn5 hs5) (e2.trans e4) ⟨c', hrec4, .inl rfl⟩ ⟨_, _, _, _, g4, hrec4⟩
  · refine makeFunction_hit (s := St s h t) (cv := .ref c1) hcl (by kernel_rfl) hg (c := 123) (by kernel_rfl) C (a.own (121, _) (.head _)) trivial rfl hba fun ctv doc h' tk hk hsz => ?_
    have a2 := a.more (h' := h') hk
    have a3 := a2.new (fnMade (Str.ofString "read") rdQual (rdPart w).1.1 (rdPart w).1.2.1 (rdPart w).1.2.2 [(Str.ofString "left", L + 1)] doc ((mg "__name__").getD .none) c1 ctv)
    obtain ⟨B4, a4, e4, g4⟩ := a3.freeze1 a2.sz
    refine wpAny_storeName_local (s := St s _ tk) (by kernel_rfl) a4.ns (fun h5 hn5 hs5 => ?_) (by kernel_rfl)
    exact next _ _ B4 h5 _ (a4.store hn5 hs5) e4 ⟨c1, hc1.keeps e4, .inr ⟨c2, rfl⟩⟩ ⟨_, _, _, _, g4, hc1.keeps e4⟩
/-- lambda: None -/
theorem ev_lambda {o : Obj} {params : Arguments} {body : Expr} {scope : Scope} {Q : Value → Shared → Prop} (hb : Bs w B) (a : At X (envM w L).locals ((121, o) :: M) B₀ h₀ m B h) (ht : T121' B o)
    (hdef : defaultsOf params (envM w L) = ([], [])) (hcl : closureFor scope (envM w L) = pure [])
    (next : ∀ st fdl o' h' tk', At X (envM w L).locals ((st, ⟨.type "function", none, .func fdl, #[]⟩) :: (121, o') :: M) B₀ h₀ m B h' → (∃ c1 c2, o' = tabFull c1 c2 ∧ B.CodeRec (.ref c1) rdQual) → h₀.objs.size ≤ st → Q (.ref st) (St s h' tk')) :
    wpAny (model Pr w) A (eval (.Lambda params body scope ⟨60, 13, 60, 25⟩) (envM w L)) Q E (St s h t) := by
  refine kla_eval hdef ?_
  obtain ⟨mg, hg, hba, hgP⟩ := bs_at hb a.bh (a.offM (121, o) (.head _)).1
  have C : CodeHd h 123 121 := codeHd_of_K (hb.k.keeps a.bh) (by kernel_rfl)
  obtain ⟨c1, hc1, rfl | ⟨c2, rfl⟩⟩ := ht
  · refine kla_makeFunction (s := St s h t) hcl (by kernel_rfl) hg (c := 123) (by kernel_rfl) C (a.own (121, _) (.head _)) trivial rfl hgP hba fun c' ctv h' tk hx hge hlt hrec htb => ?_
    have a1 : At X (envM w L).locals ((121, tabFull c1 c') :: M) B₀ h₀ m B h' := a.changeExt hx htb
    exact next _ _ _ _ tk (a1.new _) ⟨c1, c', rfl, hc1⟩ a1.sz
  · refine kla_makeFunctionHit (s := St s h t) (cv := .ref c2) hcl (by kernel_rfl) hg (c := 123) (by kernel_rfl) C (a.own (121, _) (.head _)) trivial rfl hba fun ctv h' tk hk hsz => ?_
    have a2 := a.more (h' := h') hk
    exact next _ _ _ _ tk (a2.new _) ⟨c1, c2, rfl, hc1⟩ a2.sz
/-- stream.read = read -/
theorem set_read {st : Addr} {fdl : FuncData} {v : Value} {Q : Unit → Shared → Prop} (hb : Bs w B) (a : At X L ((st, ⟨.type "function", none, .func fdl, #[]⟩) :: M) B₀ h₀ m B h)
    (q : ∀ dd hs tt h' tk', At X L ((dd, dicOb #[⟨hs, .str "read" tt, v⟩] 1) :: (st, ⟨.type "function", some dd, .func fdl, #[]⟩) :: M) B₀ h₀ m B h' → h₀.objs.size ≤ dd → 156 ≤ dd → Q () (St s h' tk')) : wpAny (model Pr w) A (setAttr (.ref st) (Str.ofString "read") v) Q E (St s h t) := by
  have hz := a.sz
  exact run_at (T := [(st, ⟨.type "function", none, .func fdl, #[]⟩)]) (v := .ok ()) (os := [⟨.type "function", some h.objs.size, .func fdl, #[]⟩]) (news := [dicOb #[⟨reduceHash (w.params.strHash (Str.ofString "read").cps), .str "read" (t + 1), v⟩] 1]) (tk' := t + 2) 6 [.t 0, .t 0, .t 0, .t 0, .t 0, .t 0, .n 0, .n 0, .n 0] hb a (by kernel_rfl) fun h' a' => q h.objs.size _ _ h' _ a' hz (heap_big hb a.bh)
end
end Mine
end
section
open PySem PySem.W PyProof.Rows PySem.Calls
set_option Elab.async false
set_option maxRecDepth 100000
set_option linter.unusedVariables false
set_option linter.unusedSimpArgs false
namespace Mine
noncomputable def pull {α : Type} (i : Nat) (l : List α) : List α := match l[i]? with
  | some a => a :: l.eraseIdx i
  | none => l
theorem pull_perm {α : Type} (i : Nat) (l : List α) : (pull i l).Perm l := by
  unfold pull
  cases e : l[i]? with
  | none => exact .refl _
  | some a =>
    obtain ⟨h, rfl⟩ := List.getElem?_eq_some_iff.mp e
    rw [List.eraseIdx_eq_take_drop_succ]
    have e2 : l = l.take i ++ l[i] :: l.drop (i + 1) := by rw [← List.drop_eq_getElem_cons h, List.take_append_drop]
    exact List.perm_middle.symm.trans (.of_eq e2.symm)
section
variable {X : List Addr} {L : Addr} {M : List (Addr × Obj)} {B₀ h₀ B h : Heap} {m : Str → Option Value}
theorem At.pull (i : Nat) (a : At X L M B₀ h₀ m B h) : At X L (pull i M) B₀ h₀ m B h := a.perm (pull_perm i M)
theorem At.unpull (i : Nat) (a : At X L (Mine.pull i M) B₀ h₀ m B h) : At X L M B₀ h₀ m B h := a.perm (pull_perm i M).symm
end
/-- a run with no frame in sight that makes things -/
theorem run_new {w : World} {T : List (Addr × Obj)} {B : Heap} {α : Type} {t : Sem α} {A : Around} {s : Shared} {Q : α → Shared → Prop} {E : Value → Shared → Prop} (f : Nat) (acts : List Act) {v : α} {news : List Obj} (dt : Nat) (hb : Bs w B) (eb : Ext B s.heap) (hT : ∀ q ∈ T, 156 ≤ q.1) (nd : (T.map (·.1)).Nodup) (own : ∀ q ∈ T, s.heap.get? q.1 = some q.2)
    (er : theRun w T s.heap.objs.size f t acts s.toks = some (.ok v, twins (T.map (·.1)) s.heap.objs.size acts, [], ⟨T.map (·.2), news, s.toks + dt⟩))
    (q : ∀ h', Step B s.heap B h' → (∀ (j : Nat) o, news[j]? = some o → h'.get? (s.heap.objs.size + j) = some o) → Q v (St s h' (s.toks + dt))) : wpAny (model Pr w) A t Q E s := by
  have T1 : Tr (Kf w) (T.map (·.1)) s.heap.objs.size s.heap := by
    refine ⟨hb.k.keeps eb, fun b hm => ?_, nd, fun b hm => ?_, rfl⟩
    · obtain ⟨p, hp, rfl⟩ := List.mem_map.mp hm
      exact k_off (hT p hp)
    · obtain ⟨p, hp, rfl⟩ := List.mem_map.mp hm
      exact Heap.lt_size (own p hp)
  have R0 : Rp (T.map (·.1)) s.heap.objs.size s.heap ⟨T.map (·.2), [], s.toks⟩ s.heap := by
    refine ⟨fun j b o hb ho => ?_, fun j o e => (nomatch e), rfl, fun b o _ e => e⟩
    simp only [List.getElem?_map, Option.map_eq_some_iff] at hb ho
    obtain ⟨p, hp, rfl⟩ := hb
    obtain ⟨q, hq, rfl⟩ := ho
    rw [hp] at hq
    cases hq
    exact own p (List.mem_of_getElem? hp)
  refine runT_sound T1 (runC_sound T1 f) t acts _ _ _ _ _ er twins_eqs A s s.heap Q E R0 fun h' p' => ?_
  have hh : Ext s.heap h' := fun b o e => by
    by_cases hm : b ∈ T.map (·.1)
    · obtain ⟨x, hx, rfl⟩ := List.mem_map.mp hm
      obtain ⟨j, hj⟩ := List.getElem?_of_mem hx
      have := p'.own j x.1 x.2 (by simp [hj]) (by simp [hj])
      rw [own x hx] at e
      cases e
      exact this
    · exact p'.keep b o hm e
  exact q h' ⟨Ext.refl _, eb.trans hh, hh, by rw [p'.size]; exact Nat.le_add_right .., fun x o e => .inl e⟩ fun j o e => p'.new j o e
/-- iter(acc), for a comprehension -/
theorem ite_acc {w : World} {k : Nat} {env : Env} {B : Heap} {x : Str} {px : Pos} {p d : Addr} {it : Array Value} {ep : Nat} {M : List (Addr × Obj)} {m : Str → Option Value} {ds : List PyData} (hb : Bs w B) (hp : 156 ≤ p) (hm : m x = some (.ref p)) (hM : (p, accOb d it ep) ∈ M) (r : RdAll B it.toList ds)
    (hl : env.kindOf x = some .local := by kernel_rfl) (hk : env.scope.kind = .function := by kernel_rfl) (hdb : (x == ("__debug__" : Str)) = false := by kernel_rfl) :
    ItE w k (Fm env m M) env B (.Name x px) (fun h => h.get? p = some (accOb d it ep)) ds.length listSt fun i => ds.getD i .none := by
  intro A s Q E ok eb j q
  refine wpAny_Name (wpAny_loadName_local hk hl j.1 hm ?_) hdb
  have own0 : s.heap.get? p = some (accOb d it ep) := j.2 _ hM
  unfold pyIter
  refine wpAny_bind (run_read (T := [(p, accOb d it ep)]) (v := some (.builtin "list.__iter__")) 3 [.t 0, .k, .k, .k] hb eb (by simpa using hp) (by simp) (one own0) (fun _ _ => by kernel_rfl) fun h1 s1 => ?_)
  have own1 := s1.hh _ _ own0
  show wpAny _ A (callSpecialIfBoundUnlessNone? (.ref p) "__iter__" _ >>= _) Q E _
  refine wpAny_bind ?_
  unfold callSpecialIfBoundUnlessNone? bindSpecialIfBound?
  refine wpAny_holding (wpAny_bind (wpAny_bind (run_read (s := St s h1 s.toks) (T := [(p, accOb d it ep)]) (v := some (.builtin "list.__iter__")) 3 [.t 0, .k, .k, .k] hb s1.bh (by simpa using hp) (by simp) (one own1) (fun _ _ => by kernel_rfl) fun h2 s2 => ?_)))
  have own2 := s2.hh _ _ own1
  have e2 : bindSpecial (.builtin "list.__iter__") (.ref p) = pure (.builtin "list.__iter__", [.ref p]) := by kernel_rfl
  simp only [e2]
  have fin : wpAny (model Pr w) A (call (.builtin "list.__iter__") [.ref p]) (fun v s' => wpAny (model Pr w) A (match some v with
      | some it => (do match ← specialOf it "__next__" with
        | none => rule "iter.non-iterator"; raiseError "TypeError" s!"iter() returned non-iterator of type '{← typeNameOf it}'"
        | some _ => pure it)
      | none => (do match ← bindSpecialIfBound? (.ref p) "__getitem__" with
        | none => rule "iter.not-iterable"; raiseError "TypeError" s!"'{← typeNameOf (.ref p)}' object is not iterable"
        | some _ => rule "iter.getitem-fallback"; newFields "iterator" [.ref p, ← mkInt 0])) Q E s') E (St (St s h1 s.toks) h2 (St s h1 s.toks).toks) := by
    refine run_new (s := St (St s h1 s.toks) h2 (St s h1 s.toks).toks) (T := [(p, accOb d it ep)]) (v := .ref h2.objs.size) (news := [liOb p 0]) 6 [.t 0, .k] 0 hb s2.bh (by simpa using hp) (by simp) (one own2) (by kernel_rfl) fun h3 s3 n3 => ?_
    have hI : h3.get? h2.objs.size = some (liOb p 0) := n3 0 _ rfl
    have hbig : 156 ≤ h2.objs.size := heap_big hb s2.bh
    refine wpAny_bind (run_read (s := St s h3 s.toks) (T := [(h2.objs.size, liOb p 0)]) (v := some (.builtin "list_iterator.__next__")) 3 [.t 0] hb s3.bh (by simpa using hbig) (by simp) (one hI) (fun _ _ => by kernel_rfl) fun h4 s4 => wpAny_pure ?_)
    have s14 := ((s1.trans s2).trans s3).trans s4
    exact q h2.objs.size p _ B h4 s.toks s14 (Nat.le_trans s1.sz s2.sz) (off_new s2.bh) (s4.hh _ _ hI) ⟨rfl, rfl⟩ (It.acc r)
  refine wpAny_bind (wpAny_askSetting (wpAny_ite ?_))
  split
  · exact wpAny_bind (wpAny_pure (wpAny_pure (wpAny_bind (wpAny_mono fin (fun v s' h' => wpAny_pure h') fun _ _ e => e))))
  · refine wpAny_tryCatch (wpAny_bind (wpAny_pure (wpAny_pure ?_)))
    exact wpAny_bind (wpAny_mono fin (fun v s' h' => wpAny_pure h') fun _ _ e => e)
end Mine
end
section
open PySem PySem.W PyProof.Rows PySem.Calls
set_option Elab.async false
set_option maxRecDepth 100000
set_option linter.unusedVariables false
set_option linter.unusedSimpArgs false
namespace Mine
/-- the turn of the machine's loop -/
noncomputable abbrev MPart (w : World) : Type := { x : Stmt × Stmt × Stmt × Stmt // ∃ a0 a1 a2 a3 a4 a5 c p hs q, (fdMachine w).body = .stmts [a0, a1, a2, a3, a4, a5, .Try [.While c [x.1, x.2.1, x.2.2.1, x.2.2.2] [] p] hs [] [] q] }
noncomputable def mPart (w : World) : MPart w := ⟨(_, _, _, _), _, _, _, _, _, _, _, _, _, _, by unfold fdMachine; rfl⟩
noncomputable def logD (popped : PyData) (xs : List (Str × Str)) (size : Int) : PyData := .tuple [popped, pcsD xs, .str (accText xs), .int (size + lenSum xs)]
theorem pairD_pcD : pairD = pcD := rfl
section
variable {w : World} {k : Nat} {A : Around} {s : Shared} {h : Heap} {t : Nat} {E : Value → Shared → Prop} {X : List Addr} {L : Addr} {M : List (Addr × Obj)} {B₀ h₀ B : Heap} {m : Str → Option Value}
theorem gm_listAppend {l : Addr} {it : Array Value} {ep : Nat} {Q : Value × List Value → Shared → Prop} {pl : Sem Bool} (hb : Bs w B) (a : At X L ((l, lisOb it ep) :: M) B₀ h₀ m B h)
    (hw : ∀ h', At X L ((l, lisOb it ep) :: M) B₀ h₀ m B h' → Q (.builtin "list.append", [.ref l]) (St s h' t)) : wpAny (model Pr w) A (getMethod (.ref l) (Str.ofString "append") pl) Q E (St s h t) :=
  run_look (T := [(l, lisOb it ep)]) 5 [.t 0, .t 0, .t 0, .t 0] hb a (by kernel_rfl) hw
theorem list_append {l : Addr} {it : Array Value} {ep : Nat} {v : Value} {Q E : Value → Shared → Prop} (hb : Bs w B) (a : At X L ((l, lisOb it ep) :: M) B₀ h₀ m B h) (hz : it.size ≤ sizeLine)
    (hw : ∀ h' ep', At X L ((l, lisOb (it.push v) ep') :: M) B₀ h₀ m B h' → Q .none (St s h' t)) : wpAny (model Pr w) A (call (.builtin "list.append") [.ref l, v]) Q E (St s h t) := by
  refine call_bi (T := [(l, lisOb it ep)]) (b := Builtin.«list.append») 3 [.t 0] hb a (by kernel_rfl) (by kernel_rfl) (by kernel_rfl) fun h' a' => ?_
  show wpAny _ _ (updateSeq l (·.push v) >>= fun _ => ret .none) _ _ _
  exact wpAny_bind (upd_seq a' hz (by simp; omega) fun h₂ ep' a₂ => wpAny_pure (hw h₂ ep' a₂))
end
theorem outs_pieces (xs : List (Str × Str)) : outs (fun _ => true) (fun i => (xs.map pairD).getD i .none) (xs.map pairD).length = xs.map pcD := by
  rw [outs_all]
  exact (map_getD (xs.map pairD) id .none).trans (by simp [pairD_pcD])
set_option maxHeartbeats 2000000 in
theorem x_log {w : World} {k : Nat} {A : Around} {s : Shared} {h : Heap} {tk : Nat} {E : Value → Shared → Prop} {Q : Flow → Shared → Prop} {X : List Addr} {L : Addr} {B₀ h₀ B : Heap} {m : Str → Option Value} {L0 l p d lg : Addr} {oL0 lo o1 o2 o3 : Obj} {it lv : Array Value} {ep lep : Nat} {hs : Int} {t : Nat} {zi : Int} {tz : Tok} {xs : List (Str × Str)} {pv : Value} {pd : PyData}
    (ok : Ok (k + 4) A) (hb : Bs w B) (hp : 156 ≤ p) (hd : 156 ≤ d) (a : At X (envM w L).locals [(L0, oL0), (l, lo), (p, accOb d it ep), (d, dicZ hs t (.int zi tz)), (63, o1), (70, o2), (121, o3), (lg, lisOb lv lep)] B₀ h₀ m B h)
    (hml : m (Str.ofString "log") = some (.ref lg)) (hma : m (Str.ofString "acc") = some (.ref p)) (hmp : m (Str.ofString "popped") = some pv) (rp : Rd B pv pd) (r : RdAll B it.toList (xs.map pairD))
    (hz : ∀ x ∈ xs, x.1.length + x.2.length ≤ 1000000) (hzz : (accText xs).length ≤ 1000000) (hn : xs.length ≤ 100000) (hlv : lv.size ≤ 100000) (h0 : 0 ≤ zi) (h1 : zi + lenSum xs < 2 ^ 62) (ht1 : TabO o1) (ht2 : TabO o2) (bare : AllBare s.gens)
    (next : ∀ o1' o2' u gens' B' h' tk' lep', At X (envM w L).locals [(L0, oL0), (l, lo), (p, accOb d it ep), (d, dicZ hs t (.int zi tz)), (63, o1'), (70, o2'), (121, o3), (lg, lisOb (lv.push u) lep')] B₀ h₀ m B' h' → Ext B B' → TabO o1' → TabO o2' → AllBare gens' → Rd B' u (logD pd xs zi) → Q .next (St { s with gens := gens' } h' tk')) :
    Wx w A (exec (mPart w).1.2.2.2 (envM w L)) Q E (St s h tk) := by
  have hsl : sizeLine = 2 ^ 24 := rfl
  refine x_expr (wp_method rfl (by kernel_rfl) (by kernel_rfl) (ev_local a hml (gm_listAppend hb (a.pull 7) fun h2 a2 => ?_)))
  have a2' : At X (envM w L).locals [(L0, oL0), (l, lo), (p, accOb d it ep), (d, dicZ hs t (.int zi tz)), (63, o1), (70, o2), (121, o3), (lg, lisOb lv lep)] B₀ h₀ m B h2 := At.unpull 7 a2
  refine callWith_method1 (spliced_more (Tuple_ (spliced_more (ev_local a2' hmp ?_) (by kernel_rfl))) (by kernel_rfl)) (by kernel_rfl) (by kernel_rfl)
  refine spliced_more ((pe_comp (w := w) (k := k + 4) Fm.mono (ite_acc (M := [(L0, oL0), (l, lo), (p, accOb d it ep), (d, dicZ hs t (.int zi tz)), (63, o1), (70, o2), (121, o3), (lg, lisOb lv lep)]) hb hp hma (.tail _ (.tail _ (.head _))) r) (comp_one (el := fun i => (xs.map pairD).getD i .none) Fm.mono ?src ?c1 ?c2 ?c3 ?c4 ?c5 ?c8) ?hn).run A (St s h2 tk) _ _ ok a2'.bh a2'.fm fun v3 B3 h3 t3 s3 r3 => ?_) (by kernel_rfl)
  case src => exact fun h j => j.2 _ (.tail _ (.tail _ (.head _)))
  case c1 => kernel_rfl
  case c2 => kernel_rfl
  case c3 => kernel_rfl
  case c4 => kernel_rfl
  case c5 => exact fun C => by kernel_rfl
  case c8 => exact fun C i m' M' B' v hi e h1 r1 => pe_localC h1 r1
  case hn => simp; omega
  rw [outs_pieces] at r3
  have a3 := a2'.step s3
  have hb3 := hb.ext s3.bb
  refine spliced_more (wpAny_Call_NameR (ldr_bi (s := St s h3 t3) (v := .type "str") hb3 a3.bh (by kernel_rfl) (by kernel_rfl) ?_ (by kernel_rfl) (by kernel_rfl) (by kernel_rfl) (by kernel_rfl))) (by kernel_rfl)
  refine PyProof.Rows.callWith_type1 (spliced_more (ev_local a3 hma (spliced_nil ?_)) (by kernel_rfl)) (by kernel_rfl) (by kernel_rfl)
  have a3' : At X (envM w L).locals ((p, accOb d it ep) :: (d, dicZ hs t (.int zi tz)) :: (70, o2) :: [(L0, oL0), (l, lo), (63, o1), (121, o3), (lg, lisOb lv lep)]) B₀ h₀ m B3 h3 := ((a3.pull 5).pull 4).pull 4
  refine acc_str (k := k + 1) ok hb3 a3' (r.ext s3.bb) hz hzz (by omega) ht2 bare fun h4 t4 g4 o2' tv4 a4 ht4 bare4 => ?_
  have a4' : At X (envM w L).locals [(L0, oL0), (l, lo), (p, accOb d it ep), (d, dicZ hs t (.int zi tz)), (63, o1), (70, o2'), (121, o3), (lg, lisOb lv lep)] B₀ h₀ m B3 h4 := At.unpull 5 (At.unpull 4 (At.unpull 4 a4))
  refine spliced_more (wpAny_Call_NameR (ldr_bi (s := St { s with gens := g4 } h4 t4) (v := .builtin "len") hb3 a4'.bh (by kernel_rfl) (by kernel_rfl) ?_ (by kernel_rfl) (by kernel_rfl) (by kernel_rfl) (by kernel_rfl))) (by kernel_rfl)
  refine callWith_builtin1 (spliced_more (ev_local a4' hma (spliced_nil ?_)) (by kernel_rfl)) (by kernel_rfl) (by kernel_rfl)
  have a4'' : At X (envM w L).locals ((p, accOb d it ep) :: (d, dicZ hs t (.int zi tz)) :: (63, o1) :: [(L0, oL0), (l, lo), (70, o2'), (121, o3), (lg, lisOb lv lep)]) B₀ h₀ m B3 h4 := ((a4'.pull 4).pull 4).pull 4
  refine acc_len (k := k + 2) ok hb3 hp hd a4'' (r.ext s3.bb) (fun x hx => by have := hz x hx; omega) h0 h1 ht1 bare4 fun h5 t5 g5 o1' tv5 a5 ht5 bare5 => ?_
  have a5' : At X (envM w L).locals [(L0, oL0), (l, lo), (p, accOb d it ep), (d, dicZ hs t (.int zi tz)), (63, o1'), (70, o2'), (121, o3), (lg, lisOb lv lep)] B₀ h₀ m B3 h5 := At.unpull 4 (At.unpull 4 (At.unpull 4 a5))
  refine spliced_nil (wpAny_newTuple ?_ (by simp [sizeLine]))
  obtain ⟨B6, s6, g6⟩ := step_push { cls := .type "tuple", data := .seq [pv, v3, .str (accText xs) tv4, .int (zi + lenSum xs) tv5].toArray } a5'.bh rfl
  have a6 := a5'.step s6
  refine spliced_nil ?_
  have e6 := s3.bb.trans s6.bb
  refine list_append (s := { s with gens := g5 }) (hb.ext e6) (a6.pull 7) (by omega) fun h7 ep7 a7 => ?_
  refine next o1' o2' _ g5 B6 h7 _ ep7 (At.unpull 7 a7) e6 ht5 ht4 bare5 (Rd.tuple ⟨_, g6, rfl, _, rfl⟩ (.cons (rp.ext e6) (.cons (r3.ext s6.bb) (.cons (.str ..) (.cons (.int ..) (.nil _))))))
end Mine
end
section
open PySem PySem.W PyProof.Rows PySem.Calls
set_option Elab.async false
set_option maxRecDepth 100000
set_option linter.unusedVariables false
set_option linter.unusedSimpArgs false
namespace Mine
noncomputable abbrev Pcs := List (Str × Str)
noncomputable def opn : Str × Str := (Str.ofString "(", Str.ofString "")
noncomputable def nop : Str × Str := (Str.ofString "", Str.ofString "")
noncomputable def placeAt (xs : Pcs) : Nat → Int
  | 0 => -1
  | i + 1 => if xs.getD i nop = opn then (i : Int) else placeAt xs i
noncomputable def placeK (xs : Pcs) : Int := placeAt xs xs.length
noncomputable def closePc (ps : Pcs) : Str × Str := (Str.ofString "(", cat ((ps.drop 1).map fun x => x.1 ++ x.2) ++ Str.ofString ")")
noncomputable def mstep (xs : Pcs) (sg : Int) : Pcs :=
  if sg = 40 then xs ++ [opn] else if sg = 48 then xs.dropLast else if placeK xs < 0 then xs else if sg = 108 then xs.take (placeK xs).toNat ++ [closePc (xs.drop (placeK xs).toNat)] else xs.take (placeK xs).toNat
noncomputable def popD (xs : Pcs) (sg : Int) : PyData := if sg = 48 then pairD (xs.getLast?.getD nop) else .none
structure PcOk (N : Nat) (xs : Pcs) : Prop where
  chars : ∀ x ∈ xs, PyData.strOk x.1 = true ∧ PyData.strOk x.2 = true
  sum : lenSum xs ≤ N
  len : xs.length ≤ N
theorem lenSum_mem {xs : Pcs} {x : Str × Str} (h : x ∈ xs) : (x.1.length : Int) + x.2.length ≤ lenSum xs := by
  induction xs with
  | nil => cases h
  | cons y r ih =>
    have := lenSum_nonneg r
    rcases List.mem_cons.mp h with rfl | h
    · simp only [lenSum]; omega
    · have := ih h; simp only [lenSum]; omega
theorem catp_length (x : Str × Str) : (catp x).length = x.1.length + x.2.length := by
  unfold catp; rw [cat_length]; simp
theorem accText_length (xs : Pcs) : ((accText xs).length : Int) = lenSum xs := by
  unfold accText
  rw [cat_length]
  induction xs with
  | nil => rfl
  | cons x r ih =>
    simp only [List.map_cons, List.sum_cons, lenSum, catp_length] at ih ⊢
    omega
theorem placeAt_lt (xs : Pcs) : ∀ n, placeAt xs n < n
  | 0 => by simp [placeAt]
  | n + 1 => by
    unfold placeAt
    split
    · omega
    · have := placeAt_lt xs n; omega
theorem placeAt_ge (xs : Pcs) : ∀ n, -1 ≤ placeAt xs n
  | 0 => by simp [placeAt]
  | n + 1 => by
    unfold placeAt
    split
    · omega
    · exact placeAt_ge xs n
theorem eqv_pair (x y : Str × Str) : PyData.eqv (pairD x) (pairD y) = decide (x = y) := by
  obtain ⟨a, b⟩ := x
  obtain ⟨c, d⟩ := y
  simp only [pairD, PyData.eqv, PyData.eqvAll, Bool.and_true, Prod.mk.injEq]
  by_cases h1 : a = c <;> by_cases h2 : b = d <;> simp [h1, h2]
theorem shaped_pair {x : Str × Str} (h : PyData.strOk x.1 = true ∧ PyData.strOk x.2 = true) : SeqAt.shaped (pairD x) = true := by
  unfold SeqAt.shaped pairD
  simp only [PyData.canLay0, PyData.canLayAll0, PyData.depth, PyData.depthAll, h.1, h.2, Bool.and_self, Bool.and_true, Bool.true_and]
  exact decide_eq_true (by omega)
theorem opn_ok : SeqAt.shaped (pairD opn) = true := shaped_pair ⟨by decide +kernel, by decide +kernel⟩
theorem bop_str {w : World} (x y : Str) (hz : x.length + y.length ≤ sizeLine) : Bop w .Add (.str x) (.str y) (.str (x ++ y)) := fun k J B a b ra rb A s Q E ok e _ q => by
  obtain ⟨t, rfl⟩ := ra.str_inv; obtain ⟨u, rfl⟩ := rb.str_inv
  exact PyProof.Rows.add_str (fun t' tk => q _ B s.heap _ (.refl e) (.str ..)) hz
theorem pcs_outs (ps : Pcs) : outs (fun _ => true) (fun i => .str ((ps.getD i nop).1 ++ (ps.getD i nop).2)) (ps.map pairD).length = (ps.map fun x => x.1 ++ x.2).map .str := by
  rw [outs_all, List.length_map, map_getD ps (fun p => .str (p.1 ++ p.2)) nop]
  simp
theorem pcs_getD (ps : Pcs) (i : Nat) (h : i < (ps.map pairD).length) : (ps.map pairD).getD i .none = .tuple [.str (ps.getD i nop).1, .str (ps.getD i nop).2] := by
  simp at h
  simp [h, pairD]
theorem app_length (x y : Str) : (x ++ y).length = x.length + y.length := by
  show (x.cps ++ y.cps).size = _
  rw [Array.size_append]; rfl
theorem cat_app_length (ps : Pcs) : ((cat (ps.map fun x => x.1 ++ x.2)).length : Int) = lenSum ps := by
  rw [cat_length]
  induction ps with
  | nil => rfl
  | cons x r ih =>
    simp only [List.map_cons, List.sum_cons, lenSum, app_length] at ih ⊢
    omega
theorem lenSum_drop (xs : Pcs) (n : Nat) : lenSum (xs.drop n) ≤ lenSum xs := by
  have := lenSum_append (xs.take n) (xs.drop n)
  rw [List.take_append_drop] at this
  have := lenSum_nonneg (xs.take n)
  omega
/-- the branch for l and 1 -/
noncomputable abbrev EPart (w : World) : Type := { x : List Stmt // ∃ t1 b1 p1 t2 b2 p2 t3 b3 p3, (mPart w).1.2.2.1 = .If t1 b1 [.If t2 b2 [.If t3 b3 x p3] p2] p1 }
noncomputable def ePart (w : World) : EPart w := ⟨_, _, _, _, _, _, _, _, _, _, rfl⟩
/-- names that the turn keeps -/
noncomputable def KeptN (m m' : Str → Option Value) : Prop := m' (Str.ofString "log") = m (Str.ofString "log") ∧ m' (Str.ofString "acc") = m (Str.ofString "acc") ∧ m' (Str.ofString "stream") = m (Str.ofString "stream") ∧ m' (Str.ofString "popped") = m (Str.ofString "popped") ∧ m' (Str.ofString "sign") = m (Str.ofString "sign")
theorem KeptN.refl (m : Str → Option Value) : KeptN m m := ⟨rfl, rfl, rfl, rfl, rfl⟩
theorem KeptN.upd {m m' : Str → Option Value} {x : Str} {v : Value} (h : KeptN m m') (h1 : (Str.ofString "log" == x) = false := by kernel_rfl) (h2 : (Str.ofString "acc" == x) = false := by kernel_rfl) (h3 : (Str.ofString "stream" == x) = false := by kernel_rfl) (h4 : (Str.ofString "popped" == x) = false := by kernel_rfl) (h5 : (Str.ofString "sign" == x) = false := by kernel_rfl) : KeptN m (upd m' x v) :=
  ⟨upd_ne h.1 h1, upd_ne h.2.1 h2, upd_ne h.2.2.1 h3, upd_ne h.2.2.2.1 h4, upd_ne h.2.2.2.2 h5⟩
set_option maxHeartbeats 4000000 in
theorem x_else {w : World} {k : Nat} {A : Around} {s : Shared} {h : Heap} {tk : Nat} {E : Value → Shared → Prop} {Q : Flow → Shared → Prop} {X : List Addr} {L : Addr} {R : List (Addr × Obj)} {B₀ h₀ B : Heap} {m : Str → Option Value} {p d : Addr} {it : Array Value} {ep : Nat} {hs : Int} {t : Nat} {z : Value} {xs : Pcs} {sv : Value} {sg : Int} {N : Nat}
    (ok : Ok (k + 4) A) (hb : Bs w B) (hp : 156 ≤ p) (a : At X (envM w L).locals ((p, accOb d it ep) :: (d, dicZ hs t z) :: R) B₀ h₀ m B h)
    (hma : m (Str.ofString "acc") = some (.ref p)) (hms : m (Str.ofString "sign") = some sv) (rs : Rd B sv (.int sg)) (r : RdAll B it.toList (xs.map pairD)) (px : PcOk N xs) (hN : N ≤ 10000) (h40 : sg ≠ 40) (h48 : sg ≠ 48)
    (next : ∀ it' ep' m' B' h' tk', At X (envM w L).locals ((p, accOb d it' ep') :: (d, dicZ hs t z) :: R) B₀ h₀ m' B' h' → Ext B B' → RdAll B' it'.toList ((mstep xs sg).map pairD) → KeptN m m' → Q .next (St s h' tk')) :
    Wx w A (execs (ePart w).1 (envM w L)) Q E (St s h tk) := by
  have hsl : sizeLine = 2 ^ 24 := rfl
  have hlen : it.size = xs.length := by have := r.length; simpa using this
  have hxl := px.len
  have hxsum := px.sum
  obtain ⟨oc, od, osl, ho⟩ := isPart w
  refine x_seq (x_assignR (X := X) (B₀ := B₀) (h₀ := h₀) (m := m) (wpAny_BinOp (wp_method rfl (by kernel_rfl) (by kernel_rfl) (ev_local a hma (gm_part hb a fun h1 a1 => ?_)))))
  refine callWith_meth0 (o := ⟨oc, od, .func (fdPart w), osl⟩) rfl (a1.bh _ _ (hb.k _ _ ho)) (part_ok (k := k + 3) ok hb hp a1 fun B2 h2 t2 tt a2 e2 => ?_)
  refine wpAny_Constant_int (P.sub_int ⟨_, B2, h2, _, rfl, a2, fun h3 a3 t3 => ?_⟩)
  have hgo : ∀ i : Nat, i < xs.length → ∀ B', Ext B B' → RdAll B' it.toList (xs.map pairD) ∧ (xs.map pairD)[i]? = some (pairD (xs.getD i nop)) := fun i hi B' e => ⟨r.ext e, by simp [hi]⟩
  refine x_seq (x_while (fun n m' M' B' => Ext B B' ∧ M' = (p, accOb d it ep) :: (d, dicZ hs t z) :: R ∧ n ≤ xs.length ∧ placeK xs = placeAt xs n ∧ KeptN m m' ∧ ∃ v, m' (Str.ofString "place") = some v ∧ Rd B' v (.int ((n : Int) - 1))) ok a3 xs.length
    ⟨e2, rfl, Nat.le_refl _, rfl, (KeptN.refl m).upd, _, upd_self, by rw [hlen]; exact .int ..⟩ ?_)
  rintro n m4 M4 B4 h4 E4 a4 ⟨e4, rfl, hn, hpk, kn, v, hv, rv⟩
  have hma4 : m4 (Str.ofString "acc") = some (.ref p) := kn.2.1.trans hma
  refine ⟨(decide ((n : Int) - 1 ≥ 0)) && (!decide (xs.getD (n - 1) nop = opn)), te_and Fm.mono (te_cmp Fm.mono (pe_local hv rv) pe_int (cop_gei _ _)) (fun hc => ?_), fun hc B5 h5 t5 a5 e5 => ?_, fun hc B5 h5 t5 a5 e5 => ?_⟩
  · have h1n : 1 ≤ n := by have := of_decide_eq_true hc; omega
    rw [← eqv_pair]
    have hi : ((n : Int) - 1).toNat = n - 1 := by omega
    refine te_cmp Fm.mono (pe_accItem (hb.ext e4) hp hma4 (pe_local hv rv) (hgo (n - 1) (by omega) B4 e4).1 (by omega) (by omega) (by rw [hi]; exact (hgo (n - 1) (by omega) B4 e4).2)) (pe_tuple (pes_cons Fm.mono pe_str (pes_cons Fm.mono pe_str pes_nil))) (cop_ne _ _ (shaped_pair (px.chars _ ?_)) opn_ok)
    rw [List.getD_eq_getElem?_getD, List.getElem?_eq_getElem (by omega)]
    exact List.getElem_mem _
  · simp only [Bool.and_eq_true, decide_eq_true_eq, Bool.not_eq_true', decide_eq_false_iff_not] at hc
    have h1n : 1 ≤ n := by omega
    refine x_seq (x_asub ok a5 hv (rv.ext e5) pe_int fun v6 B6 h6 t6 a6 e6 r6 => x_nil ⟨n - 1, _, _, B6, h6, t6, by omega, rfl, a6, (e4.trans e5).trans e6, rfl, by omega, ?_, kn.upd, v6, upd_self, ?_⟩)
    · rw [hpk]
      have : n = (n - 1) + 1 := by omega
      rw [this, placeAt, if_neg hc.2]; rfl
    · have : ((n - 1 : Nat) : Int) - 1 = (n : Int) - 1 - 1 := by omega
      rw [this]; exact r6
  · have hpl : placeK xs = (n : Int) - 1 := by
      rw [hpk]
      cases n with
      | zero => rfl
      | succ i =>
        have hc' : xs.getD i nop = opn := by
          simp only [Bool.and_eq_false_iff, decide_eq_false_iff_not, Bool.not_eq_false', decide_eq_true_eq] at hc
          rcases hc with hc | hc
          · omega
          · simpa using hc
        rw [placeAt, if_pos hc']; push_cast; omega
    have e5' := e4.trans e5
    refine x_seq (x_if ok a5 (te_cmp Fm.mono (pe_local hv (rv.ext e5)) pe_int (cop_gei _ _)) (fun hc6 B6 h6 t6 a6 e6 => ?_) (fun hc6 B6 h6 t6 a6 e6 => x_nil (x_nil ?_)))
    · have h1n : 1 ≤ n := by have := of_decide_eq_true hc6; omega
      have hpn : (placeK xs).toNat = n - 1 := by omega
      have e6' := e5'.trans e6
      obtain ⟨oc2, od2, osl2, ho2⟩ := isPopFrom w
      have rv6 : Rd B6 v (.int (n - 1 : Nat)) := by
        have : ((n - 1 : Nat) : Int) = (n : Int) - 1 := by omega
        rw [this]; exact rv.ext (e5.trans e6)
      refine x_seq (x_assignR (X := X) (B₀ := B₀) (h₀ := h₀) (m := m4) (wp_method rfl (by kernel_rfl) (by kernel_rfl) (ev_local a6 hma4 (gm_popFrom (hb.ext e6') a6 fun h7 a7 => ?_))))
      refine callWith_meth (h₀ := B6) (o := ⟨oc2, od2, .func (fdPopFrom w), osl2⟩) rfl ((hb.ext e6').k _ _ ho2) (spliced_more (ev_local a7 hv (spliced_nil ⟨a7.bh, ?_⟩)) (by kernel_rfl)) (by kernel_rfl)
      refine popFrom_ok (k := k + 3) (n := n - 1) ok (hb.ext e6') a7 (by omega) rv6 (r.ext e6') fun B8 h8 t8 u ep8 a8 e8 r8 => ⟨_, B8, h8, t8, rfl, a8, fun h9 a9 t9 => ?_⟩
      have e8' := e6'.trans e8
      have hdrop : (xs.map pairD).drop (n - 1) = (xs.drop (n - 1)).map pairD := by simp
      rw [hdrop] at r8
      have rtake : RdAll B8 (it.toList.take (n - 1)) ((xs.take (n - 1)).map pairD) := by
        have := (r.take (n - 1)).ext e8'
        simpa using this
      refine x_seq (x_if ok a9 (te_cmp Fm.mono (pe_local (upd_ne (kn.2.2.2.2.trans hms)) (rs.ext e8')) pe_int (cop_eqi _ _)) (fun hcA BA hA tA aA eA => ?_) (fun hcA BA hA tA aA eA => x_nil (x_nil (x_nil ?_))))
      · have h108 : sg = 108 := by simpa using hcA
        have eA' := e8'.trans eA
        obtain ⟨oc3, od3, osl3, ho3⟩ := isPush w
        have hmaA : upd m4 (Str.ofString "pieces") u (Str.ofString "acc") = some (.ref p) := upd_ne hma4
        have hdl : lenSum ((xs.drop (n - 1)).drop 1) ≤ N := Int.le_trans (lenSum_drop _ _) (Int.le_trans (lenSum_drop _ _) hxsum)
        have hcl := cat_app_length ((xs.drop (n - 1)).drop 1)
        refine x_seq (x_expr (wp_method rfl (by kernel_rfl) (by kernel_rfl) (ev_local aA hmaA (gm_push (hb.ext eA') aA fun hB aB => ?_))))
        refine callWith_meth (h₀ := BA) (o := ⟨oc3, od3, .func (fdPush w), osl3⟩) rfl ((hb.ext eA').k _ _ ho3) ((pes_cons (w := w) (k := k + 4) Fm.mono pe_str (pes_cons Fm.mono (pe_bin Fm.mono (pe_join (ss := ((xs.drop (n - 1)).drop 1).map fun x => x.1 ++ x.2) Fm.mono (PE.cast (d := .list (outs (fun _ => true) (fun i => .str ((((xs.drop (n - 1)).drop 1).getD i nop).1 ++ (((xs.drop (n - 1)).drop 1).getD i nop).2)) (((xs.drop (n - 1)).drop 1).map pairD).length)) (pe_comp Fm.mono (ite_list (ds := ((xs.drop (n - 1)).drop 1).map pairD) ?it) (comp_pair Fm.mono (pcs_getD _) ?c1 ?c2 ?c3 ?c4 ?c5 ?c6 ?c7 ?c8) ?hn) ?cs) ?hz) pe_str (bop_str _ _ ?hz2)) pes_nil)).run A (St s hB tA) _ _ ok aB.bh aB.fm fun vs BC hC tC sC rC => ⟨fun b o e => sC.bh b o (sC.bb b o e), ?_⟩) (by kernel_rfl)
        case it => exact PE.cast (pe_from (n := 1) Fm.mono (pe_local upd_self (r8.ext eA)) pe_int (by simp; omega)) (by simp)
        case c1 => kernel_rfl
        case c2 => kernel_rfl
        case c3 => kernel_rfl
        case c4 => kernel_rfl
        case c5 => exact fun C => by kernel_rfl
        case c6 => exact fun C => by kernel_rfl
        case c7 => kernel_rfl
        case c8 =>
          intro C i m' M' B' v1 v2 hi e h1 r1 h2 r2
          refine pe_bin (mono_and Fm.mono Fm.mono) (pe_localC h1 r1) (pe_localC h2 r2) (bop_str _ _ ?_)
          have hi' : i < ((xs.drop (n - 1)).drop 1).length := by simpa using hi
          have hm : ((xs.drop (n - 1)).drop 1).getD i nop ∈ (xs.drop (n - 1)).drop 1 := by
            rw [List.getD_eq_getElem?_getD, List.getElem?_eq_getElem hi']
            exact List.getElem_mem _
          have := lenSum_mem hm
          omega
        case hn => simp; omega
        case cs => rw [pcs_outs]
        case hz => omega
        case hz2 =>
          have : (Str.ofString ")").length = 1 := by decide +kernel
          rw [this]; omega
        obtain ⟨v1, vs1, rfl, q1, rC⟩ := rC.cons_inv
        obtain ⟨v2, vs2, rfl, q2, rC⟩ := rC.cons_inv
        rw [rC.nil_inv]
        have aC := aB.step sC
        refine push_ok (k := k + 3) ok (hb.ext (eA'.trans sC.bb)) aC (by simp; omega) q1 q2 fun BD hD tD uD epD aD eD rD => x_nil (x_nil (x_nil ?_))
        refine next _ epD _ BD hD tD aD ((eA'.trans sC.bb).trans eD) ?_ kn.upd
        have hms' : mstep xs sg = xs.take (n - 1) ++ [closePc (xs.drop (n - 1))] := by
          rw [mstep, if_neg h40, if_neg h48, if_neg (by omega), if_pos h108, hpn]
        rw [hms']
        simp only [List.map_append, List.map_cons, List.map_nil, Array.toList_push]
        exact RdAll.append (rtake.ext ((eA.trans sC.bb).trans eD)) (.cons rD (.nil _))
      · have h108 : sg ≠ 108 := by simpa using hcA
        refine next _ ep8 _ BA hA tA aA (e8'.trans eA) ?_ kn.upd
        have hms' : mstep xs sg = xs.take (n - 1) := by
          rw [mstep, if_neg h40, if_neg h48, if_neg (by omega), if_neg h108, hpn]
        rw [hms']
        exact rtake.ext eA
    · have hlt : placeK xs < 0 := by have := of_decide_eq_false hc6; omega
      refine next _ ep _ B6 h6 t6 a6 (e5'.trans e6) ?_ kn
      rw [mstep, if_neg h40, if_neg h48, if_pos hlt]
      exact r.ext (e5'.trans e6)
end Mine
end
section
open PySem PySem.W PyProof.Rows PySem.Calls
set_option Elab.async false
set_option maxRecDepth 100000
set_option linter.unusedVariables false
set_option linter.unusedSimpArgs false
namespace Mine
/-- what a turn of the machine makes of the octets behind its sign and of the pieces -/
noncomputable def Turn (sg : Int) (ns : List Int) (xs : Pcs) (ns' : List Int) (xs' : Pcs) (pd : PyData) : Prop :=
  (sg ≠ 85 ∧ ns' = ns ∧ xs' = mstep xs sg ∧ pd = popD xs sg) ∨ (sg = 85 ∧ ∃ x r, ns = x :: r ∧ x.toNat ≤ r.length ∧ ns' = r.drop x.toNat ∧ xs' = xs ++ [(Str.ofString "", latin (r.take x.toNat))] ∧ pd = .none)
noncomputable def Halt (sg : Int) (ns : List Int) (msg : Str) : Prop := sg = 85 ∧ ((ns = [] ∧ msg = msg1) ∨ (∃ x rest, ns = x :: rest ∧ rest.length < x.toNat ∧ msg = fmtE x.toNat rest.length))
/-- names that stay through a turn -/
noncomputable def Kept3 (m m' : Str → Option Value) : Prop := m' (Str.ofString "log") = m (Str.ofString "log") ∧ m' (Str.ofString "acc") = m (Str.ofString "acc") ∧ m' (Str.ofString "stream") = m (Str.ofString "stream")
set_option maxHeartbeats 4000000 in
theorem x_deed {w : World} {k : Nat} {A : Around} {s : Shared} {h : Heap} {tk : Nat} {E : Value → Shared → Prop} {Q : Flow → Shared → Prop} {X : List Addr} {L : Addr} {R : List (Addr × Obj)} {B₀ h₀ B : Heap} {m : Str → Option Value} {L0 l p d st fr c : Addr} {oL0 : Obj} {it lit : Array Value} {ep lep : Nat} {hs : Int} {t : Nat} {z : Value} {xs : Pcs} {sv : Value} {sg : Int} {N : Nat} {ns : List Int} {fs : List Env}
    (ok : Ok (k + 4) A) (hb : Bs w B) (hp : 156 ≤ p) (rdr : Rdr w B fr c l) (stm : Stm B st fr) (a : At X (envM w L).locals ((L0, oL0) :: (l, lisOb lit lep) :: (p, accOb d it ep) :: (d, dicZ hs t z) :: R) B₀ h₀ m B h) (pl : Plain [(L0, oL0)]) (hfr : A.frames = some fs) (hok : FrOk [L, L0] fs)
    (hma : m (Str.ofString "acc") = some (.ref p)) (hms : m (Str.ofString "sign") = some sv) (hmst : m (Str.ofString "stream") = some (.ref st)) (hmp : m (Str.ofString "popped") = some .none) (rs : Rd B sv (.int sg)) (r : RdAll B it.toList (xs.map pairD)) (px : PcOk N xs) (hN : N ≤ 10000) (rd : RdAll B lit.toList (ns.map .int)) (hr : ∀ x ∈ ns, 0 ≤ x ∧ x < 256) (hlz : ns.length ≤ 10000) (h3 : sg = 85 → ∀ x rest, ns = x :: rest → x ≤ 3)
    (next : ∀ ns' xs' pd pv lit' lep' it' ep' m' B' h' tk', Turn sg ns xs ns' xs' pd → At X (envM w L).locals ((L0, oL0) :: (l, lisOb lit' lep') :: (p, accOb d it' ep') :: (d, dicZ hs t z) :: R) B₀ h₀ m' B' h' → Ext B B' → RdAll B' lit'.toList (ns'.map .int) → RdAll B' it'.toList (xs'.map pairD) → Rd B' pv pd → m' (Str.ofString "popped") = some pv → Kept3 m m' → Q .next (St s h' tk'))
    (halt : ∀ msg, Halt sg ns msg → ∀ lit' B' base h' tk' ep' e, Fly X (envM w L).locals [(L0, oL0)] ((l, lisOb lit' ep') :: (p, accOb d it ep) :: (d, dicZ hs t z) :: R) B₀ h₀ m B' base fs e msg h' → Ext B B' → E (.ref e) (St s h' tk')) :
    Wx w A (exec (mPart w).1.2.2.1 (envM w L)) Q E (St s h tk) := by
  have hsl : sizeLine = 2 ^ 24 := rfl
  have hlen : it.size = xs.length := by have := r.length; simpa using this
  have hllen : lit.size = ns.length := by have := rd.length; simpa using this
  have hxl := px.len
  obtain ⟨oc3, od3, osl3, ho3⟩ := isPush w
  refine x_if ok a (te_cmp Fm.mono (pe_local hms rs) pe_int (cop_eqi _ _)) (fun hc B1 h1 t1 a1 e1 => ?_) (fun hc B1 h1 t1 a1 e1 => ?_)
  · have h85 : sg = 85 := by simpa using hc
    have hb1 := hb.ext e1
    have a1' : At X (envM w L).locals ((p, accOb d it ep) :: (d, dicZ hs t z) :: (L0, oL0) :: (l, lisOb lit lep) :: R) B₀ h₀ m B1 h1 := (a1.pull 3).pull 3
    refine x_seq (x_expr (wp_method rfl (by kernel_rfl) (by kernel_rfl) (ev_local a1 hma (gm_push hb1 a1' fun h2 a2 => ?_))))
    have a2' : At X (envM w L).locals (([(L0, oL0)] ++ [(l, lisOb lit lep)]) ++ ((p, accOb d it ep) :: (d, dicZ hs t z) :: R)) B₀ h₀ m B1 h2 := At.unpull 3 (At.unpull 3 a2)
    refine callWith_meth (h₀ := B1) (o := ⟨oc3, od3, .func (fdPush w), osl3⟩) rfl (hb1.k _ _ ho3) (spliced_more (wpAny_Constant_str (spliced_more (wpAny_Call_NameR (ldr_g (v := .ref 119) hb1 a2.bh (by kernel_rfl) ?_ (by kernel_rfl) (by kernel_rfl) (by kernel_rfl))) (by kernel_rfl))) (by kernel_rfl)) (by kernel_rfl)
    obtain ⟨oc4, od4, osl4, ho4⟩ := isS1 w
    refine callWith_def (o := ⟨oc4, od4, .func (fdS1 w), osl4⟩) rfl (spliced_more (ev_local (t := t1 + 1) a2 hmst (spliced_nil ⟨a2.bh _ _ (hb1.k _ _ ho4), ?_⟩)) (by kernel_rfl)) (by kernel_rfl)
    refine s1_ok (k := k + 1) (s := s) ok hb1 (rdr.ext e1) (stm.ext e1) a2' pl hfr hok (by omega) (rd.ext e1) hr (h3 h85) (fun x rest hns hle B3 h3' t3 ep3 tx a3 e3 => ?_) (fun msg hmsg lit' B3 base h3' t3 ep3 e f e3 => ?_)
    · have a3' : At X (envM w L).locals ((p, accOb d it ep) :: (d, dicZ hs t z) :: (L0, oL0) :: (l, lisOb ((lit.toList.drop 1).drop x.toNat).toArray ep3) :: R) B₀ h₀ m B3 h3' := (At.pull 3 a3).pull 3
      have e3' := e1.trans e3
      refine spliced_nil ⟨fun b o e => a3'.bh b o (e3 b o e), ?_⟩
      refine push_ok (k := k + 3) (x := Str.ofString "") (y := latin (rest.take x.toNat)) ok (hb.ext e3') a3' (by omega) (.str ..) (.str ..) fun B4 h4 t4 u ep4 a4 e4 r4 => x_nil ?_
      have a4' : At X (envM w L).locals ((L0, oL0) :: (l, lisOb ((lit.toList.drop 1).drop x.toNat).toArray ep3) :: (p, accOb d (it.push u) ep4) :: (d, dicZ hs t z) :: R) B₀ h₀ m B4 h4 := At.unpull 3 (At.unpull 3 a4)
      refine next (rest.drop x.toNat) (xs ++ [(Str.ofString "", latin (rest.take x.toNat))]) .none .none _ ep3 _ ep4 m B4 h4 t4 (.inr ⟨h85, x, rest, hns, hle, rfl, rfl, rfl⟩) a4' (e3'.trans e4) ?_ ?_ (.none _) hmp ⟨rfl, rfl, rfl⟩
      · have := ((rd.drop 1).drop x.toNat).ext (e3'.trans e4)
        rw [hns] at this
        simpa using this
      · simp only [List.map_append, List.map_cons, List.map_nil, Array.toList_push]
        exact RdAll.append (r.ext (e3'.trans e4)) (.cons r4 (.nil _))
    · exact halt msg ⟨h85, hmsg⟩ lit' B3 base h3' t3 ep3 e f (e1.trans e3)
  have h85 : sg ≠ 85 := by simpa using hc
  refine x_seq (x_if ok a1 (te_cmp Fm.mono (pe_local hms (rs.ext e1)) pe_int (cop_eqi _ _)) (fun hc2 B2 h2 t2 a2 e2 => ?_) (fun hc2 B2 h2 t2 a2 e2 => ?_))
  · have h40 : sg = 40 := by simpa using hc2
    have e2' := e1.trans e2
    have hb2 := hb.ext e2'
    have a2' : At X (envM w L).locals ((p, accOb d it ep) :: (d, dicZ hs t z) :: (L0, oL0) :: (l, lisOb lit lep) :: R) B₀ h₀ m B2 h2 := (a2.pull 3).pull 3
    refine x_seq (x_expr (wp_method rfl (by kernel_rfl) (by kernel_rfl) (ev_local a2 hma (gm_push hb2 a2' fun h3' a3 => ?_))))
    refine callWith_meth (h₀ := B2) (o := ⟨oc3, od3, .func (fdPush w), osl3⟩) rfl (hb2.k _ _ ho3) (spliced_more (wpAny_Constant_str (spliced_more (wpAny_Constant_str (spliced_nil ⟨a3.bh, ?_⟩)) (by kernel_rfl))) (by kernel_rfl)) (by kernel_rfl)
    refine push_ok (k := k + 3) (s := s) (tk := t2 + 1 + 1) (x := Str.ofString "(") (y := Str.ofString "") ok hb2 a3 (by omega) (.str ..) (.str ..) fun B4 h4 t4 u ep4 a4 e4 r4 => x_nil (x_nil ?_)
    have a4' : At X (envM w L).locals ((L0, oL0) :: (l, lisOb lit lep) :: (p, accOb d (it.push u) ep4) :: (d, dicZ hs t z) :: R) B₀ h₀ m B4 h4 := At.unpull 3 (At.unpull 3 a4)
    refine next ns (xs ++ [opn]) .none .none _ lep _ ep4 m B4 h4 t4 (.inl ⟨h85, rfl, by rw [mstep, if_pos h40], by rw [popD, if_neg (by omega)]⟩) a4' (e2'.trans e4) (rd.ext (e2'.trans e4)) ?_ (.none _) hmp ⟨rfl, rfl, rfl⟩
    simp only [List.map_append, List.map_cons, List.map_nil, Array.toList_push]
    exact RdAll.append (r.ext (e2'.trans e4)) (.cons r4 (.nil _))
  have h40 : sg ≠ 40 := by simpa using hc2
  have e2' := e1.trans e2
  have hb2 := hb.ext e2'
  refine x_seq (x_if ok a2 (te_cmp Fm.mono (pe_local hms (rs.ext e2')) pe_int (cop_eqi _ _)) (fun hc3 B3 h3' t3 a3 e3 => ?_) (fun hc3 B3 h3' t3 a3 e3 => ?_))
  · have h48 : sg = 48 := by simpa using hc3
    have e3' := e2'.trans e3
    have hb3 := hb.ext e3'
    obtain ⟨oc5, od5, osl5, ho5⟩ := isPop w
    have a3' : At X (envM w L).locals ((p, accOb d it ep) :: (d, dicZ hs t z) :: (L0, oL0) :: (l, lisOb lit lep) :: R) B₀ h₀ m B3 h3' := (a3.pull 3).pull 3
    refine x_seq (x_assignR (X := X) (B₀ := B₀) (h₀ := h₀) (m := m) (wp_method rfl (by kernel_rfl) (by kernel_rfl) (ev_local a3 hma (gm_pop hb3 a3' fun h4 a4 => ?_))))
    refine callWith_meth0 (o := ⟨oc5, od5, .func (fdPop w), osl5⟩) rfl (a4.bh _ _ (hb3.k _ _ ho5)) (pop_ok (k := k + 2) (s := s) ok hb3 hp a4 (by omega) (fun hz0 B5 h5 t5 v5 a5 e5 r5 => ?_) (fun it5 u hit B5 h5 t5 ep5 a5 e5 => ?_))
    · have a5' : At X (envM w L).locals ((L0, oL0) :: (l, lisOb lit lep) :: (p, accOb d it ep) :: (d, dicZ hs t z) :: R) B₀ h₀ m B5 h5 := At.unpull 3 (At.unpull 3 a5)
      refine ⟨_, B5, h5, t5, rfl, a5', fun h6 a6 t6 => x_nil (x_nil (x_nil ?_))⟩
      have hnil : xs = [] := List.length_eq_zero_iff.mp (by omega)
      subst hnil
      refine next ns [] (pairD nop) v5 _ lep _ ep _ B5 h6 t6 (.inl ⟨h85, rfl, by rw [mstep, if_neg h40, if_pos h48]; rfl, by rw [popD, if_pos h48]; rfl⟩) a6 (e3'.trans e5) (rd.ext (e3'.trans e5)) (r.ext (e3'.trans e5)) r5 upd_self ⟨upd_ne rfl, upd_ne rfl, upd_ne rfl⟩
    · have a5' : At X (envM w L).locals ((L0, oL0) :: (l, lisOb lit lep) :: (p, accOb d it5 ep5) :: (d, dicZ hs t z) :: R) B₀ h₀ m B5 h5 := At.unpull 3 (At.unpull 3 a5)
      refine ⟨_, B5, h5, t5, rfl, a5', fun h6 a6 t6 => x_nil (x_nil (x_nil ?_))⟩
      have hne : xs ≠ [] := fun q => by subst q; rw [hit] at hlen; simp at hlen
      have hxs : xs = xs.dropLast ++ [xs.getLast hne] := (List.dropLast_concat_getLast hne).symm
      have rr := r.ext (e3'.trans e5)
      rw [hit, hxs] at rr
      simp only [List.map_append, List.map_cons, List.map_nil, Array.toList_push] at rr
      have hl5 : it5.toList.length = (xs.dropLast.map pairD).length := by
        rw [hit] at hlen; simp at hlen ⊢; omega
      have r1 : RdAll B5 it5.toList (xs.dropLast.map pairD) := by
        have := rr.take it5.toList.length
        rw [List.take_left, hl5, List.take_left] at this
        exact this
      have r2 : RdAll B5 [u] [pairD (xs.getLast hne)] := by
        have := rr.drop it5.toList.length
        rw [List.drop_left, hl5, List.drop_left] at this
        exact this
      obtain ⟨u', us, e, ru, _⟩ := r2.cons_inv
      cases e
      refine next ns xs.dropLast (pairD (xs.getLast hne)) u _ lep _ ep5 _ B5 h6 t6 (.inl ⟨h85, rfl, by rw [mstep, if_neg h40, if_pos h48], by rw [popD, if_pos h48, List.getLast?_eq_some_getLast hne]; rfl⟩) a6 (e3'.trans e5) (rd.ext (e3'.trans e5)) r1 ru upd_self ⟨upd_ne rfl, upd_ne rfl, upd_ne rfl⟩
  · have h48 : sg ≠ 48 := by simpa using hc3
    have e3' := e2'.trans e3
    have a3' : At X (envM w L).locals ((p, accOb d it ep) :: (d, dicZ hs t z) :: (L0, oL0) :: (l, lisOb lit lep) :: R) B₀ h₀ m B3 h3' := (a3.pull 3).pull 3
    have key : Wx w A (execs (ePart w).1 (envM w L)) (fun f s' => f = .next ∧ Q .next s') E (St s h3' t3) := by
      refine x_else ok (hb.ext e3') hp a3' hma hms (rs.ext e3') (r.ext e3') px hN h40 h48 fun it' ep' m' B' h' tk' a' e' r' kn => ⟨rfl, ?_⟩
      have a'' : At X (envM w L).locals ((L0, oL0) :: (l, lisOb lit lep) :: (p, accOb d it' ep') :: (d, dicZ hs t z) :: R) B₀ h₀ m' B' h' := At.unpull 3 (At.unpull 3 a')
      exact next ns _ .none .none _ lep _ ep' m' B' h' tk' (.inl ⟨h85, rfl, rfl, by rw [popD, if_neg h48]⟩) a'' (e3'.trans e') (rd.ext (e3'.trans e')) r' (.none _) (kn.2.2.2.1.trans hmp) ⟨kn.1, kn.2.1, kn.2.2.1⟩
    exact wx (wpAny_mono (xw key) (fun f s' q => by obtain ⟨rfl, q⟩ := q; exact x_nil (x_nil q)) fun _ _ e => e)
end Mine
end
section
open PySem PySem.W PyProof.Rows PySem.Calls
set_option Elab.async false
set_option maxRecDepth 100000
set_option linter.unusedVariables false
set_option linter.unusedSimpArgs false
namespace Mine
/-- the machine, plainly -/
noncomputable def mrun (size : Int) : Nat → List Int → Pcs → List PyData × Str
  | _, [], _ => ([], msg1)
  | 0, _ :: _, _ => ([], msg1)
  | n + 1, sg :: ns, xs =>
    if sg = 85 then
      match ns with
      | [] => ([], msg1)
      | x :: r => if x.toNat ≤ r.length then
          (logD .none (xs ++ [(Str.ofString "", latin (r.take x.toNat))]) size :: (mrun size n (r.drop x.toNat) (xs ++ [(Str.ofString "", latin (r.take x.toNat))])).1, (mrun size n (r.drop x.toNat) (xs ++ [(Str.ofString "", latin (r.take x.toNat))])).2)
        else ([], fmtE x.toNat r.length)
    else (logD (popD xs sg) (mstep xs sg) size :: (mrun size n ns (mstep xs sg)).1, (mrun size n ns (mstep xs sg)).2)
noncomputable def okRun : Nat → List Int → Prop
  | _, [] => True
  | 0, _ :: _ => False
  | n + 1, sg :: ns =>
    if sg = 85 then
      match ns with
      | [] => True
      | x :: r => x ≤ 3 ∧ (x.toNat ≤ r.length → okRun n (r.drop x.toNat))
    else okRun n ns
theorem mrun_nil (size : Int) (n : Nat) (xs : Pcs) : mrun size n [] xs = ([], msg1) := by cases n <;> rfl
theorem mrun_turn {size sg : Int} {n : Nat} {ns ns' : List Int} {xs xs' : Pcs} {pd : PyData} (h : Turn sg ns xs ns' xs' pd) : mrun size (n + 1) (sg :: ns) xs = (logD pd xs' size :: (mrun size n ns' xs').1, (mrun size n ns' xs').2) := by
  rcases h with ⟨h1, rfl, rfl, rfl⟩ | ⟨h1, x, r, rfl, h2, rfl, rfl, rfl⟩
  · simp only [mrun]; rw [if_neg h1]
  · simp only [mrun]; rw [if_pos h1, if_pos h2]
theorem mrun_halt {size sg : Int} {n : Nat} {ns : List Int} {xs : Pcs} {msg : Str} (h : Halt sg ns msg) : mrun size (n + 1) (sg :: ns) xs = ([], msg) := by
  obtain ⟨h1, ⟨rfl, rfl⟩ | ⟨x, r, rfl, h2, rfl⟩⟩ := h
  · simp only [mrun]; rw [if_pos h1]
  · simp only [mrun]; rw [if_pos h1, if_neg (by omega)]
theorem okRun_turn {sg : Int} {n : Nat} {ns ns' : List Int} {xs xs' : Pcs} {pd : PyData} (h : Turn sg ns xs ns' xs' pd) (o : okRun (n + 1) (sg :: ns)) : okRun n ns' := by
  rcases h with ⟨h1, rfl, rfl, rfl⟩ | ⟨h1, x, r, rfl, h2, rfl, rfl, rfl⟩
  · simp only [okRun] at o; rw [if_neg h1] at o; exact o
  · simp only [okRun] at o; rw [if_pos h1] at o; exact o.2 h2
theorem okRun_mono : ∀ {n : Nat} {ns : List Int}, okRun n ns → okRun ns.length ns
  | n, [], _ => by simp [okRun]
  | 0, _ :: _, h => h.elim
  | n + 1, sg :: ns, h => by
    have key : ∀ (j : Nat) (l : List Int) (i : Nat), okRun j l → l.length ≤ i → okRun i l := by
      intro j
      induction j with
      | zero =>
        intro l i hl _
        cases l with
        | nil => simp [okRun]
        | cons _ _ => exact hl.elim
      | succ j ih =>
        intro l i hl hi
        cases l with
        | nil => simp [okRun]
        | cons y r =>
          cases i with
          | zero => simp at hi
          | succ i =>
            simp only [List.length_cons] at hi
            simp only [okRun] at hl ⊢
            split at hl
            · rename_i c
              rw [if_pos c]
              cases r with
              | nil => trivial
              | cons x r =>
                simp only [List.length_cons] at hi
                exact ⟨hl.1, fun hx => ih _ i (hl.2 hx) (by simp; omega)⟩
            · rename_i c
              rw [if_neg c]
              exact ih _ i hl (by omega)
    exact key (n + 1) (sg :: ns) _ h (Nat.le_refl _)
theorem okRun_three {sg : Int} {n : Nat} {ns : List Int} (o : okRun (n + 1) (sg :: ns)) (h : sg = 85) : ∀ x r, ns = x :: r → x ≤ 3 := by
  rintro x r rfl
  simp only [okRun] at o
  rw [if_pos h] at o
  exact o.1
/-- bounds that a turn keeps -/
structure Fits (N : Nat) (ns : List Int) (xs : Pcs) : Prop where
  chars : ∀ x ∈ xs, PyData.strOk x.1 = true ∧ PyData.strOk x.2 = true
  sum : lenSum xs + ns.length ≤ N
  len : xs.length + ns.length ≤ N
  oct : ∀ x ∈ ns, 0 ≤ x ∧ x < 256
theorem Fits.pc {N : Nat} {ns : List Int} {xs : Pcs} (h : Fits N ns xs) : PcOk N xs := ⟨h.chars, by have := h.sum; omega, by have := h.len; omega⟩
theorem latin_length (l : List Int) : (latin l).length = l.length := by simp [latin, Str.length]
theorem latin_ok {l : List Int} (h : ∀ x ∈ l, 0 ≤ x ∧ x < 256) : PyData.strOk (latin l) = true := by
  unfold PyData.strOk latin
  rw [Array.all_eq_true']
  intro c hc
  simp only [List.mem_toArray, List.mem_map] at hc
  obtain ⟨x, hx, rfl⟩ := hc
  have := h x hx
  exact decide_eq_true (by omega)
theorem strOk_app {a b : Str} (ha : PyData.strOk a = true) (hb : PyData.strOk b = true) : PyData.strOk (a ++ b) = true := by
  unfold PyData.strOk at *
  show (a.cps ++ b.cps).all _ = true
  rw [Array.all_append, ha, hb]; rfl
theorem strOk_cat {l : List Str} (h : ∀ x ∈ l, PyData.strOk x = true) : PyData.strOk (cat l) = true := by
  induction l with
  | nil => decide +kernel
  | cons x r ih => exact strOk_app (h x (.head _)) (ih fun y hy => h y (.tail _ hy))
theorem lenSum_take (xs : Pcs) (n : Nat) : lenSum (xs.take n) ≤ lenSum xs := by
  have := lenSum_append (xs.take n) (xs.drop n)
  rw [List.take_append_drop] at this
  have := lenSum_nonneg (xs.drop n)
  omega
theorem placeAt_is (xs : Pcs) : ∀ n, 0 ≤ placeAt xs n → xs.getD (placeAt xs n).toNat nop = opn
  | 0, h => by simp [placeAt] at h
  | n + 1, h => by
    unfold placeAt at h ⊢
    split
    · rename_i e
      simpa using e
    · rename_i e
      rw [if_neg e] at h
      exact placeAt_is xs n h
theorem opn_len : lenSum [opn] = 1 := by decide +kernel
theorem one_len : (Str.ofString "(").length = 1 ∧ (Str.ofString ")").length = 1 ∧ (Str.ofString "").length = 0 := by decide +kernel
theorem ok_signs : PyData.strOk (Str.ofString "(") = true ∧ PyData.strOk (Str.ofString ")") = true ∧ PyData.strOk (Str.ofString "") = true := by decide +kernel
theorem mstep_fits {N : Nat} {sg : Int} {ns : List Int} {xs : Pcs} (h : Fits N (sg :: ns) xs) : Fits N ns (mstep xs sg) := by
  have h1 := h.sum
  have h2 := h.len
  simp only [List.length_cons] at h1 h2
  have ho : ∀ x ∈ ns, 0 ≤ x ∧ x < 256 := fun x hx => h.oct x (.tail _ hx)
  unfold mstep
  split
  · refine ⟨fun x hx => ?_, ?_, ?_, ho⟩
    · rcases List.mem_append.mp hx with hx | hx
      · exact h.chars x hx
      · rw [List.mem_singleton.mp hx]; exact ⟨ok_signs.1, ok_signs.2.2⟩
    · rw [lenSum_append, opn_len]; omega
    · simp; omega
  split
  · refine ⟨fun x hx => h.chars x (List.dropLast_subset _ hx), ?_, ?_, ho⟩
    · have := lenSum_take xs (xs.length - 1)
      rw [List.dropLast_eq_take]; omega
    · simp; omega
  split
  · exact ⟨h.chars, by omega, by omega, ho⟩
  rename_i hp
  have hlt := placeAt_lt xs xs.length
  have hpl : (placeK xs).toNat < xs.length := by unfold placeK at hp ⊢; omega
  have hop := placeAt_is xs xs.length (by unfold placeK at hp; omega)
  have hsplit := lenSum_append (xs.take (placeK xs).toNat) (xs.drop (placeK xs).toNat)
  rw [List.take_append_drop] at hsplit
  split
  · have hdr : xs.drop (placeK xs).toNat = opn :: (xs.drop (placeK xs).toNat).drop 1 := by
      have e1 : xs[(placeK xs).toNat] = opn := by
        rw [List.getD_eq_getElem?_getD, List.getElem?_eq_getElem (by unfold placeK at hpl; exact hpl)] at hop
        exact hop
      rw [List.drop_eq_getElem_cons hpl, e1]; simp
    have hcl := cat_app_length ((xs.drop (placeK xs).toNat).drop 1)
    have hone : lenSum (xs.drop (placeK xs).toNat) = 1 + lenSum ((xs.drop (placeK xs).toNat).drop 1) := by
      rw [hdr]
      have := opn_len
      simp only [lenSum] at this
      simp only [lenSum, List.drop_succ_cons, List.drop_zero]
      omega
    refine ⟨fun x hx => ?_, ?_, ?_, ho⟩
    · rcases List.mem_append.mp hx with hx | hx
      · exact h.chars x (List.mem_of_mem_take hx)
      · rw [List.mem_singleton.mp hx]
        refine ⟨ok_signs.1, strOk_app (strOk_cat fun y hy => ?_) ok_signs.2.1⟩
        obtain ⟨z, hz, rfl⟩ := List.mem_map.mp hy
        have := h.chars z (List.mem_of_mem_drop (List.mem_of_mem_drop hz))
        exact strOk_app this.1 this.2
    · rw [lenSum_append]
      have : lenSum [closePc (xs.drop (placeK xs).toNat)] = 2 + lenSum ((xs.drop (placeK xs).toNat).drop 1) := by
        simp only [lenSum, closePc, app_length]
        have := one_len
        omega
      omega
    · simp; omega
  · refine ⟨fun x hx => h.chars x (List.mem_of_mem_take hx), ?_, ?_, ho⟩
    · have := lenSum_take xs (placeK xs).toNat; omega
    · simp; omega
theorem turn_fits {N : Nat} {sg : Int} {ns ns' : List Int} {xs xs' : Pcs} {pd : PyData} (t : Turn sg ns xs ns' xs' pd) (h : Fits N (sg :: ns) xs) : Fits N ns' xs' ∧ ns'.length ≤ ns.length := by
  rcases t with ⟨h1, rfl, rfl, rfl⟩ | ⟨h1, x, r, rfl, h2, rfl, rfl, rfl⟩
  · exact ⟨mstep_fits h, Nat.le_refl _⟩
  · have h3 := h.sum
    have h4 := h.len
    simp only [List.length_cons] at h3 h4
    have ho : ∀ y ∈ r, 0 ≤ y ∧ y < 256 := fun y hy => h.oct y (.tail _ (.tail _ hy))
    refine ⟨⟨fun y hy => ?_, ?_, ?_, fun y hy => ho y (List.mem_of_mem_drop hy)⟩, ?_⟩
    · rcases List.mem_append.mp hy with hy | hy
      · exact h.chars y hy
      · rw [List.mem_singleton.mp hy]
        exact ⟨ok_signs.2.2, latin_ok fun z hz => ho z (List.mem_of_mem_take hz)⟩
    · rw [lenSum_append]
      have : lenSum [(Str.ofString "", latin (r.take x.toNat))] = x.toNat := by
        simp only [lenSum, latin_length, List.length_take]
        have := one_len.2.2
        omega
      rw [this, List.length_drop]
      omega
    · simp; omega
    · simp; omega
end Mine
end
section
open PySem PySem.W PyProof.Rows PySem.Calls
set_option Elab.async false
set_option maxRecDepth 100000
set_option linter.unusedVariables false
set_option linter.unusedSimpArgs false
namespace Mine
/-- a flag is set on an error that is held -/
theorem held_again {w : World} {A : Around} {E : Value → Shared → Prop} {s : Shared} {base : Heap} {l : List Env} {env : Env} {e L : Addr} {cls a0 : Value} {Q : Unit → Shared → Prop} (hf : env.frame = some L) (hh : Heap.HeldW base l e cls a0 L s.heap)
    (hQ : ∀ h', Heap.HeldW base l e cls a0 L h' → s.heap.UpToSlots h' → Q () { s with heap := h' }) : wpAny (model Pr w) A (do
      if (← field (.ref e) 1) == .none then unsupported "frame.own-activation:exception-without-traceback"
      setFlight (.ref e) env.frame) Q E s := by
  obtain ⟨f1, f2, f3, oe, vs, T, oT, ts, he, hc, hd, h1, hnT, hTe, hT, hdT, h3⟩ := hh
  have hsz3 : 3 < ts.size := (Array.getElem?_eq_some_iff.mp h3).1
  have other : ∀ b, b ≠ T → (s.heap.update T (Obj.mapFields (·.setIfInBounds 3 (rawInt L)))).get? b = s.heap.get? b := fun b hb => Heap.get?_update_other _ _ (Ne.symm hb)
  have notT : ∀ b o, s.heap.get? b = some o → (∀ vs, o.data ≠ .fields vs) → b ≠ T := fun b o hb hnf q => by
    rw [q, hT] at hb; cases hb; exact hnf ts hdT
  refine wpAny_bind (wpAny_field he hd h1 ?_)
  rw [if_neg (show ¬ ((Value.ref T == Value.none) = true) from Bool.false_ne_true)]
  unfold setFlight
  refine wpAny_bind (wpAny_field he hd h1 ?_)
  rw [if_pos (show (Value.ref T != Value.none) = true from by simp), hf]
  refine wpAny_setField hT hdT hsz3 (hQ _ ⟨fun b o hbo => (other b fun q => by rw [q, hnT] at hbo; cases hbo).trans (f1 b o hbo), f2, f3.of_keeps fun b o hb hnf => ⟨o, (other b (notT b o hb hnf)).trans hb, rfl⟩, oe, vs, T, _, _, (other e (Ne.symm hTe)).trans he, hc, hd, h1, hnT, hTe, Heap.get?_update_self _ hT (Obj.isFreed_of_fields (Obj.data_mapFields hdT _)), Obj.data_mapFields hdT _, ?_⟩ fun b o hb hn => ⟨o.slots, (other b (notT b o hb hn)).trans hb⟩)
  simp [hsz3]
section
variable {w : World} {X : List Addr} {L : Addr} {T M G : List (Addr × Obj)} {B₀ h₀ B h : Heap} {m : Str → Option Value}
/-- from the loop's turn to the handlers -/
theorem caught {A : Around} {s : Shared} {tk : Nat} {env : Env} {fs : List Env} {e : Addr} {base : Heap} {msg : Str} {hs : List ExceptHandler} {Q : Flow → Shared → Prop} {E : Value → Shared → Prop} (f : Fly X L G M B₀ h₀ m B base (env :: fs) e msg h) (pl : Plain G) (hfr : A.frames = some (env :: fs)) (hf : env.frame = some L)
    (next : ∀ h', Fly X L G M B₀ h₀ m B base (env :: fs) e msg h' → wpAny (model Pr w) A (handleBy (.ref e) env hs) Q E (St s h' tk)) :
    notedBy (model Pr w) A env (fun e s' => cameBackBy (model Pr w) A env (fun e s₁ => wpAny (model Pr w) A (noteFrame e env) (fun _ s₂ => wpAny (model Pr w) A (setFlight e none) (fun _ s₃ => wpAny (model Pr w) A (handleBy e env hs) Q E s₃) E s₂) E s₁) e s') (.ref e) (St s h tk) := by
  obtain ⟨t, tm, hfl, htp⟩ := f.fl
  refine wpAny_looks_onW (s := St s h tk) hfr hf hfl fun h1 hh1 u1 => ?_
  refine held_again (s := St s h1 tk) hf hh1 fun h2 hh2 u2 => ?_
  refine wpAny_noteFrame_againW (s := St s h2 tk) hf hh2.2.2.2 ?_
  refine wpAny_landsW (s := St s h2 tk) hh2 fun h3 hfl3 u3 => ?_
  have u := (Heap.UpToSlots.trans u1 u2).trans u3
  refine next h3 ?_
  obtain ⟨G', sg, a⟩ := f.at_
  obtain ⟨G'', sg', a'⟩ := At.slots (G' := []) a (pl.same sg) f.bB f.bM f.b0 hfl3.1 u
  exact ⟨⟨G'', sg.trans sg', a'⟩, f.bB, f.bM, f.b0, f.bL, t, tm, hfl3, htp.of_slots u⟩
/-- a call of a def with one cell -/
theorem call_defC {k : Nat} {A : Around} {s : Shared} {tk : Nat} {oL : Obj} {f : Addr} {fd : FuncData} {body : List Stmt} {vs : List Value} {binds : List (Str × Value)} {x : Str} {Q E : Value → Shared → Prop} (ok : Ok (k + 1) A) (hb : Bs w B) (a : At X L (T ++ M) B₀ h₀ m B h) (hoL : h.get? L = some oL) (ho : ∃ c d s, (Kf w).lookup f = some ⟨c, d, .func fd, s⟩) (hc : codeIn (Kf w) fd.code fd.qualname = true) (hbody : fd.body = .stmts body)
    (hbind : bindArgs fd ⟨vs, []⟩ = pure binds) (hclo : fd.closure = []) (hloc : ((binds.map (·.1)).all fun x => decide (fd.scope.names.lookup x = some .local)) = true) (hcs : ∀ n, cellsFrom n fd.scope.names [] = [(x, n)])
    (hw : ∀ L' h₁ oc tk₁, oc.data = .cell none → At (L :: T.map (·.1)) L' ((L' + 1, oc) :: (L, oL) :: T) B h (bindL (callEnvC fd L' f).kindOf binds fun _ => none) B h₁ → Wx w (A.deeper (callEnvC fd L' f)) (execs body (callEnvC fd L' f)) (fun fl s' => Q (match fl with | .ret v => v | _ => .none) s')
      (fun e s' => wpAny (model Pr w) (A.deeper (callEnvC fd L' f)) (leaving (callEnvC fd L' f) e) (fun _ s'' => E e s'') (fun e' s'' => E e' s'') s') (St s h₁ tk₁))
    (hco : fd.scope.isCoroutine = false := by kernel_rfl) (hgen : fd.scope.isGenerator = false := by kernel_rfl) (hk : fd.scope.kind = .function := by kernel_rfl) : wpAny (model Pr w) A (call (.ref f) vs) Q E (St s h tk) := by
  obtain ⟨oc, od, osl, ho⟩ := ho
  refine wpAny_call (codeAny_call_cells (s := St s h tk) (fd := fd) (body := body) (binds := binds) ok.room (a.bh _ _ (hb.k _ _ ho)) rfl (hb.lim.keeps a.bh) (codeRec_of (hb.k.keeps a.bh) hc) hbody hbind hclo (fun x hx => .inl (of_decide_eq_true (List.all_eq_true.mp hloc x.1 (List.mem_map_of_mem hx)))) (fun s₁ I => ?_) hco hgen hk)
  obtain ⟨⟨⟨h₁, tk₁, rfl⟩, hns, hkp, hfr⟩, hcell, hap, hab⟩ := I
  have hz : (St s h tk).heap.objs.size = h.objs.size := rfl
  have hlk : (callEnvC fd h.objs.size f).cells.lookup x = some (h.objs.size + 1) := by
    show (cellsFrom (h.objs.size + 1) fd.scope.names []).lookup x = _
    rw [hcs]; simp
  obtain ⟨o1, ho1, hd1⟩ := hcell x _ hlk
  have hbc : (bindC (callEnvC fd h.objs.size f).kindOf binds fun _ => none) x = none := by
    have : ∀ (bs : List (Str × Value)) (m : Str → Option Value), (∀ y ∈ bs, (callEnvC fd h.objs.size f).kindOf y.1 = some .local) → bindC (callEnvC fd h.objs.size f).kindOf bs m = m := by
      intro bs
      induction bs with
      | nil => intro m _; rfl
      | cons y r ih =>
        intro m hy
        unfold bindC
        rw [if_pos (hy y (.head _))]
        exact ih m fun z hz => hy z (.tail _ hz)
    rw [this _ _ fun y hy => of_decide_eq_true (List.all_eq_true.mp hloc y.1 (List.mem_map_of_mem hy))]
  rw [show (bindC (callEnvC fd (St s h tk).heap.objs.size f).kindOf binds fun _ => none) x = none from hbc] at hd1
  have a1 := a.enterL (L' := h.objs.size) hoL rfl hns hkp
  have hnM : (h.objs.size + 1 : Addr) ∉ ((L, oL) :: T).map (·.1) := fun hm => by
    obtain ⟨q, hq, e⟩ := List.mem_map.mp hm
    have hlt : q.1 < h.objs.size := by
      rcases List.mem_cons.mp hq with rfl | hq
      · exact a.ltL
      · exact Heap.lt_size (a.own q (List.mem_append_left _ hq))
    rw [e] at hlt
    exact Nat.lt_irrefl _ (Nat.lt_of_succ_lt hlt)
  have a2 := a1.addNew ho1 hnM (Nat.ne_of_gt (Nat.lt_succ_self _)) (by
    cases e : B.get? (h.objs.size + 1) with
    | none => rfl
    | some o => exact absurd (Heap.lt_size (a.bh _ _ e)) (Nat.not_lt.mpr (Nat.le_succ _))) (Nat.le_succ _)
  exact wpAny_mono (xw (hw h.objs.size h₁ o1 tk₁ hd1 a2)) (fun fl s' q => q) fun _ _ q => q
end
end Mine
end
section
open PySem PySem.W PyProof.Rows PySem.Calls
set_option Elab.async false
set_option maxRecDepth 100000
set_option linter.unusedVariables false
set_option linter.unusedSimpArgs false
namespace Mine
section
variable {w : World} {X : List Addr} {L : Addr} {M N : List (Addr × Obj)} {B₀ h₀ B h : Heap} {m : Str → Option Value}
/-- what an inner frame has made comes under watch -/
theorem At.join {C : Addr} {m' : Str → Option Value} {B' h' : Heap} (a : At X L M B₀ h₀ m B h) (b : At [] C N B h m' B' h') : At X L (N ++ M) B₀ h₀ m B' h' := by
  have c := At.back (T := []) (T' := []) (M' := N) (M := M) a b rfl
  have lt : ∀ p ∈ M, p.1 < h.objs.size := fun p hp => Heap.lt_size (a.own p hp)
  have ge : ∀ p ∈ N, h.objs.size ≤ p.1 := fun p hp => (b.offM p hp).2.2.resolve_left (by simp)
  refine ⟨c.ns, fun p hp => ?_, c.offL, c.newL, fun p hp => ?_, ?_, c.bh, c.bb, c.kp, c.sz, c.fresh⟩
  · rcases List.mem_append.mp hp with hp | hp
    · exact b.own p hp
    · exact c.own p hp
  · rcases List.mem_append.mp hp with hp | hp
    · exact ⟨(b.offM p hp).1, Nat.ne_of_gt (Nat.lt_of_lt_of_le a.ltL (ge p hp)), .inr (Nat.le_trans a.sz (ge p hp))⟩
    · exact c.offM p hp
  · rw [List.map_append]
    refine List.nodup_append.mpr ⟨b.nd, a.nd, fun x hx y hy e => ?_⟩
    subst e
    obtain ⟨p, hp, rfl⟩ := List.mem_map.mp hx
    obtain ⟨q, hq, e⟩ := List.mem_map.mp hy
    exact Nat.lt_irrefl _ (Nat.lt_of_lt_of_le (e ▸ lt q hq) (ge p hp))
/-- a comprehension whose list stays under watch -/
theorem ev_compT {k : Nat} {env : Env} {A : Around} {s : Shared} {tk : Nat} {E : Value → Shared → Prop} {elt target iter : Expr} {ifs : List Expr} {scope : Scope} {pos : Pos} {cl : List (Str × Addr)} {src : Heap → Prop} {n : Nat} {st : Addr → Nat → Obj → Prop} {val el : Nat → PyData} {keep : Nat → Bool} {know : Nat → Heap → (Str → Option Value) → Prop} {Q : Value → Shared → Prop}
    (ok : Ok k A) (a : At X env.locals M B₀ h₀ m B h) (it : ItE w k (Fm env m M) env B iter src n st val) (c : CompOk w k (Fm env m M) env B target elt ifs scope cl src n st val el keep know) (hn : n ≤ sizeLine)
    (q : ∀ D ys nn B' h' tk', At X env.locals ((D, listOb ys nn) :: M) B₀ h₀ m B' h' → Ext B B' → RdAll B' ys.toList (outs keep el n) → Q (.ref D) (St s h' tk')) (hs : ∀ x, foldedSetIterable iter env x = pure x := by intro _; rfl) :
    wpAny (model Pr w) A (eval (.ListComp elt [⟨target, iter, ifs, 0⟩] scope pos) env) Q E (St s h tk) := by
  rw [eval_ListComp]
  refine wpAny_comprehension_free (use := none) (g := ⟨target, iter, ifs, 0⟩) (gs := []) rfl hs c.clos c.kind (fun x hx hl => by
    have := List.all_eq_true.mp c.names x hx
    rw [hl] at this
    simpa using this) (it A (St s h tk) _ E ok a.bh a.fm fun I l o B' h' tk stp hIn hIB hI ho t => ?_)
  refine comp_run (RR := fun acc C r s' => compPost (model Pr w) A E none Q acc C r s') Fm.mono c hn ok a.bh a.fm stp hIn hIB hI ho t fun D C m' B'' h'' tk' ys nn b r => ?_
  refine ⟨m', b.ns, fun h₃ hs₃ => ?_⟩
  have j := a.join b
  have hCL : env.locals ≠ C := Nat.ne_of_lt (Nat.lt_of_lt_of_le a.ltL b.newL)
  refine q D ys nn B'' h₃ tk' (j.other hs₃ b.offL hCL (fun p hp => ?_) (Nat.le_trans a.sz b.newL)) b.bb r
  rcases List.mem_append.mp hp with hp | hp
  · exact (b.offM p hp).2.1
  · exact Nat.ne_of_lt (Nat.lt_of_lt_of_le (Heap.lt_size (a.own p hp)) b.newL)
end
/-- the machine's handlers -/
noncomputable abbrev HPart (w : World) : Type := { x : ExceptHandler // ∃ a0 a1 a2 a3 a4 a5 b q, (fdMachine w).body = .stmts [a0, a1, a2, a3, a4, a5, .Try b [x] [] [] q] }
noncomputable def hPart (w : World) : HPart w := ⟨_, _, _, _, _, _, _, _, _, by unfold fdMachine; rfl⟩
theorem sub_bexc : isSubtype (.type "ValueError") (.type "BaseException") = pure true := by rw [isSubtype_type]; kernel_rfl
theorem sub_self : isSubtype (.type "ValueError") (.type "ValueError") = pure true := by rw [isSubtype_type]; kernel_rfl
theorem not_tup : isSubtype (.type ((Manifest.find? "ValueError").elim "type" fun x => x.metatype)) (.type "tuple") = pure false := by rw [isSubtype_type]; kernel_rfl
set_option maxHeartbeats 2000000 in
theorem m_finish {w : World} {k : Nat} {A : Around} {s : Shared} {h : Heap} {tk : Nat} {E : Value → Shared → Prop} {Q : Flow → Shared → Prop} {X : List Addr} {L : Addr} {G R : List (Addr × Obj)} {B₀ h₀ B base : Heap} {m : Str → Option Value} {lg e : Addr} {lv : Array Value} {lep : Nat} {fs : List Env} {msg : Str} {ds : List PyData}
    (ok : Ok (k + 4) A) (hb : Bs w B) (f : Fly X (envM w L).locals G ((lg, lisOb lv lep) :: R) B₀ h₀ m B base fs e msg h) (pl : Plain G) (hlg : h₀.objs.size ≤ lg) (hml : m (Str.ofString "log") = some (.ref lg)) (rl : RdAll B lv.toList ds)
    (q : ∀ G' m' v B' h' tk', SameG G G' → At X (envM w L).locals (G' ++ R) B₀ h₀ m' B' h' → Ext B B' → Rd B' v (.tuple [.list ds, .str msg]) → Q (.ret v) (St s h' tk')) :
    wpAny (model Pr w) A (handleBy (.ref e) (envM w L) [(hPart w).1]) Q E (St s h tk) := by
  obtain ⟨t, tm, hfl, htp⟩ := f.fl
  obtain ⟨G0, sg0, a0⟩ := f.at_
  refine wpAny_handleBy_builtin_as (X := "ValueError") (T := "ValueError") (b := true) sub_bexc not_tup sub_self (ldr_bi (v := .type "ValueError") hb a0.bh (by kernel_rfl) (by kernel_rfl) ⟨rfl, ?_, ?_⟩ (by kernel_rfl) (by kernel_rfl) (by kernel_rfl) (by kernel_rfl))
  · obtain ⟨ob, h1, h2⟩ := hfl.there
    exact ⟨ob, h1, h2⟩
  show wpAny _ _ (setFlight (.ref e) none) _ _ _
  refine wpAny_setFlight_noneW (s := St s h tk) hfl.1 hfl.2.2.1 hfl.2.2.2.at fun h1 st1 ff1 tr1 kp1 => ?_
  have u1 : h.UpToSlots h1 := fun b o hb hn => ⟨o.slots, kp1 b o hb hn⟩
  obtain ⟨G1, sg1, a1⟩ := At.slots (G' := []) a0 (pl.same sg0) f.bB f.bM f.b0 st1 u1
  have htp1 := htp.of_slots u1
  refine wpAny_storeName_local (s := St s h1 tk) (by kernel_rfl) a1.ns (fun h2 hn2 hs2 => ?_) (by kernel_rfl)
  have a2 := a1.store hn2 hs2
  obtain ⟨oL, esL, epL, hoL, hdL, _⟩ := a1.ns
  have hex : h2.ExcAt e "ValueError" (.ref t) := by
    obtain ⟨oe, vs, T, oT, ts, he, ⟨hc, h0⟩, hd, _⟩ := tr1
    refine ⟨oe, vs, (hs2.2 e fun q => ?_).trans he, hc, hd, h0⟩
    rw [q, hoL] at he
    cases he
    rw [hdL] at hd
    cases hd
  have htp2 : h2.TupAt t [.str msg tm] := by
    obtain ⟨o, n, ho, hc, hd⟩ := htp1
    refine ⟨o, n, (hs2.2 t fun q => ?_).trans ho, hc, hd⟩
    rw [q, hoL] at ho
    cases ho
    rw [hdL] at hd
    cases hd
  have a2' : At X (envM w L).locals ((lg, lisOb lv lep) :: (G1 ++ R)) B₀ h₀ (Mine.upd m (Str.ofString "error") (.ref e)) B h2 := a2.perm List.perm_middle.symm
  refine xw (x_seq (wx (wpAny_Return_some (Tuple_ (spliced_more (ev_local (s := s) (t := tk + 1) a2' (upd_ne hml) ?_) (by kernel_rfl))))))
  refine spliced_more (wpAny_Call_NameR (ldr_bi (s := St s h2 (tk + 1)) (v := .type "str") hb a2.bh (by kernel_rfl) (by kernel_rfl) ?_ (by kernel_rfl) (by kernel_rfl) (by kernel_rfl) (by kernel_rfl))) (by kernel_rfl)
  refine PyProof.Rows.callWith_type1 (spliced_more (ev_local (s := s) (t := tk + 1) a2' upd_self (spliced_nil ?_)) (by kernel_rfl)) (by kernel_rfl) (by kernel_rfl)
  refine P.str_of_exc_one (s := St s h2 (tk + 1)) PySem.F.excStr_ValueError (by have := ok.units; simp only [Around.mark_units]; omega) hex htp2 ?_
  refine spliced_nil (wpAny_newTuple ?_ (by simp [sizeLine]))
  obtain ⟨B3, a3, e3, g3⟩ := a2'.freeze1 hlg
  obtain ⟨B4, s4, g4⟩ := step_push { cls := .type "tuple", data := .seq [.ref lg, .str msg tm].toArray } a3.bh rfl
  have a4 := a3.step s4
  have e4 := e3.trans s4.bb
  have rv : Rd B4 (.ref h2.objs.size) (.tuple [.list ds, .str msg]) := Rd.tuple ⟨_, g4, rfl, _, rfl⟩ (.cons (Rd.list (vs := lv.toList) ⟨_, s4.bb _ _ g3, rfl, lep, by simp [lisOb]⟩ (rl.ext e4)) (.cons (.str ..) (.nil _)))
  refine wpAny_nameGoes (s := St s _ (tk + 1)) (by kernel_rfl) a4.ns (by kernel_rfl) fun h5 m5 hn5 hs5 => ?_
  exact q G1 m5 _ B4 h5 _ (sg0.trans sg1) (a4.store hn5 hs5) e4 rv
end Mine
end
section
open PySem PySem.W PyProof.Rows PySem.Calls
set_option Elab.async false
set_option maxRecDepth 100000
set_option linter.unusedVariables false
set_option linter.unusedSimpArgs false
namespace Mine
theorem perm7 {α : Type} (a b c d e f g : α) : [g, d, e, f, a, b, c].Perm [a, b, c, d, e, f, g] :=
  ((List.perm_append_comm (l₁ := [g]) (l₂ := [d, e, f])).append_right [a, b, c]).trans (List.perm_append_comm (l₁ := [d, e, f, g]) (l₂ := [a, b, c]))
/-- the machine's try -/
noncomputable abbrev TPart (w : World) : Type := { x : Stmt // ∃ a0 a1 a2 a3 a4 a5, (fdMachine w).body = .stmts [a0, a1, a2, a3, a4, a5, x] }
noncomputable def tPart (w : World) : TPart w := ⟨_, _, _, _, _, _, _, by unfold fdMachine; rfl⟩
/-- how the machine stands at the head of a turn -/
inductive MAt (w : World) (X : List Addr) (L : Addr) (B₀ h₀ B : Heap) (m : Str → Option Value) (L0 l p d lg st fr : Addr) (oL0 o3 : Obj) (hs : Int) (t : Nat) (zi : Int) (tz : Tok) (N : Nat) (res : List PyData × Str) (gens : Array GenState) (ns : List Int) (h : Heap) : Prop where
  | mk (o1 o2 : Obj) (lit : Array Value) (lep : Nat) (it : Array Value) (ep : Nat) (lv : Array Value) (lep2 : Nat) (xs : Pcs) (done : List PyData) (m' : Str → Option Value) (B' : Heap)
    (at_ : At X (envM w L).locals [(L0, oL0), (l, lisOb lit lep), (p, accOb d it ep), (d, dicZ hs t (.int zi tz)), (63, o1), (70, o2), (121, o3), (lg, lisOb lv lep2)] B₀ h₀ m' B' h) (e : Ext B B') (t1 : TabO o1) (t2 : TabO o2) (bare : AllBare gens) (rl : RdAll B' lit.toList (ns.map .int)) (ri : RdAll B' it.toList (xs.map pairD)) (rd : RdAll B' lv.toList done) (kn : Kept3 m m') (fits : Fits N ns xs) (okr : okRun ns.length ns) (len : done.length + ns.length ≤ N)
    (n : Nat) (hn : ns.length ≤ n) (okn : okRun n ns) (eq : res = (done ++ (mrun zi n ns xs).1, (mrun zi n ns xs).2)) : MAt w X L B₀ h₀ B m L0 l p d lg st fr oL0 o3 hs t zi tz N res gens ns h
set_option maxHeartbeats 4000000 in
theorem m_try {w : World} {k : Nat} {A : Around} {s : Shared} {h : Heap} {tk : Nat} {E : Value → Shared → Prop} {Q : Flow → Shared → Prop} {X : List Addr} {L : Addr} {B₀ h₀ B : Heap} {m : Str → Option Value} {L0 l p d lg st fr c : Addr} {oL0 o1 o2 o3 : Obj} {lit : Array Value} {ep lep lep2 : Nat} {hs : Int} {t : Nat} {zi : Int} {tz : Tok} {N : Nat} {ns : List Int} {fs : List Env}
    (ok : Ok (k + 4) A) (hb : Bs w B) (hp : 156 ≤ p) (hd : 156 ≤ d) (rdr : Rdr w B fr c l) (stm : Stm B st fr) (a : At X (envM w L).locals [(L0, oL0), (l, lisOb lit lep), (p, accOb d #[] ep), (d, dicZ hs t (.int zi tz)), (63, o1), (70, o2), (121, o3), (lg, lisOb #[] lep2)] B₀ h₀ m B h) (pl : Plain [(L0, oL0)]) (hfr : A.frames = some (envM w L :: fs)) (hok : FrOk [L, L0] (envM w L :: fs)) (hlg : h₀.objs.size ≤ lg)
    (hml : m (Str.ofString "log") = some (.ref lg)) (hma : m (Str.ofString "acc") = some (.ref p)) (hmst : m (Str.ofString "stream") = some (.ref st)) (rd : RdAll B lit.toList (ns.map .int)) (hr : ∀ x ∈ ns, 0 ≤ x ∧ x < 256) (hN : N = ns.length) (hN2 : N ≤ 10000) (okr : okRun ns.length ns) (h0 : 0 ≤ zi) (h1 : zi ≤ 1000) (ht1 : TabO o1) (ht2 : TabO o2) (bare : AllBare s.gens)
    (q : ∀ G' o1' o2' m' v gens' R B' h' tk', SameG [(L0, oL0)] G' → At X (envM w L).locals (G' ++ ((63, o1') :: (70, o2') :: (121, o3) :: R)) B₀ h₀ m' B' h' → Ext B B' → TabO o1' → TabO o2' → AllBare gens' → Rd B' v (.tuple [.list (mrun zi ns.length ns []).1, .str (mrun zi ns.length ns []).2]) → Q (.ret v) (St { s with gens := gens' } h' tk')) :
    Wx w A (exec (tPart w).1 (envM w L)) Q E (St s h tk) := by
  have hsl : sizeLine = 2 ^ 24 := rfl
  refine wx (wpAny_Try_except (wpAny_execs_cons (wpAny_While ?_)))
  obtain ⟨oc1, od1, osl1, ho1⟩ := isU1 w
  refine codeAny_whileLoop (fun j s' => ∃ ns' h' tk' gens', j = ns'.length ∧ s' = St { s with gens := gens' } h' tk' ∧ MAt w X L B₀ h₀ B m L0 l p d lg st fr oL0 o3 hs t zi tz N (mrun zi ns.length ns []) gens' ns' h') ?_ ns.length
    ⟨ns, h, tk, s.gens, rfl, rfl, ⟨o1, o2, lit, lep, #[], ep, #[], lep2, [], [], m, B, a, Ext.refl _, ht1, ht2, bare, rd, .nil _, .nil _, ⟨rfl, rfl, rfl⟩, ⟨by simp, by simp [lenSum]; omega, by simp; omega, hr⟩, okr, by simp; omega, ns.length, Nat.le_refl _, okr, by simp⟩⟩
  rintro j s' ⟨ns1, h1', tk1, gens1, rfl, rfl, ⟨o1', o2', lit1, lep1, it1, ep1, lv1, lepL, xs1, done1, m1, B1, a1, e1, ht1', ht2', bare1, rd1, r1, rl1, kn1, fit1, okr1, hd1, n, hn, okn, hres⟩⟩
  have hb1 := hb.ext e1
  refine isTrue_plain (wpAny_Constant_bool (wpAny_truthy_bool ?_)) rfl
  show wpAny _ A (execs _ _) _ _ _
  have hN1 := fit1.sum
  have hN2' := fit1.len
  have hllen : lit1.size = ns1.length := by have := rd1.length; simpa using this
  have hlvl : lv1.size = done1.length := by have := rl1.length; simpa using this
  have hmst1 : m1 (Str.ofString "stream") = some (.ref st) := kn1.2.2.trans hmst
  have hma1 : m1 (Str.ofString "acc") = some (.ref p) := kn1.2.1.trans hma
  have hml1 : m1 (Str.ofString "log") = some (.ref lg) := kn1.1.trans hml
  -- the end, from wherever the error came
  have fin : ∀ {msg : Str} {lit2 it2 : Array Value} {ep2 ep3 : Nat} {m2 : Str → Option Value} {B2 base h2 : Heap} {tk2 : Nat} {e : Addr}, Fly X (envM w L).locals [(L0, oL0)] ((l, lisOb lit2 ep2) :: (p, accOb d it2 ep3) :: (d, dicZ hs t (.int zi tz)) :: [(63, o1'), (70, o2'), (121, o3), (lg, lisOb lv1 lepL)]) B₀ h₀ m2 B2 base (envM w L :: fs) e msg h2 → Ext B1 B2 → m2 (Str.ofString "log") = some (.ref lg) → mrun zi ns.length ns [] = (done1, msg) →
      notedBy (model Pr w) A (envM w L) (fun e s' => (match (Except.error e : Result) with | .ok f => (match f with | .next => wpAny (model Pr w) A (execs [] (envM w L)) (fun f s₁ => match f with | .next => wpAny (model Pr w) A (execs [] (envM w L)) Q E s₁ | f => Q f s₁) (fun e s₁ => wpAny (model Pr w) A (noteFrame e (envM w L)) (fun _ s₂ => wpAny (model Pr w) A (setFlight e none) (fun _ s₃ => wpAny (model Pr w) A (handleBy e (envM w L) [(hPart w).1]) Q E s₃) E s₂) E s₁) s' | f => Q f s') | .error e => cameBackBy (model Pr w) A (envM w L) (fun e s₁ => wpAny (model Pr w) A (noteFrame e (envM w L)) (fun _ s₂ => wpAny (model Pr w) A (setFlight e none) (fun _ s₃ => wpAny (model Pr w) A (handleBy e (envM w L) [(hPart w).1]) Q E s₃) E s₂) E s₁) e s')) (.ref e) (St { s with gens := gens1 } h2 tk2) := by
    intro msg lit2 it2 ep2 ep3 m2 B2 base h2 tk2 e f e2 hml2 hr2
    refine caught f pl hfr rfl fun h3 f3 => ?_
    have f3' : Fly X (envM w L).locals [(L0, oL0)] ((lg, lisOb lv1 lepL) :: [(63, o1'), (70, o2'), (121, o3), (l, lisOb lit2 ep2), (p, accOb d it2 ep3), (d, dicZ hs t (.int zi tz))]) B₀ h₀ m2 B2 base (envM w L :: fs) e msg h3 := by
      have pm : (((lg, lisOb lv1 lepL) :: [(63, o1'), (70, o2'), (121, o3), (l, lisOb lit2 ep2), (p, accOb d it2 ep3), (d, dicZ hs t (.int zi tz))]) : List (Addr × Obj)).Perm ((l, lisOb lit2 ep2) :: (p, accOb d it2 ep3) :: (d, dicZ hs t (.int zi tz)) :: [(63, o1'), (70, o2'), (121, o3), (lg, lisOb lv1 lepL)]) :=
        perm7 _ _ _ _ _ _ _
      obtain ⟨G', sg, ag⟩ := f3.at_
      exact ⟨⟨G', sg, ag.perm (List.Perm.append_left G' pm)⟩, f3.bB, fun p hp => f3.bM p (pm.subset hp), f3.b0, f3.bL, f3.fl⟩
    refine m_finish ok (hb1.ext e2) f3' pl hlg hml2 (rl1.ext e2) fun G' m' v B' h' tk' sg a' e' rv => ?_
    exact q G' o1' o2' m' v gens1 _ B' h' tk' sg a' ((e1.trans e2).trans e') ht1' ht2' bare1 (by rw [hr2]; exact rv)
  have a1' : At X (envM w L).locals (([(L0, oL0)] ++ [(l, lisOb lit1 lep1)]) ++ ((p, accOb d it1 ep1) :: (d, dicZ hs t (.int zi tz)) :: [(63, o1'), (70, o2'), (121, o3), (lg, lisOb lv1 lepL)])) B₀ h₀ m1 B1 h1' := a1
  refine wp_gen fun Q2 E2 upQ upE => ?_
  refine xw (x_seq (x_assignR (X := X) (B₀ := B₀) (h₀ := h₀) (m := m1) (wpAny_Call_NameR (ldr_g (v := .ref 112) hb1 a1.bh (by kernel_rfl) ?_ (by kernel_rfl) (by kernel_rfl) (by kernel_rfl)))))
  refine callWith_def (o := ⟨oc1, od1, .func (fdU1 w), osl1⟩) rfl (spliced_more (ev_local a1 hmst1 (spliced_nil ⟨a1.bh _ _ (hb1.k _ _ ho1), ?_⟩)) (by kernel_rfl)) (by kernel_rfl)
  refine u1_ok (k := k + 2) ok hb1 (rdr.ext e1) (stm.ext e1) a1' pl hfr hok (by omega) rd1 fit1.oct (fun sg ns2 hns B2 h2 t2 ep2 tx a2 e2 => ?_) (fun hns B2 base h2 t2 ep2 e f e2 => ?_)
  rotate_left
  · refine upE _ _ (fin f e2 hml1 ?_)
    rw [hres, hns, mrun_nil]; simp
  subst hns
  refine ⟨_, B2, h2, t2, rfl, a2, fun h3 a3 t3 => ?_⟩
  cases n with
  | zero => simp at hn
  | succ n =>
  have ok2 := okn
  refine x_seq (x_assign ok a3 pe_none fun pv B4 h4 t4 a4 e4 r4 => ?_)
  have hpv := r4.none_inv
  subst hpv
  have e24 := e2.trans e4
  have hb4 := hb1.ext e24
  have fitc := fit1
  have hoc := fit1.oct sg (.head _)
  have rd4 : RdAll B4 (lit1.toList.drop 1).toArray.toList (ns2.map .int) := by
    have := (rd1.drop 1).ext e24
    simpa using this
  have kn4 : Kept3 m1 (upd (upd m1 (Str.ofString "sign") (.int sg tx)) (Str.ofString "popped") .none) := ⟨upd_ne (upd_ne rfl), upd_ne (upd_ne rfl), upd_ne (upd_ne rfl)⟩
  refine x_seq (x_deed (N := N) ok hb4 hp ((rdr.ext e1).ext e24) ((stm.ext e1).ext e24) a4 pl hfr hok (kn4.2.1.trans hma1) (upd_ne upd_self) (kn4.2.2.trans hmst1) upd_self (.int ..) (r1.ext e24) fitc.pc hN2 rd4 (fun y hy => fit1.oct y (.tail _ hy)) (by simp at hN2'; omega) (fun h85 x r hx => okRun_three ok2 h85 x r hx) (fun ns' xs' pd pv lit' lep' it' ep' m' B5 h5 t5 tn a5 e5 rd5 r5 rp5 hmp5 kn5 => ?_) (fun msg hm lit' B5 base h5 t5 ep5 e f e5 => ?_))
  · obtain ⟨fit5, hle5⟩ := turn_fits tn fitc
    have hb5 := hb4.ext e5
    have k15 : Kept3 m1 m' := ⟨kn5.1.trans kn4.1, kn5.2.1.trans kn4.2.1, kn5.2.2.trans kn4.2.2⟩
    have hx5s := fit5.sum
    have hx5l := fit5.len
    have hat := accText_length xs'
    simp only [List.length_cons] at hd1 hN1 hN2' hn
    refine x_seq (x_log (k := k) ok hb5 hp hd a5 (k15.1.trans hml1) (k15.2.1.trans hma1) hmp5 rp5 r5 (fun x hx => by have := lenSum_mem hx; omega) (by omega) (by omega) (by omega) h0 (by omega) ht1' ht2' bare1 fun o1n o2n u gens' B6 h6 t6 lep6 a6 e6 ht1n ht2n bare' ru => x_nil (upQ _ _ ?_))
    have okn' := okRun_turn tn okn
    refine ⟨ns'.length, by simp only [List.length_cons]; omega, ns', h6, t6, gens', rfl, rfl, ⟨o1n, o2n, lit', lep', it', ep', lv1.push u, lep6, xs', done1 ++ [logD pd xs' zi], m', B6, a6, ((e1.trans e24).trans e5).trans e6, ht1n, ht2n, bare', rd5.ext e6, r5.ext e6, ?_, ⟨k15.1.trans kn1.1, k15.2.1.trans kn1.2.1, k15.2.2.trans kn1.2.2⟩, fit5, ?_, by simp; omega, n, by omega, okn', ?_⟩⟩
    · rw [Array.toList_push]
      exact RdAll.append (rl1.ext ((e24.trans e5).trans e6)) (.cons ru (.nil _))
    · exact okRun_mono okn'
    · rw [hres, mrun_turn tn]; simp
  · refine upE _ _ (fin f (e24.trans e5) (kn4.1.trans hml1) ?_)
    rw [hres, mrun_halt hm]; simp
end Mine
end
section
open PySem PySem.W PyProof.Rows PySem.Calls
set_option Elab.async false
set_option maxRecDepth 100000
set_option linter.unusedVariables false
set_option linter.unusedSimpArgs false
namespace Mine
section
variable {w : World} {X : List Addr} {L : Addr} {M : List (Addr × Obj)} {B₀ h₀ B h : Heap} {m : Str → Option Value} {A : Around} {s : Shared} {tk : Nat} {E : Value → Shared → Prop}
/-- a call of the acc's class, one argument -/
theorem cw_acc {k : Nat} {env : Env} {pos : Pos} {e : Expr} {Q : Value → Shared → Prop} (hb : Bs w B) (he : starEach [e] env = (false, eval e env) :: starEach [] env)
    (h1 : wpAny (model Pr w) A (spliced (backTo pos (starEach [e] env))) (fun vs s₁ => ∃ M' B' h' tk', s₁ = St s h' tk' ∧ At X L M' B₀ h₀ m B' h' ∧ Ext B B' ∧ ∀ h'', At X L M' B₀ h₀ m B' h'' → wpAny (model Pr w) A (call (.ref 101) vs) Q E (St s h'' tk')) E (St s h tk)) : wpAny (model Pr w) A (callWith pos (.ref 101) [] (backTo pos (starEach [e] env)) []) Q E (St s h tk) := by
  rw [he] at h1 ⊢
  unfold callWith
  refine wpAny_bind (wpAny_holding (evalArgs_plain (wpAny_mono h1 (fun vs s₁ q => ?_) fun _ _ x => x)))
  obtain ⟨M', B', h', tk', rfl, a', e', q⟩ := q
  refine wpAny_bind (wpAny_standAt ?_)
  refine wpAny_bind (m := keeperOf (.ref 101)) (run_look (T := []) (v := .machine) (tk' := tk') 6 [.k, .k] (hb.ext e') a' (by kernel_rfl) fun h2 a2 => ?_)
  exact wpAny_bind (wpAny_mono (q h2 a2) (fun r s₂ hr => wpAny_bind (wpAny_holding (wpAny_point (wpAny_pure hr)))) fun _ _ x => x)
end
theorem ints_outs (ns : List Int) : outs (fun _ => true) (fun i => (ns.map PyData.int).getD i .none) (ns.map PyData.int).length = ns.map .int := by
  rw [outs_all]
  exact (map_getD (ns.map PyData.int) id .none).trans (by simp)
theorem mem_five {x a b c d e : Addr} (h : x ∈ [a, b, c, d]) : x ∈ [d, e, a, b, c] := by
  cases h with
  | head => exact .tail _ (.tail _ (.head _))
  | tail _ h =>
    cases h with
    | head => exact .tail _ (.tail _ (.tail _ (.head _)))
    | tail _ h =>
      cases h with
      | head => exact .tail _ (.tail _ (.tail _ (.tail _ (.head _))))
      | tail _ h =>
        cases h with
        | head => exact .head _
        | tail _ h => cases h
set_option maxHeartbeats 4000000 in
theorem machine_ok {w : World} {k : Nat} {A : Around} {s : Shared} {h : Heap} {tk : Nat} {E Q : Value → Shared → Prop} {X : List Addr} {L0 : Addr} {M : List (Addr × Obj)} {B₀ h₀ B : Heap} {m : Str → Option Value} {o1 o2 o3 : Obj} {v1 v2 : Value} {ns : List Int} {zi : Int} {fs : List Env}
    (ok : Ok (k + 6) A) (hb : Bs w B) (a : At X L0 ((63, o1) :: (70, o2) :: (121, o3) :: M) B₀ h₀ m B h) (hfr : A.frames = some fs) (hok : FrOk [L0] fs)
    (r1 : Rd B v1 (.list (ns.map .int))) (r2 : Rd B v2 (.int zi)) (hr : ∀ x ∈ ns, 0 ≤ x ∧ x < 256) (hlen : ns.length ≤ 10000) (okr : okRun ns.length ns) (h0 : 0 ≤ zi) (h1 : zi ≤ 1000) (ht1 : TabO o1) (ht2 : TabO o2) (ht3 : T121 B o3) (bare : AllBare s.gens)
    (q : ∀ o1' o2' o3' v gens' B' h' tk', At X L0 ((63, o1') :: (70, o2') :: (121, o3') :: M) B₀ h₀ m B' h' → Ext B B' → TabO o1' → TabO o2' → T121 B' o3' → AllBare gens' → Rd B' v (.tuple [.list (mrun zi ns.length ns []).1, .str (mrun zi ns.length ns []).2]) → Q v (St { s with gens := gens' } h' tk')) :
    wpAny (model Pr w) A (call (.ref 124) [v1, v2]) Q E (St s h tk) := by
  have hsl : sizeLine = 2 ^ 24 := rfl
  obtain ⟨oL0, es0, ep0, hoL0, hdL0, _⟩ := a.ns
  refine call_defC (T := [(63, o1), (70, o2), (121, o3)]) (fd := fdMachine w) (x := Str.ofString "left") (binds := [(Str.ofString "octets", v1), (Str.ofString "size", v2)]) ok hb a hoL0 (isMachine w) (by kernel_rfl) (by unfold fdMachine; rfl) (by kernel_rfl) (by kernel_rfl) (by kernel_rfl) (fun n => by kernel_rfl) (fun L h₁ oc tk₁ hcd a1 => ?_)
  have ok' : Ok (k + 5) _ := ok.deeper (envM w L)
  have hfr' : (A.deeper (envM w L)).frames = some (envM w L :: fs) := by simp [Around.deeper, hfr]
  generalize hA : A.deeper (envM w L) = A' at ok' hfr'
  have hm1 : (bindL (envM w L).kindOf [(Str.ofString "octets", v1), (Str.ofString "size", v2)] fun _ => none) (Str.ofString "octets") = some v1 := by kernel_rfl
  have hm2 : (bindL (envM w L).kindOf [(Str.ofString "octets", v1), (Str.ofString "size", v2)] fun _ => none) (Str.ofString "size") = some v2 := by kernel_rfl
  generalize hm : (bindL (envM w L).kindOf [(Str.ofString "octets", v1), (Str.ofString "size", v2)] fun _ => none) = m1 at a1 hm1 hm2
  have hbig : 156 ≤ h.objs.size := heap_big hb a.bh
  -- left = [octet for octet in octets]
  have a1' : At (L0 :: [(63, o1), (70, o2), (121, o3)].map (·.1)) (envM w L).locals [(L + 1, oc), (L0, oL0), (63, o1), (70, o2), (121, o3)] B h m1 B h₁ := a1
  refine x_seq (wx (wpAny_Assign_Name (ev_compT (k := k + 5) ok' a1' (ite_list (ds := ns.map .int) ?it) (comp_one (el := fun i => (ns.map PyData.int).getD i .none) Fm.mono (fun _ _ => trivial) ?c1 ?c2 ?c3 ?c4 ?c5 ?c8) ?hn fun l ys nn B2 h2 t2 a2 e2 rl2 => ?_) (by kernel_rfl)))
  case it => exact pe_local hm1 r1
  case c1 => kernel_rfl
  case c2 => kernel_rfl
  case c3 => kernel_rfl
  case c4 => kernel_rfl
  case c5 => exact fun C => by kernel_rfl
  case c8 => exact fun C i m' M' B' v hi e h1 r1 => pe_localC h1 r1
  case hn => simp; omega
  rw [ints_outs] at rl2
  refine st_cell (s := s) (v₀ := none) (a2.pull 1) hcd (fun h3 oc3 a3 hcd3 => ?_) (by kernel_rfl) (by kernel_rfl) (by kernel_rfl)
  have a3' : At (L0 :: [(63, o1), (70, o2), (121, o3)].map (·.1)) (envM w L).locals ((L + 1, oc3) :: [(l, lisOb ys nn), (L0, oL0), (63, o1), (70, o2), (121, o3)]) B h m1 B2 h3 := a3
  obtain ⟨B3, a4, e3, g3⟩ := a3'.freeze1 (Nat.le_trans a1.newL (Nat.le_succ _))
  have e3' := e2.trans e3
  have hb3 := hb.ext e3'
  -- def read
  have a4' : At (L0 :: [(63, o1), (70, o2), (121, o3)].map (·.1)) (envM w L).locals ((121, o3) :: [(l, lisOb ys nn), (L0, oL0), (63, o1), (70, o2)]) B h m1 B3 h3 := a4.pull 4
  refine x_seq (x_defRead hb3 a4' (ht3.ext e3') fun fr o3a B5 h5 t5 a5 e5 ht5 hfn => ?_)
  have e5' := e3'.trans e5
  have hb5 := hb.ext e5'
  -- stream = lambda: None
  refine x_seq (x_assignR (X := L0 :: [(63, o1), (70, o2), (121, o3)].map (·.1)) (B₀ := B) (h₀ := h) (m := upd m1 (Str.ofString "read") (.ref fr)) (ev_lambda hb5 a5 ht5 (by kernel_rfl) (by kernel_rfl) fun st fdl o3b h6 t6 a6 ht6 hst => ⟨_, B5, h6, t6, rfl, a6, fun h7 a7 t7 => ?_⟩))
  -- stream.read = read
  refine x_seq (wx (plainObj_wpAny_Assign_Attribute (ev_local a7 (upd_ne upd_self) (ev_local a7 upd_self (set_read hb5 a7 fun dd hs tt h8 t8 a8 hdd hdd2 => ?_))) (by kernel_rfl)))
  have hstd : st ≠ dd := fun q => (List.nodup_cons.mp a8.nd).1 (q ▸ .head _)
  obtain ⟨B8, a8', e8, g8⟩ := a8.freeze1 hdd
  obtain ⟨B9, a9, e9, g9⟩ := a8'.freeze1 hst
  have e9' := e5'.trans (e8.trans e9)
  have hb9 := hb.ext e9'
  have stm : Stm B9 st fr := ⟨dd, fdl, hs, tt, Nat.le_trans hbig hst, hdd2, hstd, g9, e9 _ _ g8⟩
  have rdr : Rdr w B9 fr (L + 1) l := by
    refine ⟨?_, oc3, (e5.trans (e8.trans e9)) _ _ g3, hcd3⟩
    obtain ⟨doc, pm, cd, ctv, x1, x2⟩ := hfn
    exact ⟨doc, pm, cd, ctv, (e8.trans e9) _ _ x1, x2.keeps (e8.trans e9)⟩
  -- acc = _Accumulator(size)
  have hsz9 : (upd (upd m1 (Str.ofString "read") (.ref fr)) (Str.ofString "stream") (.ref st)) (Str.ofString "size") = some v2 := upd_ne (upd_ne hm2)
  refine x_seq (x_assignR (X := L0 :: [(63, o1), (70, o2), (121, o3)].map (·.1)) (B₀ := B) (h₀ := h) (m := upd (upd m1 (Str.ofString "read") (.ref fr)) (Str.ofString "stream") (.ref st)) (wpAny_Call_NameR (ldr_g (v := .ref 101) hb9 a9.bh (by kernel_rfl) ?_ (by kernel_rfl) (by kernel_rfl) (by kernel_rfl))))
  refine cw_acc (k := k) hb9 (by kernel_rfl) (spliced_more (ev_local a9 hsz9 (spliced_nil ⟨_, B9, h8, _, rfl, a9, Ext.refl _, fun h10 a10 => ?_⟩)) (by kernel_rfl))
  refine acc_make (k := k + 3) ok' hb9 (fun x hx => ?_) hbig a10 fun B11 h11 t11 p d t hp a11 e11 => ?_
  · exact mem_five hx
  have hd : 156 ≤ d := (a11.offM (d, _) (.tail _ (.head _))).2.2.elim (fun hm => absurd (mem_five hm) (List.nodup_cons.mp (List.nodup_cons.mp a11.nd).2).1) (Nat.le_trans hbig)
  refine ⟨_, B11, h11, t11, rfl, a11, fun h12 a12 t12 => ?_⟩
  have e11' := e9'.trans e11
  -- log = []
  refine x_seq (x_assignR (X := L0 :: [(63, o1), (70, o2), (121, o3)].map (·.1)) (B₀ := B) (h₀ := h) (m := upd (upd (upd m1 (Str.ofString "read") (.ref fr)) (Str.ofString "stream") (.ref st)) (Str.ofString "acc") (.ref p)) (List_ (spliced_nil (wpAny_newList ⟨_, B11, _, t12, rfl, a12.new (lisOb #[] 0), fun h13 a13 t13 => ?_⟩))))
  have hlg : h.objs.size ≤ h12.objs.size := a12.sz
  obtain ⟨tz, rfl⟩ := r2.int_inv
  have a13' : At (L0 :: [(63, o1), (70, o2), (121, o3)].map (·.1)) (envM w L).locals [(L0, oL0), (l, lisOb ys nn), (p, accOb d #[] 0), (d, dicZ (hsI w) t (.int zi tz)), (63, o1), (70, o2), (121, o3b), (h12.objs.size, lisOb #[] 0)] B h _ B11 h13 := ((((((At.pull 3 a13).pull 7).pull 7).pull 5).pull 5).pull 6).pull 7
  refine x_seq (m_try (k := k + 1) (N := ns.length) ok' (hb.ext e11') hp hd (rdr.ext e11) (stm.ext e11) a13' (fun p hp => ?_) hfr' ?_ hlg upd_self (upd_ne upd_self) (upd_ne (upd_ne upd_self)) (rl2.ext (e3.trans (e5.trans ((e8.trans e9).trans e11)))) hr rfl hlen okr h0 h1 ht1 ht2 bare fun G' o1' o2' m' v gens' R B14 h14 t14 sg a14 e14 ht1' ht2' bare' rv => ?_)
  · cases List.mem_singleton.mp hp
    exact fun vs c => by rw [hdL0] at c; cases c
  · exact hok.cons (by kernel_rfl) rfl
  · obtain ⟨oL0', G1, rfl, hdd', sg1⟩ := sg.cons_inv
    have hG1 := sg1.nil_inv
    subst hG1
    obtain ⟨c1, c2, hfull, hcr⟩ := ht6
    refine q o1' o2' o3b v gens' B14 h14 t14 (At.backL (T := [(63, o1), (70, o2), (121, o3)]) (T' := [(63, o1'), (70, o2'), (121, o3b)]) (M' := R) a hoL0 a14 hdd' rfl) (e11'.trans e14) ht1' ht2' (.inr ⟨c1, c2, hfull, hcr.keeps (((e8.trans e9).trans e11).trans e14)⟩) bare' rv
end Mine
end
section
open PySem PySem.W PyProof.Rows PySem.Calls
set_option Elab.async false
set_option maxRecDepth 100000
set_option linter.unusedVariables false
set_option linter.unusedSimpArgs false
namespace Mine
noncomputable def fnLaw (w : World) : FnAt w 155 := ⟨_, _, _, _, rfl⟩
@[irreducible] noncomputable def fdLaw (w : World) : FuncData := (fnLaw w).1
theorem isLaw (w : World) : ∃ c d s, (Kf w).lookup 155 = some ⟨c, d, .func (fdLaw w), s⟩ := by unfold fdLaw; exact (fnLaw w).2
noncomputable abbrev envL (w : World) (L : Addr) : Env := callEnvC (fdLaw w) L 155
section
variable {w : World} {k : Nat} {J : Heap → Prop} {env : Env} {B : Heap}
/-- sum(xs), inside a frame -/
theorem ev_sum {X : List Addr} {L : Addr} {M : List (Addr × Obj)} {B₀ h₀ h : Heap} {m : Str → Option Value} {A : Around} {s : Shared} {tk : Nat} {E Q : Value → Shared → Prop} {ns : List Int} {v : Value} (ok : Ok k A) (a : At X L M B₀ h₀ m B h) (rv : Rd B v (.list (ns.map .int)))
    (q : ∀ h' tk' t', At X L M B₀ h₀ m B h' → Q (.int ns.sum t') (St s h' tk')) : wpAny (model Pr w) A (call (.builtin "sum") [v]) Q E (St s h tk) := by
  obtain ⟨l, ws, rfl, hl, ra⟩ := rv.list_inv
  have hl' : h.IsList l ws.toArray := hl.at fun o e => a.bh _ _ e
  have hlt : l < h.objs.size := by obtain ⟨o, ho, _⟩ := hl'; exact Heap.lt_size ho
  refine call_sum_walkAnyS (s := St s h tk) (wpAny_pyIter_list hl' ?_)
  have hne : l ≠ h.objs.size := Nat.ne_of_lt hlt
  have hlen : ws.length = ns.length := by have := ra.length; simpa using this
  refine ⟨_, _, _, _, _, _, _, fun i => ns.getD i 0, rfl, (Walks.list (prog := Pr) (w := w) (A := A.in1) (show A.in1.handled = none from ok.handled) h.objs.size l hne ws.toArray).toS, ⟨⟨_, Heap.get?_push_size _ rfl, rfl, rfl⟩, hl'.push _⟩, fun b hb => ?_, fun i v hv => ?_, fun s' t' mv => ?_⟩
  · show b < (h.push _).objs.size
    rw [Heap.size_push]
    simp only [List.mem_cons, List.not_mem_nil, or_false] at hb
    rcases hb with rfl | rfl
    · exact Nat.lt_succ_self _
    · exact Nat.lt_succ_of_lt hlt
  · obtain ⟨d, hd, rd⟩ := ra.get' (i := i) (by simpa using hv)
    simp only [List.getElem?_map, Option.map_eq_some_iff] at hd
    obtain ⟨x, hx, rfl⟩ := hd
    obtain ⟨t, rfl⟩ := rd.int_inv
    exact ⟨t, by simp [hx]⟩
  · have hsum : preSum (fun i => ns.getD i 0) ws.toArray.size = ns.sum := by
      rw [PyProof.Rows.preSum_getD]
      simp [hlen]
    rw [hsum]
    obtain ⟨sh, sgn, sd, st, so⟩ := s'
    have e1 : sd = s.drawn := mv.drawn
    have e2 : so = s.os := mv.os
    have e3 : sgn = s.gens := mv.gens
    subst e1 e2 e3
    exact q sh st t' (a.more fun b o e => mv.heap b o (by simp only [List.mem_singleton]; exact Nat.ne_of_lt (Heap.lt_size e)) (Heap.get?_push_of_some _ e))
/-- chr(c) -/
theorem pt_chr {c : Int} {vs : List Value} (r : RdAll B vs [.int c]) (h0 : 0 ≤ c) (h1 : c < 256) : PT w k J B (call (.builtin "chr") vs) fun B'' v => Rd B'' v (.str ⟨#[c.toNat]⟩) := fun A s Q E ok eb j q => by
  obtain ⟨v, vs', rfl, rv, r'⟩ := r.cons_inv
  rw [r'.nil_inv]
  obtain ⟨t, rfl⟩ := rv.int_inv
  refine P.chr_of_int (by simp; omega) (q _ B s.heap _ (.refl eb) (.str ..))
end
end Mine
end
section
open PySem PySem.W PyProof.Rows PySem.Calls
set_option Elab.async false
set_option maxRecDepth 100000
set_option linter.unusedVariables false
set_option linter.unusedSimpArgs false
namespace Mine
section
variable {w : World} {k : Nat} {env : Env} {A : Around} {s : Shared} {h : Heap} {t : Nat} {E : Value → Shared → Prop} {Q : Flow → Shared → Prop} {X : List Addr} {M : List (Addr × Obj)} {B₀ h₀ B : Heap} {m : Str → Option Value}
/-- for x in a list -/
theorem x_forIt {x : Str} {px pos : Pos} {iter : Expr} {body : List Stmt} {n : Nat} {st : Addr → Nat → Obj → Prop} {val : Nat → PyData} (inv : Nat → (Str → Option Value) → List (Addr × Obj) → Heap → Prop) (ok : Ok k A) (a : At X env.locals M B₀ h₀ m B h) (it : ItE w k (Fm env m M) env B iter (fun _ => True) n st val)
    (i0 : ∀ B', Ext B B' → inv 0 m M B')
    (turn : ∀ I o i m M B h tk v E', i < n → At X env.locals ((I, o) :: M) B₀ h₀ (upd m x v) B h → Rd B v (val i) → inv i m M B →
      Wx w A (execs body env) (fun f s' => match f with
        | .next | .cont => ∃ m' M' B' h' tk', s' = St s h' tk' ∧ At X env.locals ((I, o) :: M') B₀ h₀ m' B' h' ∧ Ext B B' ∧ inv (i + 1) m' M' B'
        | .brk => Q .next s'
        | .ret v => Q (.ret v) s') E' (St s h tk))
    (done : ∀ m M B h tk, At X env.locals M B₀ h₀ m B h → inv n m M B → Q .next (St s h tk))
    (hl : env.kindOf x = some .local := by kernel_rfl) (hk : env.scope.kind = .function := by kernel_rfl) (hs : ∀ x, foldedSetIterable iter env x = pure x := by intro _; rfl) :
    Wx w A (exec (.For (.Name x px) iter body [] pos) env) Q E (St s h t) := by
  refine wx (wpAny_For (it A (St s h t) _ E ok a.bh a.fm fun I l o B1 h1 t1 s1 hIn hIB hI ho T => ?_) hs)
  have a1 : At X env.locals ((I, o) :: M) B₀ h₀ m B1 h1 := (a.step s1).addNew hI (fun hm => by
    obtain ⟨q, hq, e⟩ := List.mem_map.mp hm
    exact Nat.lt_irrefl _ (Nat.lt_of_lt_of_le (Heap.lt_size (a.own q hq)) (e ▸ hIn))) (Nat.ne_of_gt (Nat.lt_of_lt_of_le a.ltL hIn)) hIB (Nat.le_trans a.sz hIn)
  refine codeAny_forLoop_any (fun j s' => ∃ (i : Nat) (m' : Str → Option Value) (M' : List (Addr × Obj)) (B' h' : Heap) (tk' : Nat) (o' : Obj), i ≤ n ∧ j = n - i ∧ s' = St s h' tk' ∧ At X env.locals ((I, o') :: M') B₀ h₀ m' B' h' ∧ Ext B1 B' ∧ st l i o' ∧ inv i m' M' B') ?_ n ⟨0, m, M, B1, h1, t1, o, Nat.zero_le _, rfl, rfl, a1, Ext.refl _, ho, i0 B1 s1.bb⟩
  rintro j s' ⟨i, m', M', B', h', tk', o', hi, rfl, rfl, a', eb, ho', i'⟩
  by_cases hlt : i < n
  · refine (T.ext eb).next (s := St s h' tk') ok a'.bh trivial (a'.own (I, o') (.head _)) ho' hlt fun v h2 t2 o2 rv hI2 ho2 hs2 => ?_
    have a2 := At.change (M₁ := []) a' hI2 hs2
    refine wpAny_pure (M := model Pr w) (A := A) (a := ()) ?_
    refine wpAny_assign_Name (wpAny_storeName_local hl a2.ns (fun h3 hn3 hs3 => ?_) (by rw [hk]; rfl))
    refine wpAny_mono (xw (turn I o2 i m' M' B' h3 _ v _ hlt (a2.store hn3 hs3) rv i')) (fun f s₃ q => ?_) fun _ _ q => q
    cases f with
    | next =>
      obtain ⟨m4, M4, B4, h4, t4, rfl, a4, e4, i4⟩ := q
      exact ⟨n - (i + 1), by omega, i + 1, m4, M4, B4, h4, t4, o2, by omega, rfl, rfl, a4, eb.trans e4, ho2, i4⟩
    | cont =>
      obtain ⟨m4, M4, B4, h4, t4, rfl, a4, e4, i4⟩ := q
      exact ⟨n - (i + 1), by omega, i + 1, m4, M4, B4, h4, t4, o2, by omega, rfl, rfl, a4, eb.trans e4, ho2, i4⟩
    | brk => exact q
    | ret v => exact q
  · have hin : i = n := by omega
    subst hin
    refine (T.ext eb).done (s := St s h' tk') ok a'.bh trivial (a'.own (I, o') (.head _)) ho' fun h2 t2 he => ?_
    exact wpAny_execs_nil (done m' M' B' h2 t2 (a'.gone he) i')
end
section
variable {w : World} {k : Nat} {J : Heap → Prop} {env : Env} {B : Heap}
/-- range(e) as what a comprehension goes over -/
theorem ite_range {rn : Str} {rp rpos : Pos} {e : Expr} {src : Heap → Prop} {n : Nat} (hJ : Mono J) (hb : Bs w B) (pe : PE w k J env B e (.int n)) (hn : n < 2 ^ 40) (hrn : rn = Str.ofString "range" := by rfl)
    (hk : env.scope.kind = .function := by kernel_rfl) (hg : env.globals = 3 := by kernel_rfl) (hbi : env.builtins = builtinsNs := by kernel_rfl) (hx : env.kindOf (Str.ofString "range") = some .globalImplicit := by kernel_rfl)
    (he : starEach [e] env = (false, eval e env) :: starEach [] env := by kernel_rfl) :
    ItE w k J env B (.Call (.Name rn rp) [e] [] rpos) src n (fun _ i o => o = rangeIt (0 + i * 1) (n - i) 1) fun i => .int (0 + i * 1) := by
  subst hrn
  intro A s Q E ok eb j q
  refine wpAny_Call_NameR (ld_bi (pos := rp) (v := .type "range") hb (by kernel_rfl) (by kernel_rfl) hg hbi hk hx (by kernel_rfl) (by kernel_rfl) A s _ E ok eb j fun f B₁ h₁ t₁ s₁ r₁ => ?_)
  subst r₁
  refine PyProof.Rows.callWith_type1 ((pes_cons hJ (pe.ext s₁.bb) pes_nil he).run A _ _ E ok s₁.bh (hJ _ _ s₁.hh j) fun vs B₂ h₂ t₂ s₂ r₂ => ?_) he rfl
  obtain ⟨v, vs', rfl, rv, r₂⟩ := r₂.cons_inv
  rw [r₂.nil_inv]
  obtain ⟨u, rfl⟩ := rv.int_inv
  refine call_range_1 (s := { s with heap := h₂, toks := t₂ }) ?_
  obtain ⟨B₃, s₃, g₃⟩ := step_push { cls := .type "range", data := .fields #[.int 0 t₂, .int n u, .int 1 (t₂ + 1)] } s₂.bh rfl
  have hsz : Builtin.Range.rangeSize 0 (n : Int) 1 = n := by
    unfold Builtin.Range.rangeSize
    simp
    omega
  refine wpAny_pyIter_range (s := { s with heap := h₂.push _, toks := t₂ + 1 + 1 }) (Heap.get?_push_size _ rfl) ?_ ?_
  · unfold Builtin.Range.small
    rw [hsz, fits_long (by omega) (by omega), fits_long (by omega) (by omega), fits_long (by omega) (by omega)]
    simp only [Bool.and_self, Bool.true_and]
    rw [if_pos (by decide), fits_long (by omega) (by omega)]
    simp
  rw [hsz]
  have s₁₃ := (s₁.trans s₂).trans s₃
  have hbI : B₃.get? (h₂.push { cls := .type "range", data := .fields #[.int 0 t₂, .int n u, .int 1 (t₂ + 1)] }).objs.size = none := off_new s₃.bh
  refine q _ 0 (rangeIt 0 n 1) B₃ _ _ ⟨s₁₃.bb, s₁₃.bh.trans (Ext.push _ _), s₁₃.hh.trans (Ext.push _ _), by rw [Heap.size_push]; exact Nat.le_succ_of_le s₁₃.sz, s₁₃.fresh⟩ s₁₃.sz hbI (Heap.get?_push_size _ rfl) (by simp) It.range
/-- a free name inside a comprehension, its cell watched by the frame outside -/
theorem pe_freeC {x : Str} {pos : Pos} {cenv : Env} {m' m : Str → Option Value} {M' M : List (Addr × Obj)} {c : Addr} {o : Obj} {v : Value} {d : PyData} (hm : (c, o) ∈ M) (hv : o.data = .cell (some v)) (hr : Rd B v d)
    (hc : cenv.cells.lookup x = some c) (hl : cenv.kindOf x = some .free) (hk : cenv.scope.kind = .function) (hd : (x == ("__debug__" : Str)) = false := by kernel_rfl) (hn : (x == ("__classdict__" : Str)) = false := by kernel_rfl) : PE w k (fun h => Fm cenv m' M' h ∧ Fm env m M h) cenv B (.Name x pos) d :=
  .mk fun _ s _ _ _ e j q => wpAny_Name (wpAny_loadName_free hk hl hc ⟨o, j.2.2 (c, o) hm, hv⟩ (q _ B s.heap s.toks (.refl e) hr) hn) hd
theorem pe_cellC {x : Str} {pos : Pos} {cenv : Env} {m' m : Str → Option Value} {M' M : List (Addr × Obj)} {c : Addr} {o : Obj} {v : Value} {d : PyData} (hm : (c, o) ∈ M) (hv : o.data = .cell (some v)) (hr : Rd B v d)
    (hc : cenv.cells.lookup x = some c) (hl : cenv.kindOf x = some .cell) (hk : cenv.scope.kind = .function) (hd : (x == ("__debug__" : Str)) = false := by kernel_rfl) : PE w k (fun h => Fm cenv m' M' h ∧ Fm env m M h) cenv B (.Name x pos) d :=
  .mk fun _ s _ _ _ e j q => wpAny_Name (wpAny_loadName_cell hk hl hc ⟨o, j.2.2 (c, o) hm, hv⟩ (q _ B s.heap s.toks (.refl e) hr)) hd
/-- a comprehension with one name -/
theorem comp_gen {x : Str} {px : Pos} {elt : Expr} {ifs : List Expr} {scope : Scope} {cl : List (Str × Addr)} {src : Heap → Prop} {n : Nat} {st : Addr → Nat → Obj → Prop} {val el : Nat → PyData} {keep : Nat → Bool} (hsrc : ∀ h, J h → src h)
    (clos : closureFor scope env = pure cl) (kind : scope.kind = .function) (names : (scope.names.all fun x => x.2 != .local || decide (scope.names.lookup x.1 = some .local)) = true) (cell : (scope.names.all fun x => decide (x.2 ≠ .cell)) = true)
    (hx : ∀ C, (compEnvC scope cl C env).kindOf x = some .local)
    (tests : ∀ C i m' M' B' v, i < n → Ext B B' → m' x = some v → Rd B' v (val i) → Tests w k (fun h => Fm (compEnvC scope cl C env) m' M' h ∧ J h) (compEnvC scope cl C env) B' ifs (keep i))
    (elem : ∀ C i m' M' B' v, i < n → Ext B B' → m' x = some v → Rd B' v (val i) → PE w k (fun h => Fm (compEnvC scope cl C env) m' M' h ∧ J h) (compEnvC scope cl C env) B' elt (el i)) :
    CompOk w k J env B (.Name x px) elt ifs scope cl src n st val el keep (fun i B m => ∃ v, m x = some v ∧ Rd B v (val i)) where
  clos := clos
  kind := kind
  names := names
  cell := cell
  hsrc := hsrc
  asg := fun C i hi => asg_name (hx C) kind
  tests := fun C i m' M' B' hi e kn => by
    obtain ⟨v, h1, r1⟩ := kn
    exact tests C i m' M' B' v hi e h1 r1
  elem := fun C i m' M' B' hi _ e kn => by
    obtain ⟨v, h1, r1⟩ := kn
    exact elem C i m' M' B' v hi e h1 r1
  mono := fun i m' B' B'' e kn => let ⟨v, a, b⟩ := kn; ⟨v, a, b.ext e⟩
  own := fun A s I l i o v B Q E hi hg hs r q => wpAny_pure q
/-- xs[-1] of a list under watch -/
theorem pe_lastM {x : Str} {px pos : Pos} {idx : Expr} {m : Str → Option Value} {cs : List (Addr × Obj)} {l : Addr} {sv : Array Value} {ep : Nat} {ds : List PyData} {d : PyData} (hm : m x = some (.ref l)) (hl0 : (l, lisOb sv ep) ∈ cs) (r : RdAll B sv.toList ds) (hi : PE w k (Fm env m cs) env B idx (.int (-1))) (hd : ds[ds.length - 1]? = some d) (hz : ds ≠ [])
    (hl : env.kindOf x = some .local := by kernel_rfl) (hk : env.scope.kind = .function := by kernel_rfl) (hdb : (x == ("__debug__" : Str)) = false := by kernel_rfl)
    (hs : ∀ l t, subscripted idx false (.ref l) (.int (-1) t) = operate [.ref l, .int (-1) t] (getItem (.ref l) (.int (-1) t)) := by intro _ _; with_unfolding_all rfl) : PE w k (Fm env m cs) env B (.Subscript (.Name x px) idx pos) d :=
  .mk fun A s Q E ok e j q => Subscript_ (wpAny_Name (wpAny_loadName_local hk hl j.1 hm (hi.run A s _ E ok e j fun y B₂ h₂ t₂ s₂ r₂ => by
    obtain ⟨t, rfl⟩ := r₂.int_inv
    obtain ⟨v, hv', rv⟩ := r.get hd
    have hl' : h₂.IsList l sv := ⟨_, s₂.hh _ _ (j.2 _ hl0), rfl, ep, rfl⟩
    have hn : 1 ≤ sv.size := by have := r.length; rw [Array.length_toList] at this; rw [this]; cases ds with | nil => exact absurd rfl hz | cons _ _ => simp
    have hx : sv[((-1 : Int) + (sv.size : Int)).toNat]? = some v := by
      have hs : sv.size = ds.length := by have := r.length; rwa [Array.length_toList] at this
      have : ((-1 : Int) + (sv.size : Int)).toNat = ds.length - 1 := by omega
      rw [this]; simpa using hv'
    exact tail_any (s := { s with heap := h₂, toks := t₂ }) hl'.typeIs slot_list_getitem.lookup (wpAny_getItem_list_neg hl' (by decide) (by omega) (by decide) hx (q v B₂ h₂ t₂ s₂ (rv.ext s₂.bb))) (hs l t))) hdb)
end
end Mine
end
section
open PySem PySem.W PyProof.Rows PySem.Calls
set_option Elab.async false
set_option maxRecDepth 100000
set_option linter.unusedVariables false
set_option linter.unusedSimpArgs false
namespace Mine
noncomputable def codesL : List Int := [97, 40, 41, 108, 255, 32, 0, 85]
noncomputable def deedOf (x : Int) : Int := x.fmod 6
noncomputable def restOf (x : Int) : Int := (x.fdiv 6).fmod 2048
noncomputable def codeIx (rest : Int) (k : Nat) : Int := ((rest.fdiv 4).fdiv ((8 : Int) ^ k)).fmod 8
noncomputable def codeAtK (rest : Int) (k : Nat) : Int := codesL.getD (codeIx rest k).toNat 0
noncomputable def bodyLen (x : Int) : Nat := ((restOf x).fmod 4).toNat
noncomputable def bodyOf (x : Int) : List Int := (List.range (bodyLen x)).map (codeAtK (restOf x))
noncomputable def signOf (d : Int) : Int := ([40, 108, 48, 49] : List Int).getD d.toNat 0
noncomputable def octOf (x : Int) : List Int := if deedOf x > 3 then 85 :: ((bodyOf x).length : Int) :: bodyOf x else [signOf (deedOf x)]
noncomputable def chrS (c : Int) : Str := ⟨#[c.toNat]⟩
noncomputable def tapeStep (tp : Tape) (x : Int) : Tape := if deedOf x > 3 then tp ++ [(0, cat ((bodyOf x).map chrS))] else afterK tp (deedOf x)
noncomputable def popOf (tp : Tape) (x : Int) : PyData := if deedOf x = 2 then pcD (((nop :: piecesOf tp).getLast?).getD nop) else .none
noncomputable def tapes (tp : Tape) (D : List Int) : Tape := D.foldl tapeStep tp
noncomputable def octs (D : List Int) : List Int := (D.map octOf).flatten
noncomputable def sts (size : Int) : Tape → List Int → List PyData
  | _, [] => []
  | tp, x :: D => stateD (popOf tp x) (tapeStep tp x) size :: sts size (tapeStep tp x) D
noncomputable def endsFrom (n : Nat) : List Int → List Int
  | [] => []
  | x :: D => ((n + (octOf x).length : Nat) : Int) :: endsFrom (n + (octOf x).length) D
noncomputable def endsOf (D : List Int) : List Int := 0 :: endsFrom 0 D
theorem tapes_snoc (tp : Tape) (D : List Int) (x : Int) : tapes tp (D ++ [x]) = tapeStep (tapes tp D) x := by simp [tapes]
theorem octs_snoc (D : List Int) (x : Int) : octs (D ++ [x]) = octs D ++ octOf x := by simp [octs]
theorem sts_snoc (size : Int) : ∀ (D : List Int) (tp : Tape) (x : Int), sts size tp (D ++ [x]) = sts size tp D ++ [stateD (popOf (tapes tp D) x) (tapes tp (D ++ [x])) size]
  | [], tp, x => by simp [sts, tapes]
  | y :: D, tp, x => by
    have := sts_snoc size D (tapeStep tp y) x
    simp only [List.cons_append, sts, this, List.cons_append]
    simp [tapes]
theorem ends_snoc : ∀ (D : List Int) (n : Nat) (x : Int), endsFrom n (D ++ [x]) = endsFrom n D ++ [((n + (octs (D ++ [x])).length : Nat) : Int)]
  | [], n, x => by simp [endsFrom, octs]
  | y :: D, n, x => by
    have := ends_snoc D (n + (octOf y).length) x
    simp only [List.cons_append, endsFrom, this]
    simp [octs]
    omega
theorem sts_length (size : Int) : ∀ (D : List Int) (tp : Tape), (sts size tp D).length = D.length
  | [], _ => rfl
  | x :: D, tp => by simp [sts, sts_length size D]
theorem endsFrom_length : ∀ (D : List Int) (n : Nat), (endsFrom n D).length = D.length
  | [], _ => rfl
  | x :: D, n => by simp [endsFrom, endsFrom_length D]
theorem deed_range (x : Int) : 0 ≤ deedOf x ∧ deedOf x < 6 := ⟨Int.fmod_nonneg_of_pos _ (by decide), Int.fmod_lt_of_pos _ (by decide)⟩
theorem rest_range (x : Int) : 0 ≤ restOf x ∧ restOf x < 2048 := ⟨Int.fmod_nonneg_of_pos _ (by decide), Int.fmod_lt_of_pos _ (by decide)⟩
theorem bodyLen_le (x : Int) : bodyLen x ≤ 3 := by
  have : (restOf x).fmod 4 < 4 := Int.fmod_lt_of_pos _ (by decide)
  unfold bodyLen; omega
theorem bodyLen_is (x : Int) : ((bodyLen x : Nat) : Int) = (restOf x).fmod 4 := by
  have : 0 ≤ (restOf x).fmod 4 := Int.fmod_nonneg_of_pos _ (by decide)
  unfold bodyLen; omega
theorem body_length (x : Int) : (bodyOf x).length = bodyLen x := by simp [bodyOf]
theorem codeIx_range (r : Int) (k : Nat) : 0 ≤ codeIx r k ∧ codeIx r k < 8 := ⟨Int.fmod_nonneg_of_pos _ (by decide), Int.fmod_lt_of_pos _ (by decide)⟩
theorem code_range (r : Int) (k : Nat) : 0 ≤ codeAtK r k ∧ codeAtK r k < 256 := by
  have h := codeIx_range r k
  unfold codeAtK
  generalize codeIx r k = i at h
  have : i = 0 ∨ i = 1 ∨ i = 2 ∨ i = 3 ∨ i = 4 ∨ i = 5 ∨ i = 6 ∨ i = 7 := by omega
  rcases this with rfl | rfl | rfl | rfl | rfl | rfl | rfl | rfl <;> decide
theorem body_range (x c : Int) (h : c ∈ bodyOf x) : 0 ≤ c ∧ c < 256 := by
  unfold bodyOf at h
  obtain ⟨k, _, rfl⟩ := List.mem_map.mp h
  exact code_range _ _
theorem octOf_length (x : Int) : 1 ≤ (octOf x).length ∧ (octOf x).length ≤ 5 := by
  unfold octOf
  split
  · simp [body_length]; exact bodyLen_le x
  · simp
/-- bounds of the tape -/
structure TapeB (n : Nat) (tp : Tape) : Prop where
  len : tp.length ≤ n
  flat : (flatOf tp).length ≤ 3 * n
  chars : ∀ p ∈ tp, PyData.strOk p.2 = true
theorem TapeB.ok {n : Nat} {tp : Tape} (h : TapeB n tp) (hn : n ≤ 1000) : TapeOk tp := ⟨by have := h.len; omega, by have := h.flat; omega, h.chars⟩
theorem flat_snoc (tp : Tape) (p : Int × Str) : (flatOf (tp ++ [p])).length = (flatOf tp).length + p.2.length := by
  unfold flatOf
  rw [List.map_append, cat_append]
  rw [cat_length (List.map _ [p])]; simp
theorem TapeB.snoc {n : Nat} {tp : Tape} {p : Int × Str} (h : TapeB n tp) (h1 : p.2.length ≤ 3) (h2 : PyData.strOk p.2 = true) : TapeB (n + 1) (tp ++ [p]) := by
  refine ⟨by have := h.len; simp; omega, by rw [flat_snoc]; have := h.flat; omega, fun q hq => ?_⟩
  rcases List.mem_append.mp hq with hq | hq
  · exact h.chars q hq
  · rw [List.mem_singleton.mp hq]; exact h2
theorem TapeB.take {n : Nat} {tp : Tape} (h : TapeB n tp) (j : Nat) : TapeB (n + 1) (tp.take j) := by
  refine ⟨by have := h.len; simp; omega, ?_, fun p hp => h.chars p (List.mem_of_mem_take hp)⟩
  have e : flatOf tp = cat ((tp.take j).map (·.2) ++ (tp.drop j).map (·.2)) := by rw [← List.map_append, List.take_append_drop]; rfl
  have := h.flat
  rw [e, cat_append] at this
  show (cat ((tp.take j).map (·.2))).length ≤ _
  omega
theorem TapeB.up {n : Nat} {tp : Tape} (h : TapeB n tp) : TapeB (n + 1) tp := ⟨by have := h.len; omega, by have := h.flat; omega, h.chars⟩
theorem chr_len (l : List Int) : (cat (l.map chrS)).length = l.length := by
  rw [cat_length]
  induction l with
  | nil => rfl
  | cons x r ih => simp [chrS, Str.length] at ih ⊢; omega
theorem chr_ok {l : List Int} (h : ∀ c ∈ l, 0 ≤ c ∧ c < 256) : PyData.strOk (cat (l.map chrS)) = true := strOk_cat fun y hy => by
  obtain ⟨c, hc, rfl⟩ := List.mem_map.mp hy
  have := h c hc
  unfold PyData.strOk chrS
  simp
  omega
theorem TapeB.step {n : Nat} {tp : Tape} (h : TapeB n tp) (x : Int) : TapeB (n + 1) (tapeStep tp x) := by
  unfold tapeStep
  split
  · refine h.snoc ?_ (chr_ok (body_range x))
    show (cat ((bodyOf x).map chrS)).length ≤ 3
    rw [chr_len, body_length]; exact bodyLen_le x
  · unfold afterK
    split
    · exact h.snoc (by show (Str.ofString "(").length ≤ 3; rw [one_len.1]; omega) ok_signs.1
    split
    · exact h.take _
    split
    · exact h.up
    split
    · exact h.snoc (by show (Str.ofString ")").length ≤ 3; rw [one_len.2.1]; omega) ok_signs.2.1
    · exact h.take _
theorem tapes_B : ∀ (D : List Int) (n : Nat) (tp : Tape), TapeB n tp → TapeB (n + D.length) (tapes tp D)
  | [], n, tp, h => h
  | x :: D, n, tp, h => by
    have := tapes_B D (n + 1) (tapeStep tp x) (h.step x)
    have e : n + (x :: D).length = n + 1 + D.length := by simp; omega
    rw [e]; exact this
theorem tapes_ok {D : List Int} (h : D.length ≤ 1000) : TapeOk (tapes [] D) := (tapes_B D 0 [] ⟨by simp, by decide +kernel, by simp⟩).ok (by omega)
theorem piecesGo_len : ∀ (n : Nat) (tp : Tape) (acc : Pcs), (piecesGo n tp acc).length ≤ acc.length + n
  | 0, tp, acc => by simp [piecesGo]
  | n + 1, tp, acc => by
    unfold piecesGo
    split
    · omega
    · have := piecesGo_len n (tp.take (lastK tp)) (pieceOf tp :: acc)
      simp at this; omega
theorem pieces_len (tp : Tape) : (piecesOf tp).length ≤ tp.length := by
  have := piecesGo_len tp.length tp []
  simpa [piecesOf] using this
theorem octs_length (D : List Int) : (octs D).length ≤ 5 * D.length := by
  induction D with
  | nil => simp [octs]
  | cons x D ih =>
    have := octOf_length x
    simp [octs] at ih ⊢
    omega
end Mine
end
section
open PySem PySem.W PyProof.Rows PySem.Calls
set_option Elab.async false
set_option maxRecDepth 100000
set_option linter.unusedVariables false
set_option linter.unusedSimpArgs false
namespace Mine
noncomputable abbrev LPart (w : World) : Type := { x : List Stmt × List Stmt // ∃ a0 a1 a2 a3 a4 a5 a6 a7 t i p, (fdLaw w).body = .stmts (a0 :: a1 :: a2 :: a3 :: a4 :: a5 :: a6 :: a7 :: .For t i x.1 [] p :: x.2) }
noncomputable def lPart (w : World) : LPart w := ⟨(_, _), _, _, _, _, _, _, _, _, _, _, _, by unfold fdLaw; rfl⟩
noncomputable abbrev BPart (w : World) : Type := { x : Stmt × Stmt × Stmt × Stmt × Stmt × Stmt × Stmt // (lPart w).1.1 = [x.1, x.2.1, x.2.2.1, x.2.2.2.1, x.2.2.2.2.1, x.2.2.2.2.2.1, x.2.2.2.2.2.2] }
noncomputable def bPart (w : World) : BPart w := ⟨(_, _, _, _, _, _, _), rfl⟩
/-- all names but these keep -/
noncomputable def KeptBut (l : List Str) (m m' : Str → Option Value) : Prop := ∀ y, l.contains y = false → m' y = m y
theorem KeptBut.refl (l : List Str) (m : Str → Option Value) : KeptBut l m m := fun _ _ => rfl
theorem KeptBut.upd {l : List Str} {m m' : Str → Option Value} {x : Str} {v : Value} (h : KeptBut l m m') (hx : l.contains x = true := by kernel_rfl) : KeptBut l m (upd m' x v) := fun y hy => by
  have hne : y ≠ x := fun e => by rw [e, hx] at hy; cases hy
  simp [Mine.upd, hne, h y hy]
noncomputable def lawNames : List Str := [Str.ofString "x", Str.ofString "deed", Str.ofString "popped", Str.ofString "body", Str.ofString "octets", Str.ofString "tape"]
theorem nopD : (.tuple [.str (Str.ofString ""), .str (Str.ofString "")] : PyData) = pcD nop := rfl
theorem last_pop (xs : Pcs) : ((PyData.list [pcD nop]), (pcsD xs)) = ((PyData.list [pcD nop]), (PyData.list (xs.map pcD))) := rfl
theorem pop_get (xs : Pcs) : ([pcD nop] ++ xs.map pcD)[([pcD nop] ++ xs.map pcD).length - 1]? = some (pcD (((nop :: xs).getLast?).getD nop)) := by
  have e : [pcD nop] ++ xs.map pcD = (nop :: xs).map pcD := by simp
  rw [e, List.getElem?_map, List.length_map, ← List.getLast?_eq_getElem?]
  cases h : (nop :: xs).getLast? with
  | none => simp at h
  | some u => rfl
theorem body_outs (x : Int) : outs (fun _ => true) (fun i => .int (codeAtK (restOf x) i)) (bodyLen x) = (bodyOf x).map .int := by
  rw [outs_all]
  simp [bodyOf]
theorem chr_outs (l : List Int) : outs (fun _ => true) (fun i => .str (chrS (l.getD i 0))) (l.map PyData.int).length = (l.map chrS).map .str := by
  rw [outs_all, List.length_map, map_getD l (fun c => .str (chrS c)) 0]
  simp
theorem pow_small {k : Nat} (h : k < 3) : Builtin.divisionGoesByPylong a ((8 : Int) ^ k) = false := by
  have : k = 0 ∨ k = 1 ∨ k = 2 := by omega
  rcases this with rfl | rfl | rfl
  · exact no_pylong (h := by decide +kernel)
  · exact no_pylong (h := by decide +kernel)
  · exact no_pylong (h := by decide +kernel)
/-- where the deed's two ways end -/
inductive DeedPost (X : List Addr) (L0 : Addr) (M : List (Addr × Obj)) (B₀ h₀ B : Heap) (m : Str → Option Value) (s : Shared) (tp : Tape) (os : List Int) (f : Flow) (s' : Shared) : Prop where
  | mk (hf : f = .next) (m' : Str → Option Value) (B' h' : Heap) (tk' : Nat) (tv' ov' : Value) (hs : s' = St s h' tk') (at_ : At X L0 M B₀ h₀ m' B' h') (e : Ext B B') (kp : KeptBut lawNames m m') (hp : m' (Str.ofString "popped") = m (Str.ofString "popped")) (ht : m' (Str.ofString "tape") = some tv') (rt : Rd B' tv' (tapeD tp)) (ho : m' (Str.ofString "octets") = some ov') (ro : Rd B' ov' (.list (os.map .int))) : DeedPost X L0 M B₀ h₀ B m s tp os f s'
set_option maxHeartbeats 4000000 in
/-- the two ways of the deed: octets and tape -/
theorem l_deed {w : World} {k : Nat} {A : Around} {s : Shared} {h : Heap} {tk : Nat} {E : Value → Shared → Prop} {X : List Addr} {L : Addr} {M : List (Addr × Obj)} {B₀ h₀ B : Heap} {m : Str → Option Value} {oC oR : Obj} {vC : Value} {x : Int} {tR : Tok} {tp : Tape} {os : List Int} {dv tv ov : Value}
    (ok : Ok (k + 4) A) (hb : Bs w B) (a : At X (envL w L).locals M B₀ h₀ m B h) (hC : (L + 1, oC) ∈ M) (hCd : oC.data = .cell (some vC)) (rC : Rd B vC (.list (codesL.map .int))) (hR : (L + 2, oR) ∈ M) (hRd : oR.data = .cell (some (.int (restOf x) tR)))
    (hmd : m (Str.ofString "deed") = some dv) (rd : Rd B dv (.int (deedOf x))) (hmt : m (Str.ofString "tape") = some tv) (rt : Rd B tv (tapeD tp)) (hmo : m (Str.ofString "octets") = some ov) (ro : Rd B ov (.list (os.map .int))) (htp : TapeOk tp) (hos : os.length ≤ 10000) :
    Wx w A (exec (bPart w).1.2.2.2.2.1 (envL w L)) (DeedPost X (envL w L).locals M B₀ h₀ B m s (tapeStep tp x) (os ++ octOf x)) E (St s h tk) := by
  have hsl : sizeLine = 2 ^ 24 := rfl
  have hdr := deed_range x
  have hbl := bodyLen_le x
  refine x_if ok a (te_cmp Fm.mono (pe_local hmd rd) pe_int (cop_gti _ _)) (fun hc B1 h1 t1 a1 e1 => ?_) (fun hc B1 h1 t1 a1 e1 => ?_)
  · have hgt : deedOf x > 3 := of_decide_eq_true hc
    have hb1 := hb.ext e1
    have rR : ∀ B, Rd B (.int (restOf x) tR) (.int (restOf x)) := fun B => .int ..
    refine x_seq (x_assignComp ok a1 (ite_range (n := bodyLen x) Fm.mono hb1 ?it ?itn) (comp_gen (cl := [(Str.ofString "rest", L + 2), (Str.ofString "codes", L + 1)]) (keep := fun _ => true) (el := fun i => .int (codeAtK (restOf x) i)) (fun _ _ => trivial) ?c1 ?c2 ?c3 ?c4 ?c5 ?c6 ?c8) ?hn fun v2 B2 h2 t2 a2 e2 r2 => ?_)
    case it => exact PE.cast (pe_bin Fm.mono (pe_cell hR hRd (rR B1)) pe_int (bop_mod _ _ (by decide))) (by rw [bodyLen_is])
    case itn => omega
    case c1 => kernel_rfl
    case c2 => kernel_rfl
    case c3 => kernel_rfl
    case c4 => kernel_rfl
    case c5 => exact fun C => by kernel_rfl
    case c6 => exact fun C i m' M' B' v hi e h1 r1 => tests_nil
    case c8 =>
      intro C i m' M' B' v hi e hv rv
      have hk3 : i < 3 := by omega
      have hci := codeIx_range (restOf x) i
      have rv' : Rd B' v (.int (i : Nat)) := by simpa using rv
      have hz : (Builtin.Int.intBits 8 : Int) * (i : Int) ≤ 2 ^ 27 := by
        have : (Builtin.Int.intBits 8 : Int) = 4 := by decide +kernel
        rw [this]; omega
      refine pe_item (ds := codesL.map .int) (i := codeIx (restOf x) i) (mono_and Fm.mono Fm.mono) (pe_cellC hC hCd (rC.ext (e1.trans e)) (by kernel_rfl) (by kernel_rfl) (by kernel_rfl)) ?_ hci.1 (by omega) ?_
      · have h8 : (8 : Int) ^ i ≠ 0 := by
          have : i = 0 ∨ i = 1 ∨ i = 2 := by omega
          rcases this with rfl | rfl | rfl <;> decide
        exact pe_bin (mono_and Fm.mono Fm.mono) (pe_bin (mono_and Fm.mono Fm.mono) (pe_bin (mono_and Fm.mono Fm.mono) (pe_cellC hR hRd (rR B') (by kernel_rfl) (by kernel_rfl) (by kernel_rfl)) pe_int (bop_div (restOf x) 4 (by decide) no_pylong)) (PE.cast (d' := .int ((8 : Int) ^ i)) (pe_bin (mono_and Fm.mono Fm.mono) pe_int (pe_localC hv rv') (bop_pow 8 i (by omega) hz)) (by rw [Int.toNat_natCast])) (bop_div ((restOf x).fdiv 4) ((8 : Int) ^ i) h8 (pow_small hk3))) pe_int (bop_mod _ 8 (by decide))
      · have hl : (codeIx (restOf x) i).toNat < codesL.length := by show _ < 8; omega
        rw [List.getElem?_map, List.getElem?_eq_getElem hl]
        simp only [codeAtK, List.getD_eq_getElem?_getD, List.getElem?_eq_getElem hl, Option.map_some, Option.getD_some]
    case hn => omega
    rw [body_outs] at r2
    have e2' := e1.trans e2
    have hb2 := hb.ext e2'
    have hbz : (bodyOf x).length ≤ 3 := by rw [body_length]; exact hbl
    refine x_seq (x_assign (d := .list (((os ++ octOf x)).map .int)) ok a2 (PE.cast (pe_bin Fm.mono (pe_bin Fm.mono (pe_local (upd_ne hmo) (ro.ext e2')) (pe_list (pes_cons Fm.mono pe_int (pes_cons Fm.mono (pe_len Fm.mono hb2 (pe_local upd_self r2) (by simp; omega)) pes_nil))) (bop_list _ _ (by simp; omega))) (pe_local upd_self r2) (bop_list _ _ (by simp; omega))) ?co) fun v3 B3 h3 t3 a3 e3 r3 => ?_)
    case co =>
      rw [octOf, if_pos hgt]
      simp
    have e3' := e2'.trans e3
    refine x_seq (x_assign (d := tapeD (tapeStep tp x)) ok a3 (PE.cast (pe_bin Fm.mono (pe_local (upd_ne (upd_ne hmt)) (rt.ext e3')) (pe_list (pes_cons Fm.mono (pe_tuple (pes_cons Fm.mono pe_int (pes_cons Fm.mono (pe_join (ss := (bodyOf x).map chrS) Fm.mono (PE.cast (d := .list (outs (fun _ => true) (fun i => .str (chrS ((bodyOf x).getD i 0))) ((bodyOf x).map PyData.int).length)) (pe_comp Fm.mono (ite_list (ds := (bodyOf x).map .int) (pe_local (upd_ne upd_self) (r2.ext e3))) (comp_gen (cl := []) (keep := fun _ => true) (fun _ _ => trivial) ?d1 ?d2 ?d3 ?d4 ?d5 ?d6 ?d8) ?dn) ?dc) ?dz) pes_nil))) pes_nil)) (bop_list _ _ ?dl)) ?dt) fun v4 B4 h4 t4 a4 e4 r4 => ?_)
    case d1 => kernel_rfl
    case d2 => kernel_rfl
    case d3 => kernel_rfl
    case d4 => kernel_rfl
    case d5 => exact fun C => by kernel_rfl
    case d6 => exact fun C i m' M' B' v hi e h1 r1 => tests_nil
    case d8 =>
      intro C i m' M' B' v hi e hv rv
      have hi' : i < (bodyOf x).length := by simpa using hi
      have hg : ((bodyOf x).map PyData.int).getD i .none = .int ((bodyOf x).getD i 0) := by simp [hi']
      rw [hg] at rv
      have hcr := body_range x ((bodyOf x).getD i 0) (by rw [List.getD_eq_getElem?_getD, List.getElem?_eq_getElem hi']; exact List.getElem_mem _)
      exact pe_bicall (id := "chr") (mono_and Fm.mono Fm.mono) (hb.ext (e3'.trans e)) (by kernel_rfl) (by kernel_rfl) (pes_cons (mono_and Fm.mono Fm.mono) (pe_localC hv rv) pes_nil) (fun B'' vs eb r => pt_chr r hcr.1 hcr.2)
    case dn => simp; omega
    case dc => rw [chr_outs]
    case dz => rw [chr_len]; omega
    case dl => have := htp.len; simp; omega
    case dt =>
      rw [tapeStep, if_pos hgt, ← tapeD_snoc]
    refine x_nil ⟨rfl, _, B4, h4, t4, v4, v3, rfl, a4, e3'.trans e4, (((KeptBut.refl _ m).upd).upd).upd, upd_ne (upd_ne (upd_ne rfl)), upd_self, r4, upd_ne upd_self, r3.ext e4⟩
  · have hle : ¬ deedOf x > 3 := of_decide_eq_false hc
    have hb1 := hb.ext e1
    have hlt4 : (deedOf x).toNat < ([40, 108, 48, 49] : List Int).length := by show _ < 4; omega
    refine x_seq (x_assign (d := .list (((os ++ octOf x)).map .int)) ok a1 (PE.cast (pe_bin Fm.mono (pe_local hmo (ro.ext e1)) (pe_list (pes_cons Fm.mono (pe_item (d := .int (signOf (deedOf x))) Fm.mono (pe_list (pes_cons Fm.mono pe_int (pes_cons Fm.mono pe_int (pes_cons Fm.mono pe_int (pes_cons Fm.mono pe_int pes_nil))))) (pe_local hmd (rd.ext e1)) hdr.1 (by omega) ?hg) pes_nil)) (bop_list _ _ (by simp; omega))) ?co) fun v3 B3 h3 t3 a3 e3 r3 => ?_)
    case hg =>
      have : ([.int 40, .int 108, .int 48, .int 49] : List PyData) = ([40, 108, 48, 49] : List Int).map .int := rfl
      rw [this, List.getElem?_map, List.getElem?_eq_getElem hlt4]
      simp only [signOf, List.getD_eq_getElem?_getD, List.getElem?_eq_getElem hlt4, Option.map_some, Option.getD_some]
    case co =>
      rw [octOf, if_neg hle]
      simp
    have e3' := e1.trans e3
    refine x_seq (x_assign ok a3 (pe_fn (d := tapeD (afterK tp (deedOf x))) Fm.mono (hb.ext e3') (isAfter w) (by kernel_rfl) (pes_cons Fm.mono (pe_local (upd_ne hmt) (rt.ext e3')) (pes_cons Fm.mono (pe_local (upd_ne hmd) (rd.ext e3')) pes_nil)) fun B' vs e r => after_ok (k := k + 2) (hb.ext (e3'.trans e)) r (by have := htp.len; omega)) fun v4 B4 h4 t4 a4 e4 r4 => ?_)
    refine x_nil ⟨rfl, _, B4, h4, t4, v4, v3, rfl, a4, e3'.trans e4, ((KeptBut.refl _ m).upd).upd, upd_ne (upd_ne rfl), upd_self, by rw [tapeStep, if_neg hle]; exact r4, upd_ne upd_self, r3.ext e4⟩
end Mine
end
section
open PySem PySem.W PyProof.Rows PySem.Calls
set_option Elab.async false
set_option maxRecDepth 100000
set_option linter.unusedVariables false
set_option linter.unusedSimpArgs false
namespace Mine
/-- what law's loop holds, beside its lists -/
structure LHeld (B : Heap) (m : Str → Option Value) (S En : Addr) (zi : Int) (tot : Int) (tp : Tape) (os : List Int) : Prop where
  tape : ∃ v, m (Str.ofString "tape") = some v ∧ Rd B v (tapeD tp)
  octets : ∃ v, m (Str.ofString "octets") = some v ∧ Rd B v (.list (os.map .int))
  size : ∃ v, m (Str.ofString "size") = some v ∧ Rd B v (.int zi)
  total : ∃ v, m (Str.ofString "total") = some v ∧ Rd B v (.int tot)
  plain : ∃ v, m (Str.ofString "plain") = some v ∧ Rd B v (.str msg1)
  states : m (Str.ofString "states") = some (.ref S)
  ends : m (Str.ofString "ends") = some (.ref En)
/-- where a turn of law's loop ends -/
inductive TurnPost (X : List Addr) (L0 : Addr) (it : Addr × Obj) (S En L : Addr) (oC : Obj) (M : List (Addr × Obj)) (B₀ h₀ B : Heap) (s : Shared) (zi tot : Int) (D : List Int) (f : Flow) (s' : Shared) : Prop where
  | mk (hf : f = .next) (m' : Str → Option Value) (B' h' : Heap) (tk' : Nat) (sv' ev' : Array Value) (ep1' ep2' : Nat) (oR' : Obj) (vR' : Option Value) (hs : s' = St s h' tk') (at_ : At X L0 (it :: (S, lisOb sv' ep1') :: (En, lisOb ev' ep2') :: (L + 2, oR') :: (L + 1, oC) :: M) B₀ h₀ m' B' h') (e : Ext B B') (hR : oR'.data = .cell vR') (H : LHeld B' m' S En zi tot (tapes [] D) (octs D)) (rs : RdAll B' sv'.toList (sts zi [] D)) (re : RdAll B' ev'.toList ((endsOf D).map .int)) : TurnPost X L0 it S En L oC M B₀ h₀ B s zi tot D f s'
/-- a name's value, changed alone -/
inductive OnePost (X : List Addr) (L0 : Addr) (M : List (Addr × Obj)) (B₀ h₀ B : Heap) (m : Str → Option Value) (s : Shared) (x : Str) (d : PyData) (s' : Shared) : Prop where
  | mk (m' : Str → Option Value) (B' h' : Heap) (tk' : Nat) (v : Value) (hs : s' = St s h' tk') (at_ : At X L0 M B₀ h₀ m' B' h') (e : Ext B B') (kp : KeptBut [x] m m') (hm : m' x = some v) (r : Rd B' v d) : OnePost X L0 M B₀ h₀ B m s x d s'
set_option maxHeartbeats 4000000 in
theorem l_turn {w : World} {k : Nat} {A : Around} {s : Shared} {h : Heap} {tk : Nat} {E : Value → Shared → Prop} {X : List Addr} {L : Addr} {M : List (Addr × Obj)} {B₀ h₀ B : Heap} {m : Str → Option Value} {I S En : Addr} {oI oC oR : Obj} {sv ev : Array Value} {ep1 ep2 : Nat} {vC xv : Value} {x : Int} {zi tot : Int} {vR : Option Value} {D : List Int}
    (ok : Ok (k + 5) A) (hb : Bs w B) (a : At X (envL w L).locals ((I, oI) :: (S, lisOb sv ep1) :: (En, lisOb ev ep2) :: (L + 2, oR) :: (L + 1, oC) :: M) B₀ h₀ (upd m (Str.ofString "x") xv) B h) (hCd : oC.data = .cell (some vC)) (rC : Rd B vC (.list (codesL.map .int))) (hRd : oR.data = .cell vR) (rx : Rd B xv (.int x))
    (H : LHeld B m S En zi tot (tapes [] D) (octs D)) (rs : RdAll B sv.toList (sts zi [] D)) (re : RdAll B ev.toList ((endsOf D).map .int)) (hD : D.length ≤ 100) (hfirst : D = [] → x = 0) :
    Wx w A (execs (lPart w).1.1 (envL w L)) (TurnPost X (envL w L).locals (I, oI) S En L oC M B₀ h₀ B s zi tot (D ++ [x])) E (St s h tk) := by
  have hsl : sizeLine = 2 ^ 24 := rfl
  have hsz : sv.size = D.length := by have := rs.length; simpa [sts_length] using this
  have hez : ev.size = D.length + 1 := by have := re.length; simpa [endsOf, endsFrom_length] using this
  have hdr := deed_range x
  obtain ⟨tv, hmt, rt⟩ := H.tape
  obtain ⟨ov, hmo, ro⟩ := H.octets
  obtain ⟨zv, hmz, rz⟩ := H.size
  obtain ⟨Tv, hmT, rT⟩ := H.total
  obtain ⟨pv, hmp, rp⟩ := H.plain
  have hmS := H.states
  have hmE := H.ends
  have htp := tapes_ok (D := D) (by omega)
  have htp' := tapes_ok (D := D ++ [x]) (by simp; omega)
  have hol := octs_length D
  rw [(bPart w).2]
  refine wx_gen fun Q' up => ?_
  -- deed
  refine x_seq (x_assign ok a (pe_bin Fm.mono (pe_local upd_self rx) pe_int (bop_mod _ 6 (by decide))) fun dv B1 h1 t1 a1 e1 r1 => ?_)
  -- rest
  have a1' : At X (envL w L).locals ((L + 2, oR) :: (I, oI) :: (S, lisOb sv ep1) :: (En, lisOb ev ep2) :: (L + 1, oC) :: M) B₀ h₀ _ B1 h1 := a1.pull 3
  refine x_seq (x_assignCell ok a1' hRd (pe_bin Fm.mono (pe_bin Fm.mono (pe_local (upd_ne upd_self) (rx.ext e1)) pe_int (bop_div _ 6 (by decide) no_pylong)) pe_int (bop_mod _ 2048 (by decide))) fun rv oR2 B2 h2 t2 a2 hRd2 e2 r2 => ?_)
  have a2' : At X (envL w L).locals ((I, oI) :: (S, lisOb sv ep1) :: (En, lisOb ev ep2) :: (L + 2, oR2) :: (L + 1, oC) :: M) B₀ h₀ _ B2 h2 := At.unpull 3 a2
  obtain ⟨tR, hrv⟩ := r2.int_inv
  subst hrv
  have e2' := e1.trans e2
  -- popped = None
  refine x_seq (x_assign ok a2' pe_none fun nv B3 h3 t3 a3 e3 r3 => ?_)
  have e3' := e2'.trans e3
  have hb3 := hb.ext e3'
  generalize hm3 : upd (upd (upd m (Str.ofString "x") xv) (Str.ofString "deed") dv) (Str.ofString "popped") nv = m3 at a3
  have k3 : ∀ {y : Str} {v : Value}, m y = some v → (y == Str.ofString "x") = false → (y == Str.ofString "deed") = false → (y == Str.ofString "popped") = false → m3 y = some v := fun hy q1 q2 q3 => by rw [← hm3]; exact upd_ne (upd_ne (upd_ne hy q1) q2) q3
  have hmd3 : m3 (Str.ofString "deed") = some dv := by rw [← hm3]; exact upd_ne upd_self
  have hmp3 : m3 (Str.ofString "popped") = some nv := by rw [← hm3]; exact upd_self
  have r1' : Rd B3 dv (.int (deedOf x)) := r1.ext (e2.trans e3)
  -- the piece that is popped
  refine x_ifThen (OnePost X (envL w L).locals ((I, oI) :: (S, lisOb sv ep1) :: (En, lisOb ev ep2) :: (L + 2, oR2) :: (L + 1, oC) :: M) B₀ h₀ B3 m3 s (Str.ofString "popped") (popOf (tapes [] D) x)) ok a3 (te_cmp Fm.mono (pe_local hmd3 r1') pe_int (cop_eqi _ _)) (fun hc B4 h4 t4 a4 e4 => wx_gen fun Q2 up2 => ?_) (fun hc B4 h4 t4 a4 e4 => x_nil ⟨rfl, m3, B4, h4, t4, nv, rfl, a4, e4, KeptBut.refl _ _, hmp3, ?_⟩) ?_
  · have hd2 : deedOf x = 2 := by simpa using hc
    have hne : D ≠ [] := fun q => by rw [hfirst q] at hd2; exact absurd hd2 (by decide)
    obtain ⟨D', y, rfl⟩ : ∃ D' y, D = D' ++ [y] := ⟨D.dropLast, D.getLast hne, (List.dropLast_concat_getLast hne).symm⟩
    have hlast : (sts zi [] (D' ++ [y]))[(sts zi [] (D' ++ [y])).length - 1]? = some (stateD (popOf (tapes [] D') y) (tapes [] (D' ++ [y])) zi) := by
      rw [sts_snoc]; simp
    refine x_seq (x_assign (d := popOf (tapes [] (D' ++ [y])) x) ok a4 (PE.cast (pe_last Fm.mono (pe_bin Fm.mono (pe_list (pes_cons Fm.mono (pe_tuple (pes_cons Fm.mono pe_str (pes_cons Fm.mono pe_str pes_nil))) pes_nil)) (pe_titem Fm.mono (pe_lastM (k3 hmS (by kernel_rfl) (by kernel_rfl) (by kernel_rfl)) (.tail _ (.head _)) (rs.ext (e3'.trans e4)) (pe_neg Fm.mono pe_int) hlast (by rw [sts_snoc]; simp)) pe_int (by decide) (by decide) rfl) (bop_list [pcD nop] ((piecesOf (tapes [] (D' ++ [y]))).map pcD) ?bz)) (pe_neg Fm.mono pe_int) (pop_get _) (by simp)) (by rw [popOf, if_pos hd2])) fun v5 B5 h5 t5 a5 e5 r5 => x_nil (up2 _ _ ⟨rfl, _, B5, h5, t5, v5, rfl, a5, e4.trans e5, (KeptBut.refl _ m3).upd, upd_self, r5⟩))
    have := pieces_len (tapes [] (D' ++ [y]))
    have := htp.len
    simp; omega
  · have hd2 : deedOf x ≠ 2 := by simpa using hc
    rw [popOf, if_neg hd2]
    rw [r3.none_inv]
    exact .none _
  rintro _ ⟨m4, B4, h4, t4, v4, rfl, a4, e4, kp4, hmp4, rp4⟩
  have e4' := e3'.trans e4
  have k4 : ∀ {y : Str} {v : Value}, m3 y = some v → [Str.ofString "popped"].contains y = false → m4 y = some v := fun hy q => (kp4 _ q).trans hy
  -- octets and tape
  refine x_seq (wx (wpAny_mono (xw (l_deed (k := k + 1) (x := x) (tp := tapes [] D) (os := octs D) ok (hb.ext e4') a4 (.tail _ (.tail _ (.tail _ (.tail _ (.head _))))) hCd (rC.ext e4') (.tail _ (.tail _ (.tail _ (.head _)))) hRd2 (k4 hmd3 (by kernel_rfl)) (r1'.ext e4) (k4 (k3 hmt (by kernel_rfl) (by kernel_rfl) (by kernel_rfl)) (by kernel_rfl)) (rt.ext e4') (k4 (k3 hmo (by kernel_rfl) (by kernel_rfl) (by kernel_rfl)) (by kernel_rfl)) (ro.ext e4') htp (by omega))) (fun f s' q => ?_) fun _ _ e => e))
  obtain ⟨rfl, m5, B5, h5, t5, tv5, ov5, rfl, a5, e5, kp5, hp5, hmt5, rt5, hmo5, ro5⟩ := q
  have e5' := e4'.trans e5
  have hb5 := hb.ext e5'
  have k5 : ∀ {y : Str} {v : Value}, m y = some v → (y == Str.ofString "x") = false → (y == Str.ofString "deed") = false → (y == Str.ofString "popped") = false → [Str.ofString "popped"].contains y = false → lawNames.contains y = false → m5 y = some v := fun hy q1 q2 q3 q4 q5 => (kp5 _ q5).trans (k4 (k3 hy q1 q2 q3) q4)
  rw [show tapeStep (tapes [] D) x = tapes [] (D ++ [x]) from (tapes_snoc [] D x).symm] at rt5
  rw [show octs D ++ octOf x = octs (D ++ [x]) from (octs_snoc D x).symm] at ro5
  -- states.append
  have a5S : At X (envL w L).locals ((S, lisOb sv ep1) :: (I, oI) :: (En, lisOb ev ep2) :: (L + 2, oR2) :: (L + 1, oC) :: M) B₀ h₀ m5 B5 h5 := a5.pull 1
  have hmS5 : m5 (Str.ofString "states") = some (.ref S) := k5 hmS (by kernel_rfl) (by kernel_rfl) (by kernel_rfl) (by kernel_rfl) (by kernel_rfl)
  refine x_seq (x_expr (wp_method rfl (by kernel_rfl) (by kernel_rfl) (ev_local a5 hmS5 (gm_listAppend hb5 a5S fun h6 a6 => ?_))))
  refine callWith_method1 ((pes_cons (w := w) (k := k + 5) Fm.mono (pe_fn (d := stateD (popOf (tapes [] D) x) (tapes [] (D ++ [x])) zi) Fm.mono hb5 (isState w) (by kernel_rfl) (pes_cons Fm.mono (pe_local (hp5.trans hmp4) (rp4.ext e5)) (pes_cons Fm.mono (pe_local hmt5 rt5) (pes_cons Fm.mono (pe_local (k5 hmz (by kernel_rfl) (by kernel_rfl) (by kernel_rfl) (by kernel_rfl) (by kernel_rfl)) (rz.ext e5')) pes_nil))) fun B' vs e r => state_ok (k := k + 3) (hb5.ext e) r htp') pes_nil).run A (St s h6 t5) _ _ ok a6.bh a6.fm fun vs B7 h7 t7 s7 r7 => ?_) (by kernel_rfl) (by kernel_rfl)
  obtain ⟨u, vs', rfl, ru, r7⟩ := r7.cons_inv
  rw [r7.nil_inv]
  have e7' := e5'.trans s7.bb
  refine list_append (hb.ext e7') (a6.step s7) (by omega) fun h8 ep8 a8 => ?_
  -- ends.append
  have a8' : At X (envL w L).locals ((En, lisOb ev ep2) :: (I, oI) :: (S, lisOb (sv.push u) ep8) :: (L + 2, oR2) :: (L + 1, oC) :: M) B₀ h₀ m5 B7 h8 := (At.unpull (M := (I, oI) :: (S, lisOb (sv.push u) ep8) :: (En, lisOb ev ep2) :: (L + 2, oR2) :: (L + 1, oC) :: M) 1 a8).pull 2
  have hmE5 : m5 (Str.ofString "ends") = some (.ref En) := k5 hmE (by kernel_rfl) (by kernel_rfl) (by kernel_rfl) (by kernel_rfl) (by kernel_rfl)
  have hol' := octs_length (D ++ [x])
  simp only [List.length_append, List.length_cons, List.length_nil] at hol'
  refine x_seq (x_expr (wp_method rfl (by kernel_rfl) (by kernel_rfl) (ev_local a8' hmE5 (gm_listAppend (hb.ext e7') a8' fun h9 a9 => ?_))))
  refine callWith_method1 ((pes_cons (w := w) (k := k + 5) Fm.mono (pe_len Fm.mono (hb.ext e7') (pe_local hmo5 (ro5.ext s7.bb)) (by simp; omega)) pes_nil).run A (St s h9 t7) _ _ ok a9.bh a9.fm fun vs BA hA tA sA rA => ?_) (by kernel_rfl) (by kernel_rfl)
  obtain ⟨u2, vs', rfl, ru2, rA⟩ := rA.cons_inv
  rw [rA.nil_inv]
  have eA' := e7'.trans sA.bb
  refine list_append (hb.ext eA') (a9.step sA) (by omega) fun hB epB aB => x_nil (up _ _ ?_)
  have aB' : At X (envL w L).locals ((I, oI) :: (S, lisOb (sv.push u) ep8) :: (En, lisOb (ev.push u2) epB) :: (L + 2, oR2) :: (L + 1, oC) :: M) B₀ h₀ m5 BA hB := At.unpull 2 aB
  refine ⟨rfl, m5, BA, hB, tA, _, _, ep8, epB, oR2, _, rfl, aB', eA', hRd2, ⟨⟨tv5, hmt5, rt5.ext (s7.bb.trans sA.bb)⟩, ⟨ov5, hmo5, ro5.ext (s7.bb.trans sA.bb)⟩, ⟨zv, k5 hmz (by kernel_rfl) (by kernel_rfl) (by kernel_rfl) (by kernel_rfl) (by kernel_rfl), rz.ext eA'⟩, ⟨Tv, k5 hmT (by kernel_rfl) (by kernel_rfl) (by kernel_rfl) (by kernel_rfl) (by kernel_rfl), rT.ext eA'⟩, ⟨pv, k5 hmp (by kernel_rfl) (by kernel_rfl) (by kernel_rfl) (by kernel_rfl) (by kernel_rfl), rp.ext eA'⟩, hmS5, hmE5⟩, ?_, ?_⟩
  · rw [sts_snoc, Array.toList_push]
    exact RdAll.append (rs.ext eA') (.cons (ru.ext sA.bb) (.nil _))
  · have : endsOf (D ++ [x]) = endsOf D ++ [((octs (D ++ [x])).length : Int)] := by
      unfold endsOf
      rw [ends_snoc]
      simp
    rw [this, Array.toList_push, List.map_append]
    refine RdAll.append (re.ext eA') (.cons ?_ (.nil _))
    simpa using ru2
end Mine
end
section
open PySem PySem.W PyProof.Rows PySem.Calls
set_option Elab.async false
set_option maxRecDepth 100000
set_option linter.unusedVariables false
set_option linter.unusedSimpArgs false
namespace Mine
noncomputable def cutDone (D : List Int) (c : Int) : Nat := ((endsOf D).filter fun e => decide (e ≤ c)).length - 1
noncomputable def cutThere (D : List Int) (c : Int) : Int := c - (endsOf D).getD (cutDone D c) 0
noncomputable def cutWords (D : List Int) (c : Int) : Str := if cutThere D c > 1 then fmtE ((octs D).getD ((endsOf D).getD (cutDone D c) 0 + 1).toNat 0).toNat (cutThere D c - 2).toNat else msg1
/-- what is left to the plain law -/
structure PlainLaw : Prop where
  full : ∀ (zi : Int) (D : List Int), mrun zi (octs D).length (octs D) [] = (sts zi [] D, msg1)
  okcut : ∀ (D : List Int) (c : Nat), okRun ((octs D).take c).length ((octs D).take c)
  cut : ∀ (zi : Int) (D : List Int) (c : Nat), c ≤ (octs D).length → mrun zi ((octs D).take c).length ((octs D).take c) [] = ((sts zi [] D).take (cutDone D c), cutWords D c)
  oct : ∀ (D : List Int), ∀ o ∈ octs D, 0 ≤ o ∧ o < 256
  done_ge : ∀ (D : List Int) (c : Nat), 1 ≤ ((endsOf D).filter fun e => decide (e ≤ (c : Int))).length
  there : ∀ (D : List Int) (c : Nat), c ≤ (octs D).length → cutThere D c > 1 → ∃ n j : Nat, n ≤ 3 ∧ j ≤ 3 ∧ cutThere D c - 2 = j ∧ (octs D)[((endsOf D).getD (cutDone D c) 0 + 1).toNat]? = some (n : Int) ∧ 0 ≤ (endsOf D).getD (cutDone D c) 0
  shapedF : ∀ (zi : Int) (D : List Int), SeqAt.shaped (.tuple [.list (sts zi [] D), .str msg1]) = true
  shapedC : ∀ (zi : Int) (D : List Int) (c : Nat), c ≤ (octs D).length → SeqAt.shaped (.tuple [.list ((sts zi [] D).take (cutDone D c)), .str (cutWords D c)]) = true
theorem ite_listN {w : World} {k : Nat} {J : Heap → Prop} {env : Env} {B : Heap} {iter : Expr} {src : Heap → Prop} {ds : List PyData} {n : Nat} (h : PE w k J env B iter (.list ds)) (hn : n = ds.length) : ItE w k J env B iter src n listSt fun i => ds.getD i .none := by
  subst hn
  exact ite_list h
noncomputable abbrev FPart (w : World) : Type := { x : List Stmt // (fdLaw w).body = .stmts x }
noncomputable def fPart (w : World) : FPart w := ⟨_, by unfold fdLaw; rfl⟩
theorem ends_outs (es : List Int) (c : Int) : outs (fun i => decide (es.getD i 0 ≤ c)) (fun i => (es.map PyData.int).getD i .none) (es.map PyData.int).length = (es.filter fun e => decide (e ≤ c)).map .int := by
  unfold outs
  rw [List.length_map]
  have key : ∀ n, n ≤ es.length → ((List.range n).filter fun i => decide (es.getD i 0 ≤ c)).map (fun i => (es.map PyData.int).getD i .none) = ((es.take n).filter fun e => decide (e ≤ c)).map .int := by
    intro n
    induction n with
    | zero => intro _; simp
    | succ n ih =>
      intro hn
      rw [List.range_succ, List.filter_append, List.map_append, ih (by omega), List.take_add_one, List.filter_append, List.map_append]
      congr 1
      have hlt : n < es.length := hn
      by_cases h : es[n] ≤ c <;> simp [hlt, h]
  have := key es.length (Nat.le_refl _)
  simpa using this
/-- what law's loop keeps -/
inductive LoopInv (S En L : Addr) (oC : Obj) (M : List (Addr × Obj)) (B : Heap) (zi tot : Int) (D : List Int) (m' : Str → Option Value) (M' : List (Addr × Obj)) (B' : Heap) : Prop where
  | mk (e : Ext B B') (sv ev : Array Value) (ep1 ep2 : Nat) (oR' : Obj) (vR : Option Value) (hM : M' = (S, lisOb sv ep1) :: (En, lisOb ev ep2) :: (L + 2, oR') :: (L + 1, oC) :: M) (hR : oR'.data = .cell vR) (H : LHeld B' m' S En zi tot (tapes [] D) (octs D)) (rs : RdAll B' sv.toList (sts zi [] D)) (re : RdAll B' ev.toList ((endsOf D).map .int)) : LoopInv S En L oC M B zi tot D m' M' B'
set_option maxHeartbeats 8000000 in
theorem law_ok (P : PlainLaw) {w : World} {k : Nat} {A : Around} {s : Shared} {h : Heap} {tk : Nat} {E : Value → Shared → Prop} {Q : Flow → Shared → Prop} {L : Addr} {B₀ h₀ B : Heap} {m : Str → Option Value} {oT oR oC o1 o2 o3 : Obj} {v : Value} {ns : List Int}
    (ok : Ok (k + 8) A) (hfr : A.frames = some [envL w L]) (hb : Bs w B) (a : At [63, 70, 121] (envL w L).locals [(L + 3, oT), (L + 2, oR), (L + 1, oC), (63, o1), (70, o2), (121, o3)] B₀ h₀ m B h) (hTd : oT.data = .cell none) (hRd : oR.data = .cell none) (hCd : oC.data = .cell none)
    (hms : m (Str.ofString "script") = some v) (rv : Rd B v (.list (ns.map .int))) (hns : ns.length ≤ 1000) (ht1 : TabO o1) (ht2 : TabO o2) (ht3 : T121 B o3) (bare : AllBare s.gens)
    (q : ∀ o1' o2' o3' gens' R m' B' h' tk', At [63, 70, 121] (envL w L).locals ((63, o1') :: (70, o2') :: (121, o3') :: R) B₀ h₀ m' B' h' → TabO o1' → TabO o2' → T121 B' o3' → AllBare gens' → Q (.ret (.bool true)) (St { s with gens := gens' } h' tk')) :
    Wx w A (execs (fPart w).1 (envL w L)) Q E (St s h tk) := by
  have hsl : sizeLine = 2 ^ 24 := rfl
  have hok : FrOk [L] [envL w L] := by
    intro e he
    cases List.mem_singleton.mp he
    exact ⟨fun c => (by rw [show (envL w L).scope.kind = .function by kernel_rfl] at c; cases c), L, rfl, .head _⟩
  generalize hD : ([0, 208, 6, 59, 1, 106, 2] : List Int) ++ ns.take 12 = D
  have hDl : D.length ≤ 19 := by rw [← hD]; simp; omega
  have hD0 : ∀ x r, D = x :: r → x = 0 := by
    rintro x r e
    rw [← hD] at e
    simp at e
    exact e.1.symm
  have hol := octs_length D
  -- codes
  have a0 : At [63, 70, 121] (envL w L).locals ((L + 1, oC) :: [(L + 3, oT), (L + 2, oR), (63, o1), (70, o2), (121, o3)]) B₀ h₀ m B h := a.pull 2
  refine x_seq (x_assignCell ok a0 hCd (pe_list (pes_cons Fm.mono pe_int (pes_cons Fm.mono pe_int (pes_cons Fm.mono pe_int (pes_cons Fm.mono pe_int (pes_cons Fm.mono pe_int (pes_cons Fm.mono pe_int (pes_cons Fm.mono pe_int (pes_cons Fm.mono pe_int pes_nil))))))))) fun vC oC1 B1 h1 t1 a1 hCd1 e1 rC => ?_)
  -- total
  refine x_seq (x_assignR (X := [63, 70, 121]) (B₀ := B₀) (h₀ := h₀) (m := m) (wpAny_Call_NameR (ldr_bi (v := .builtin "sum") (hb.ext e1) a1.bh (by kernel_rfl) (by kernel_rfl) ?_ (by kernel_rfl) (by kernel_rfl) (by kernel_rfl) (by kernel_rfl))))
  refine callWith_builtin1 (spliced_more (ev_local a1 hms (spliced_nil ?_)) (by kernel_rfl)) (by kernel_rfl) (by kernel_rfl)
  refine ev_sum ok a1 (rv.ext e1) fun h2 t2 tt a2 => ⟨_, B1, h2, t2, rfl, a2, fun h3 a3 t3 => ?_⟩
  have hb1 := hb.ext e1
  -- size
  refine x_seq (x_assign ok a3 (pe_bin Fm.mono (pe_local upd_self (.int ..)) pe_int (bop_mod _ 4 (by decide))) fun v4 B4 h4 t4 a4 e4 r4 => ?_)
  have hzr : 0 ≤ ns.sum.fmod 4 ∧ ns.sum.fmod 4 < 4 := ⟨Int.fmod_nonneg_of_pos _ (by decide), Int.fmod_lt_of_pos _ (by decide)⟩
  generalize hzi : ns.sum.fmod 4 = zi at r4 hzr
  -- plain
  refine x_seq (x_assign ok a4 (pe_str (i := msg1)) fun v5 B5 h5 t5 a5 e5 r5 => ?_)
  -- tape, octets
  refine x_seq (x_assign ok a5 (pe_list pes_nil) fun v6 B6 h6 t6 a6 e6 r6 => ?_)
  refine x_seq (x_assign ok a6 (pe_list pes_nil) fun v7 B7 h7 t7 a7 e7 r7 => ?_)
  -- states, ends
  refine x_seq (x_assignR (X := [63, 70, 121]) (B₀ := B₀) (h₀ := h₀) (List_ (spliced_nil (wpAny_newList ⟨_, B7, _, t7, rfl, a7.new (lisOb #[] 0), fun h8 a8 t8 => ?_⟩))))
  have hS := a7.sz
  generalize hSa : h7.objs.size = S at a8 hS
  refine x_seq (x_assignR (X := [63, 70, 121]) (B₀ := B₀) (h₀ := h₀) (List_ (spliced_more (wpAny_Constant_int (spliced_nil (wpAny_newList ⟨_, B7, _, t8 + 1, rfl, a8.new (lisOb #[.int 0 t8] 0), fun h9 a9 t9 => ?_⟩))) (by kernel_rfl))))
  have hE := a8.sz
  generalize hEa : h8.objs.size = En at a9 hE
  have e17 := ((e4.trans e5).trans e6).trans e7
  have hb7 := hb1.ext e17
  have a9' : At [63, 70, 121] (envL w L).locals ((S, lisOb #[] 0) :: (En, lisOb #[.int 0 t8] 0) :: (L + 2, oR) :: (L + 1, oC1) :: [(L + 3, oT), (63, o1), (70, o2), (121, o3)]) B₀ h₀ _ B7 h9 := (((At.pull 2 a9).pull 4).pull 2).pull 3
  -- the loop
  refine x_seq (x_forIt (st := listSt) (n := D.length) (val := fun i => (D.map PyData.int).getD i .none) (fun i m' M' B' => LoopInv S En L oC1 [(L + 3, oT), (63, o1), (70, o2), (121, o3)] B7 zi ns.sum (D.take i) m' M' B') ok a9' ?it ?i0 ?turn ?done)
  case it =>
    have hDD : (.list (([.int 0, .int 208, .int 6, .int 59, .int 1, .int 106, .int 2] : List PyData) ++ (ns.map .int).take 12) : PyData) = .list (D.map .int) := by
      rw [← hD]; simp
    exact ite_listN (ds := D.map .int) (PE.cast (pe_bin Fm.mono (pe_list (pes_cons Fm.mono pe_int (pes_cons Fm.mono pe_int (pes_cons Fm.mono pe_int (pes_cons Fm.mono pe_int (pes_cons Fm.mono pe_int (pes_cons Fm.mono pe_int (pes_cons Fm.mono pe_int pes_nil)))))))) (pe_upto (n := 12) Fm.mono (pe_local (upd_ne (upd_ne (upd_ne (upd_ne (upd_ne (upd_ne (upd_ne hms))))))) (rv.ext (e1.trans e17))) pe_int (by simp; omega)) (bop_list _ _ (by simp; omega))) hDD) (by simp)
  case i0 =>
    intro B' e
    refine ⟨e, #[], #[.int 0 t8], 0, 0, oR, _, rfl, hRd, ⟨⟨v6, upd_ne (upd_ne (upd_ne upd_self)), (r6.ext e7).ext e⟩, ⟨v7, upd_ne (upd_ne upd_self), r7.ext e⟩, ⟨v4, upd_ne (upd_ne (upd_ne (upd_ne (upd_ne upd_self)))), (r4.ext ((e5.trans e6).trans e7)).ext e⟩, ⟨_, upd_ne (upd_ne (upd_ne (upd_ne (upd_ne (upd_ne upd_self))))), .int ..⟩, ⟨v5, upd_ne (upd_ne (upd_ne (upd_ne upd_self))), (r5.ext (e6.trans e7)).ext e⟩, upd_ne (by rw [← hSa]; exact upd_self), by rw [← hEa]; exact upd_self⟩, .nil _, .cons (.int ..) (.nil _)⟩
  case turn =>
    rintro I oI i m' M' Bi hi' ti vi Ei hi ai rvi ⟨ei, sv, ev, ep1, ep2, oR', vR, rfl, hRd', Hi, rsi, rei⟩
    have hx : (D.map PyData.int).getD i .none = .int (D.getD i 0) := by simp [hi]
    rw [hx] at rvi
    have hsn : D.take (i + 1) = D.take i ++ [D.getD i 0] := by
      rw [List.take_add_one]; simp [hi]
    refine wx (wpAny_mono (xw (l_turn (k := k + 3) (D := D.take i) (x := D.getD i 0) ok (hb7.ext ei) ai hCd1 (rC.ext (e17.trans ei)) hRd' rvi Hi rsi rei (by simp; omega) (fun hnil => ?_))) (fun f s' qq => ?_) fun _ _ e => e)
    · have hi0 : i = 0 := by
        have := congrArg List.length hnil
        rw [List.length_take] at this
        simp only [List.length_nil] at this
        omega
      subst hi0
      cases hDc : D with
      | nil => rfl
      | cons x r => simpa using hD0 x r hDc
    · obtain ⟨rfl, m2, B2, h2, tk2, sv2, ev2, epa, epb, oR2, vR2, rfl, a2', e2', hRd2, H2, rs2, re2⟩ := qq
      exact ⟨m2, _, B2, h2, tk2, rfl, a2', e2', ei.trans e2', sv2, ev2, epa, epb, oR2, vR2, rfl, hRd2, by rw [hsn]; exact H2, by rw [hsn]; exact rs2, by rw [hsn]; exact re2⟩
  case done =>
    rintro mA MA BA hA tA aA ⟨eA, sv, ev, ep1, ep2, oR', vR, rfl, hRd', H, rs, re⟩
    rw [List.take_length] at H rs re
    obtain ⟨ov, hmo, ro⟩ := H.octets
    obtain ⟨zv, hmz, rz⟩ := H.size
    obtain ⟨Tv, hmT, rT⟩ := H.total
    obtain ⟨pv, hmp, rp⟩ := H.plain
    have hmS := H.states
    have hmE := H.ends
    obtain ⟨BB, aB, eB, gS⟩ := aA.freeze1 hS
    obtain ⟨BC, aC, eC, gE⟩ := aB.freeze1 hE
    have eAC := eB.trans eC
    have hbC := hb7.ext (eA.trans eAC)
    have rS : Rd BC (.ref S) (.list (sts zi [] D)) := Rd.list (vs := sv.toList) ⟨_, eC _ _ gS, rfl, ep1, by simp [lisOb]⟩ (rs.ext eAC)
    have rE : Rd BC (.ref En) (.list ((endsOf D).map .int)) := Rd.list (vs := ev.toList) ⟨_, gE, rfl, ep2, by simp [lisOb]⟩ (re.ext eAC)
    obtain ⟨oc, od, osl, ho⟩ := isMachine w
    have aC' : At [63, 70, 121] (envL w L).locals ((63, o1) :: (70, o2) :: (121, o3) :: [(L + 2, oR'), (L + 1, oC1), (L + 3, oT)]) B₀ h₀ mA BC hA := ((aC.pull 5).pull 5).pull 5
    -- the whole run
    refine x_seq (wx (wpAny_If (wpAny_isTrue_Compare1 (wpAny_Call_NameR (ldr_g (v := .ref 124) hbC aC.bh (by kernel_rfl) ?_ (by kernel_rfl) (by kernel_rfl) (by kernel_rfl))))))
    refine callWith_def (o := ⟨oc, od, .func (fdMachine w), osl⟩) rfl (spliced_more (ev_local aC' hmo (spliced_more (ev_local aC' hmz (spliced_nil ⟨aC'.bh _ _ (hbC.k _ _ ho), ?_⟩)) (by kernel_rfl))) (by kernel_rfl)) (by kernel_rfl)
    have okfull : okRun (octs D).length (octs D) := by have := P.okcut D (octs D).length; rwa [List.take_length] at this
    refine machine_ok (k := k + 2) (zi := zi) (ns := octs D) ok hbC aC' hfr hok (ro.ext eAC) (rz.ext eAC) (P.oct D) (by omega) okfull hzr.1 (by omega) ht1 ht2 (ht3.ext ((e1.trans e17).trans (eA.trans eAC))) bare fun o1a o2a o3a va ga Ba ha ta aa ea ht1a ht2a ht3a barea rva => ?_
    rw [P.full] at rva
    have hba := hbC.ext ea
    refine (pe_tuple (pes_cons Fm.mono (pe_local hmS (rS.ext ea)) (pes_cons Fm.mono (pe_local hmp (rp.ext (eAC.trans ea))) pes_nil))).run (k := k + 8) A (St { s with gens := ga } ha ta) _ _ ok aa.bh aa.fm fun vb Bb hb' tb sb rb => ?_
    have ab := aa.step sb
    have hshf := P.shapedF zi D
    refine cop_ne (w := w) _ _ hshf hshf (k + 8) (Fm (envL w L) mA _) Bb va vb (rva.ext sb.bb) rb A (St { s with gens := ga } hb' tb) _ _ ok ab.bh ab.fm fun vc Bc hc tc sc rc => ?_
    have ac := ab.step sc
    subst rc
    rw [SeqAt.eqv_refl _ (SeqAt.canLay_of_shaped hshf)]
    refine wpAny_truthy_bool ?_
    show wpAny _ A (execs [] _) _ _ _
    refine xw (x_nil ?_)
    have eac := ea.trans (sb.bb.trans sc.bb)
    have eAc := eAC.trans eac
    -- cut
    have ac' : At [63, 70, 121] (envL w L).locals ((L + 3, oT) :: [(63, o1a), (70, o2a), (121, o3a), (L + 2, oR'), (L + 1, oC1)]) B₀ h₀ mA Bc hc := At.pull 5 ac
    refine x_seq (x_assignCell (s := { s with gens := ga }) ok ac' hTd (pe_bin Fm.mono (pe_bin Fm.mono (pe_local hmT (rT.ext eAc)) pe_int (bop_add _ _)) (pe_bin Fm.mono (pe_len Fm.mono (hbC.ext eac) (pe_local hmo (ro.ext eAc)) (by simp; omega)) pe_int (bop_add _ _)) (bop_mod _ _ (by simp; omega))) fun vd oT1 Bd hd td ad hTd1 ed rd => ?_)
    have hcr : 0 ≤ (ns.sum + 8).fmod (((octs D).map PyData.int).length + 1) ∧ (ns.sum + 8).fmod (((octs D).map PyData.int).length + 1) < ((octs D).map PyData.int).length + 1 := ⟨Int.fmod_nonneg_of_pos _ (by omega), Int.fmod_lt_of_pos _ (by omega)⟩
    obtain ⟨c, hcc⟩ := Int.eq_ofNat_of_zero_le hcr.1
    rw [hcc] at rd hcr
    have hcle : c ≤ (octs D).length := by have := hcr.2; simp at this; omega
    have eAd := eAc.trans ed
    have ead := eac.trans ed
    have hbd := hbC.ext ead
    -- done
    have hdge := P.done_ge D c
    have hfl : ((endsOf D).filter fun e => decide (e ≤ (c : Int))).length ≤ D.length + 1 := by
      have := List.length_filter_le (fun e => decide (e ≤ (c : Int))) (endsOf D)
      simpa [endsOf, endsFrom_length] using this
    have hdone : ((cutDone D c : Nat) : Int) = (((endsOf D).filter fun e => decide (e ≤ (c : Int))).length : Int) - 1 := by unfold cutDone; omega
    have hel : (endsOf D).length = D.length + 1 := by simp [endsOf, endsFrom_length]
    refine x_seq (x_assign (s := { s with gens := ga }) (d := .int (cutDone D c)) ok ad (PE.cast (pe_bin Fm.mono (pe_len Fm.mono hbd (PE.cast (d := .list (outs (fun i => decide ((endsOf D).getD i 0 ≤ (c : Int))) (fun i => ((endsOf D).map PyData.int).getD i .none) ((endsOf D).map PyData.int).length)) (pe_comp Fm.mono (ite_list (ds := (endsOf D).map .int) (pe_local hmE (rE.ext ead))) (comp_gen (cl := [(Str.ofString "cut", L + 3)]) (keep := fun i => decide ((endsOf D).getD i 0 ≤ (c : Int))) (fun _ _ => trivial) ?d1 ?d2 ?d3 ?d4 ?d5 ?d6 ?d8) ?dn) (by rw [ends_outs])) (by simp; omega)) pe_int (bop_sub _ _)) (by rw [hdone]; simp)) fun ve Be he te ae ee re' => ?_)
    case d1 => kernel_rfl
    case d2 => kernel_rfl
    case d3 => kernel_rfl
    case d4 => kernel_rfl
    case d5 => exact fun C => by kernel_rfl
    case d6 =>
      intro C i m' M' B' v hi e hv rv
      have hi' : i < (endsOf D).length := by simpa using hi
      have hg : ((endsOf D).map PyData.int).getD i .none = .int ((endsOf D).getD i 0) := by simp [hi']
      rw [hg] at rv
      exact tests_one (te_cmp (mono_and Fm.mono Fm.mono) (pe_localC hv rv) (pe_cellC (.head _) hTd1 (rd.ext e) (by kernel_rfl) (by kernel_rfl) (by kernel_rfl)) (cop_lei _ _))
    case d8 => exact fun C i m' M' B' v hi e h1 r1 => pe_localC h1 r1
    case dn => simp; omega
    have hdlt : cutDone D c < (endsOf D).length := by omega
    have eAe := eAd.trans ee
    have eae := ead.trans ee
    have hgE : ((endsOf D).map PyData.int)[((cutDone D c : Nat) : Int).toNat]? = some (.int ((endsOf D).getD (cutDone D c) 0)) := by
      rw [Int.toNat_natCast, List.getElem?_map]
      simp [hdlt]
    -- there
    refine x_seq (x_assign (s := { s with gens := ga }) ok ae (pe_bin Fm.mono (pe_cell (.head _) hTd1 (rd.ext ee)) (pe_item Fm.mono (pe_local (upd_ne hmE) (rE.ext eae)) (pe_local upd_self re') (by omega) (by omega) hgE) (bop_sub _ _)) fun vf Bf hf tf af ef rf => ?_)
    -- words
    refine x_seq (x_assign (s := { s with gens := ga }) ok af (pe_local (upd_ne (upd_ne hmp)) (rp.ext (eAe.trans ef))) fun vg Bg hg tg ag eg rg => ?_)
    have eAg := (eAe.trans ef).trans eg
    have eag := (eae.trans ef).trans eg
    refine x_ifThen (s := { s with gens := ga }) (OnePost [63, 70, 121] (envL w L).locals ((L + 3, oT1) :: [(63, o1a), (70, o2a), (121, o3a), (L + 2, oR'), (L + 1, oC1)]) B₀ h₀ Bg (upd (upd (upd mA (Str.ofString "done") ve) (Str.ofString "there") vf) (Str.ofString "words") vg) { s with gens := ga } (Str.ofString "words") (.str (cutWords D c))) ok ag (te_cmp Fm.mono (pe_local (upd_ne upd_self) (rf.ext eg)) pe_int (cop_gti _ _)) (fun hcx Bh hh th ah eh => ?_) (fun hcx Bh hh th ah eh => x_nil ⟨rfl, _, Bh, hh, th, vg, rfl, ah, eh, KeptBut.refl _ _, upd_self, ?_⟩) ?_
    · have hgt : cutThere D c > 1 := of_decide_eq_true hcx
      obtain ⟨n3, j3, hn3, hj3, hje, hoc, hen⟩ := P.there D c hcle hgt
      have eAh := eAg.trans eh
      have eah := eag.trans eh
      refine x_seq (x_assign (s := { s with gens := ga }) (d := .str (cutWords D c)) ok ah (PE.cast (pe_fmt (n := n3) (j := j3) Fm.mono (hbC.ext eah) (pes_cons Fm.mono (pe_item Fm.mono (pe_local (upd_ne (upd_ne (upd_ne hmo))) (ro.ext eAh)) (pe_bin Fm.mono (pe_item Fm.mono (pe_local (upd_ne (upd_ne (upd_ne hmE))) (rE.ext eah)) (pe_local (upd_ne (upd_ne upd_self)) (re'.ext ((ef.trans eg).trans eh))) (by omega) (by omega) hgE) pe_int (bop_add _ _)) (by omega) ?bnd (by rw [List.getElem?_map, hoc]; rfl)) (pes_cons Fm.mono (PE.cast (pe_bin Fm.mono (pe_local (upd_ne upd_self) (rf.ext (eg.trans eh))) pe_int (bop_sub _ _)) (by rw [← hje]; rfl)) pes_nil)) hn3 hj3) ?cw) fun v5 B5 h5 t5 a5 e5 r5 => x_nil ⟨rfl, _, B5, h5, t5, v5, rfl, a5, eh.trans e5, (KeptBut.refl _ _).upd, upd_self, r5⟩)
      case bnd =>
        have := (List.getElem?_eq_some_iff.mp hoc).1
        omega
      case cw =>
        have hg2 : (octs D).getD ((endsOf D).getD (cutDone D c) 0 + 1).toNat 0 = n3 := by rw [List.getD_eq_getElem?_getD, hoc]; rfl
        rw [cutWords, if_pos hgt, hg2, hje]
        simp
    · have hgt : ¬ cutThere D c > 1 := of_decide_eq_false hcx
      rw [cutWords, if_neg hgt]
      exact rg.ext eh
    rintro _ ⟨mh, Bh, hh, th, vh, rfl, ah, eh, kph, hmw, rw'⟩
    have eAh := eAg.trans eh
    have eah := eag.trans eh
    have hbh := hbC.ext eah
    have kh : ∀ {y : Str} {v : Value}, mA y = some v → (y == Str.ofString "done") = false → (y == Str.ofString "there") = false → (y == Str.ofString "words") = false → [Str.ofString "words"].contains y = false → mh y = some v := fun hy q1 q2 q3 q4 => (kph _ q4).trans (upd_ne (upd_ne (upd_ne hy q1) q2) q3)
    have hmdn : mh (Str.ofString "done") = some ve := (kph _ (by kernel_rfl)).trans (upd_ne (upd_ne upd_self))
    have ah' : At [63, 70, 121] (envL w L).locals ((63, o1a) :: (70, o2a) :: (121, o3a) :: [(L + 3, oT1), (L + 2, oR'), (L + 1, oC1)]) B₀ h₀ mh Bh hh := ((ah.pull 3).pull 3).pull 3
    -- the cut run
    refine x_seq (wx (wpAny_Return_some (wpAny_Compare1 (wpAny_Call_NameR (ldr_g (v := .ref 124) hbh ah.bh (by kernel_rfl) ?_ (by kernel_rfl) (by kernel_rfl) (by kernel_rfl))))))
    have rdh : Rd Bh vd (.int (c : Nat)) := rd.ext (((ee.trans ef).trans eg).trans eh)
    refine callWith_def (o := ⟨oc, od, .func (fdMachine w), osl⟩) rfl ((pes_cons (w := w) (k := k + 8) (J := Fm (envL w L) mh ((63, o1a) :: (70, o2a) :: (121, o3a) :: [(L + 3, oT1), (L + 2, oR'), (L + 1, oC1)])) Fm.mono (pe_upto Fm.mono (pe_local (kh hmo (by kernel_rfl) (by kernel_rfl) (by kernel_rfl) (by kernel_rfl)) (ro.ext eAh)) (pe_cell (.tail _ (.tail _ (.tail _ (.head _)))) hTd1 rdh) (by simp; omega)) (pes_cons Fm.mono (pe_local (kh hmz (by kernel_rfl) (by kernel_rfl) (by kernel_rfl) (by kernel_rfl)) (rz.ext eAh)) pes_nil)).run A (St { s with gens := ga } hh th) _ _ ok ah'.bh ah'.fm fun vs Bi hi ti si ri => ?_) (by kernel_rfl)
    obtain ⟨vi1, vs1, rfl, ri1, ri⟩ := ri.cons_inv
    obtain ⟨vi2, vs2, rfl, ri2, ri⟩ := ri.cons_inv
    rw [ri.nil_inv]
    have ai := ah'.step si
    have eai := eah.trans si.bb
    refine ⟨ai.bh _ _ ((hbC.ext eai).k _ _ ho), ?_⟩
    have htk : (List.map PyData.int (octs D)).take c = ((octs D).take c).map .int := by simp
    rw [htk] at ri1
    refine machine_ok (k := k + 2) (s := { s with gens := ga }) (zi := zi) (ns := (octs D).take c) ok (hbC.ext eai) ai hfr hok ri1 ri2 (fun x hx => P.oct D x (List.mem_of_mem_take hx)) (by simp; omega) (P.okcut D c) hzr.1 (by omega) ht1a ht2a (ht3a.ext ((((((sb.bb.trans sc.bb).trans ed).trans ee).trans ef).trans eg |>.trans eh).trans si.bb)) barea fun o1b o2b o3b vj gj Bj hj tj aj ej ht1b ht2b ht3b barej rvj => ?_
    rw [P.cut zi D c hcle] at rvj
    have eaj := eai.trans ej
    have eAj := eAC.trans eaj
    refine (pe_tuple (pes_cons Fm.mono (PE.cast (pe_upto (n := cutDone D c) Fm.mono (pe_local (kh hmS (by kernel_rfl) (by kernel_rfl) (by kernel_rfl) (by kernel_rfl)) (rS.ext eaj)) (pe_local hmdn (re'.ext ((((ef.trans eg).trans eh).trans si.bb).trans ej))) (by rw [sts_length]; omega)) rfl) (pes_cons Fm.mono (pe_local hmw (rw'.ext (si.bb.trans ej))) pes_nil))).run (k := k + 8) A (St { s with gens := gj } hj tj) _ _ ok aj.bh aj.fm fun vk Bk hk tkk sk rk => ?_
    have ak := aj.step sk
    have hshc := P.shapedC zi D c hcle
    refine cop_eq (w := w) _ _ hshc hshc (k + 8) (Fm (envL w L) mh _) Bk vj vk (rvj.ext sk.bb) rk A (St { s with gens := gj } hk tkk) _ _ ok ak.bh ak.fm fun vl Bl hl tl sl rl => ?_
    subst rl
    rw [SeqAt.eqv_refl _ (SeqAt.canLay_of_shaped hshc)]
    exact q o1b o2b o3b gj _ mh Bl hl tl (ak.step sl) ht1b ht2b (ht3b.ext (sk.bb.trans sl.bb)) barej
end Mine
end
section
open PySem PySem.W PyProof.Rows PySem.Calls
set_option Elab.async false
set_option maxRecDepth 100000
set_option linter.unusedVariables false
set_option linter.unusedSimpArgs false
namespace Mine
/-- the steps of a tape from behind -/
noncomputable def rsteps (tp : Tape) : List Int := (tp.map (·.1)).reverse
noncomputable def lastRev : List Int → Int → Nat
  | [], _ => 0
  | s :: r, d => if d + s ≤ 0 then r.length else lastRev r (d + s)
noncomputable def markRev : List Int → Int → Int
  | [], _ => -1
  | s :: r, d => if (s == -1 && d == 0) = true then (r.length : Int) else markRev r (d + s)
theorem rsteps_app (a b : Tape) : rsteps (a ++ b) = rsteps b ++ rsteps a := by simp [rsteps]
theorem rsteps_length (a : Tape) : (rsteps a).length = a.length := by simp [rsteps]
theorem rsteps_take {tp : Tape} {n : Nat} (h : n < tp.length) : rsteps (tp.take (n + 1)) = (tp.map (·.1)).getD n 0 :: rsteps (tp.take n) := by
  rw [List.take_add_one, rsteps_app]
  simp [h, rsteps]
theorem lastAt_rev (tp : Tape) : ∀ (n : Nat) (d : Int), n ≤ tp.length → lastAt tp n d = lastRev (rsteps (tp.take n)) d
  | 0, d, _ => by simp [lastAt, rsteps, lastRev]
  | n + 1, d, h => by
    rw [rsteps_take h]
    unfold lastAt lastRev
    rw [lastAt_rev tp n _ (by omega), rsteps_length, List.length_take, Nat.min_eq_left (by omega)]
theorem markAt_rev (tp : Tape) : ∀ (n : Nat) (d : Int), n ≤ tp.length → markAt tp n d = markRev (rsteps (tp.take n)) d
  | 0, d, _ => by simp [markAt, rsteps, markRev]
  | n + 1, d, h => by
    rw [rsteps_take h]
    unfold markAt markRev
    rw [markAt_rev tp n _ (by omega), rsteps_length, List.length_take, Nat.min_eq_left (by omega)]
    rfl
theorem lastK_rev (tp : Tape) : lastK tp = lastRev (rsteps tp) 0 := by
  rw [lastK, lastAt_rev tp _ _ (Nat.le_refl _), List.take_length]
theorem markK_rev (tp : Tape) : markK tp = markRev (rsteps tp) 0 := by
  rw [markK, markAt_rev tp _ _ (Nat.le_refl _), List.take_length]
/-- a balanced row of steps, from behind -/
structure BalR (l : List Int) : Prop where
  tot : l.sum = 0
  pre : ∀ k, 0 ≤ (l.take k).sum
theorem BalR.nil : BalR [] := ⟨rfl, by simp⟩
theorem BalR.app {a b : List Int} (ha : BalR a) (hb : BalR b) : BalR (a ++ b) := by
  refine ⟨by rw [List.sum_append, ha.tot, hb.tot]; rfl, fun k => ?_⟩
  rw [List.take_append, List.sum_append]
  have := ha.pre k
  have := hb.pre (k - a.length)
  omega
theorem BalR.zero : BalR [0] := ⟨rfl, fun k => by cases k <;> simp⟩
theorem BalR.wrap {l : List Int} (h : BalR l) : BalR (1 :: l ++ [-1]) := by
  refine ⟨by simp [h.tot], fun k => ?_⟩
  cases k with
  | zero => simp
  | succ k =>
    have h1 := h.pre k
    have h2 : -1 ≤ (([-1] : List Int).take (k - l.length)).sum := by
      cases k - l.length <;> simp
    simp only [List.cons_append, List.take_succ_cons, List.sum_cons, List.take_append, List.sum_append]
    omega
theorem lastRev_over : ∀ (b r : List Int) (d : Int), (∀ k, 0 < k → k ≤ b.length → 0 < d + (b.take k).sum) → lastRev (b ++ r) d = lastRev r (d + b.sum)
  | [], r, d, _ => by simp
  | s :: b, r, d, h => by
    have h1 := h 1 (by omega) (by simp)
    simp at h1
    show lastRev (s :: (b ++ r)) d = _
    rw [lastRev, if_neg (by omega), lastRev_over b r (d + s) fun k hk hl => by
      have := h (k + 1) (by omega) (by simp; omega)
      simp at this
      omega]
    congr 1
    simp
    omega
theorem markRev_over : ∀ (b r : List Int) (d : Int), (∀ k, k < b.length → 0 < d + (b.take k).sum) → markRev (b ++ r) d = markRev r (d + b.sum)
  | [], r, d, _ => by simp
  | s :: b, r, d, h => by
    have h1 := h 0 (by simp)
    simp at h1
    have hd : (s == -1 && d == 0) = false := by
      have : (d == 0) = false := by simp; omega
      simp [this]
    show markRev (s :: (b ++ r)) d = _
    rw [markRev, if_neg (by rw [hd]; decide), markRev_over b r (d + s) fun k hl => by
      have := h (k + 1) (by simp; omega)
      simp at this
      omega]
    congr 1
    simp
    omega
inductive Blk : Str × Str → Tape → Prop
  | opn : Blk opn [(-1, Str.ofString "(")]
  | txt (t : Str) : Blk (Str.ofString "", t) [(0, t)]
  | cls (inner : Tape) : BalR (rsteps inner) → Blk (Str.ofString "(", cat (inner.map (·.2)) ++ Str.ofString ")") ((-1, Str.ofString "(") :: inner ++ [(1, Str.ofString ")")])
inductive Blks : Pcs → Tape → Prop
  | nil : Blks [] []
  | snoc {xs : Pcs} {tp b : Tape} {x : Str × Str} : Blks xs tp → Blk x b → Blks (xs ++ [x]) (tp ++ b)
theorem rsteps_cls (inner : Tape) : rsteps ((-1, Str.ofString "(") :: inner ++ [(1, Str.ofString ")")]) = 1 :: (rsteps inner ++ [-1]) := by simp [rsteps]
/-- the last block begins where _law_last says -/
theorem last_blk {tp b : Tape} {x : Str × Str} (h : Blk x b) : lastK (tp ++ b) = tp.length := by
  rw [lastK_rev, rsteps_app]
  cases h with
  | opn => simp [rsteps, lastRev]
  | txt t => simp [rsteps, lastRev]
  | cls inner hb =>
    rw [rsteps_cls]
    show lastRev (1 :: (rsteps inner ++ [-1] ++ rsteps tp)) 0 = _
    rw [lastRev, if_neg (by omega), List.append_assoc, lastRev_over _ _ _ fun k hk hl => by have := hb.pre k; omega, hb.tot]
    show lastRev (-1 :: rsteps tp) _ = _
    rw [lastRev, if_pos (by omega), rsteps_length]
/-- an open block is the mark -/
theorem mark_opn (tp : Tape) : markK (tp ++ [(-1, Str.ofString "(")]) = tp.length := by
  rw [markK_rev, rsteps_app]
  simp [rsteps, markRev]
theorem mark_blk {tp b : Tape} {x : Str × Str} (h : Blk x b) (hx : x ≠ opn) : markK (tp ++ b) = markK tp := by
  rw [markK_rev, markK_rev, rsteps_app]
  cases h with
  | opn => exact absurd rfl hx
  | txt t => simp [rsteps, markRev]
  | cls inner hb =>
    rw [rsteps_cls]
    show markRev (1 :: (rsteps inner ++ [-1] ++ rsteps tp)) 0 = _
    rw [markRev, if_neg (by decide), markRev_over _ _ _ fun k hk => by
      have := hb.pre k
      simp only [List.length_append, List.length_cons, List.length_nil] at hk
      have h0 : k - (rsteps inner).length = 0 := by omega
      rw [List.take_append, h0]
      simp
      omega]
    congr 1
    simp [hb.tot]
theorem blk_flat {x : Str × Str} {b : Tape} (h : Blk x b) : cat (b.map (·.2)) = x.1 ++ x.2 := by
  refine str_ext ?_
  rw [cat_cps]
  cases h with
  | opn => decide +kernel
  | txt t =>
    show _ = ((Str.ofString "").cps ++ t.cps).toList
    have : (Str.ofString "").cps = #[] := by decide +kernel
    rw [this]; simp
  | cls inner hb =>
    show _ = ((Str.ofString "(").cps ++ ((cat (inner.map (·.2))).cps ++ (Str.ofString ")").cps)).toList
    rw [Array.toList_append, Array.toList_append, cat_cps]
    simp
theorem cat_app (a b : List Str) : cat (a ++ b) = cat a ++ cat b := by
  refine str_ext ?_
  show _ = ((cat a).cps ++ (cat b).cps).toList
  rw [Array.toList_append, cat_cps, cat_cps, cat_cps]
  simp
theorem catp_is (x : Str × Str) : catp x = x.1 ++ x.2 := by
  refine str_ext ?_
  unfold catp
  show _ = (x.1.cps ++ x.2.cps).toList
  rw [cat_cps]; simp
theorem cat_one (x : Str) : cat [x] = x := by
  refine str_ext ?_
  rw [cat_cps]; simp
theorem blks_flat {xs : Pcs} {tp : Tape} (h : Blks xs tp) : flatOf tp = accText xs := by
  induction h with
  | nil => rfl
  | snoc h hb ih =>
    unfold flatOf accText at *
    rw [List.map_append, List.map_append, cat_app, cat_app, ih, blk_flat hb]
    simp only [List.map_cons, List.map_nil]
    rw [cat_one, catp_is]
theorem blks_snoc_inv {xs : Pcs} {tp : Tape} (h : Blks xs tp) (hne : tp ≠ []) : ∃ ys tq b x, xs = ys ++ [x] ∧ tp = tq ++ b ∧ Blks ys tq ∧ Blk x b := by
  cases h with
  | nil => exact absurd rfl hne
  | snoc h hb => exact ⟨_, _, _, _, rfl, rfl, h, hb⟩
theorem blk_ne {x : Str × Str} {b : Tape} (h : Blk x b) : b ≠ [] := by cases h <;> simp
theorem blks_len {xs : Pcs} {tp : Tape} (h : Blks xs tp) : xs.length ≤ tp.length := by
  induction h with
  | nil => simp
  | snoc h hb ih =>
    have := List.length_pos_iff.mpr (blk_ne hb)
    simp; omega
theorem blks_nil {xs : Pcs} (h : Blks xs []) : xs = [] := List.length_eq_zero_iff.mp (by have := blks_len h; simpa using this)
theorem piece_blk {tp b : Tape} {x : Str × Str} (h : Blk x b) : pieceOf (tp ++ b) = x := by
  unfold pieceOf
  rw [last_blk h]
  have hd : (tp ++ b).drop tp.length = b := by simp
  have hs : stepAt (tp ++ b) tp.length = (b.map (·.1)).getD 0 0 := by
    unfold stepAt
    rw [List.map_append, List.getD_eq_getElem?_getD, List.getElem?_append_right (by simp), List.getD_eq_getElem?_getD]
    simp
  rw [hd, hs]
  cases h with
  | opn => decide +kernel
  | txt t => simp
  | cls inner hb =>
    rw [if_pos (by simp)]
    simp only [List.cons_append, List.map_cons, List.map_append, List.map_nil, List.drop_succ_cons, List.drop_zero]
    rw [cat_app, cat_one]
theorem piecesGo_blks : ∀ (n : Nat) (xs : Pcs) (tp : Tape) (acc : Pcs), Blks xs tp → tp.length ≤ n → piecesGo n tp acc = xs ++ acc
  | 0, xs, tp, acc, h, hn => by
    have : tp = [] := List.length_eq_zero_iff.mp (by omega)
    subst this
    rw [blks_nil h]; rfl
  | n + 1, xs, tp, acc, h, hn => by
    unfold piecesGo
    by_cases ht : tp = []
    · subst ht
      rw [blks_nil h]; simp
    · obtain ⟨ys, tq, b, x, rfl, rfl, hy, hb⟩ := blks_snoc_inv h ht
      rw [if_neg ht, last_blk hb, piece_blk hb]
      have : (tq ++ b).take tq.length = tq := by simp
      have hbl := List.length_pos_iff.mpr (blk_ne hb)
      rw [this, piecesGo_blks n ys tq (x :: acc) hy (by simp at hn; omega)]
      simp
theorem pieces_blks {xs : Pcs} {tp : Tape} (h : Blks xs tp) : piecesOf tp = xs := by
  unfold piecesOf
  rw [piecesGo_blks _ xs tp [] h (Nat.le_refl _)]; simp
theorem state_log {xs : Pcs} {tp : Tape} (h : Blks xs tp) (pd : PyData) (size : Int) : stateD pd tp size = logD pd xs size := by
  unfold stateD logD
  rw [pieces_blks h, blks_flat h, accText_length]
end Mine
end
section
open PySem PySem.W PyProof.Rows PySem.Calls
set_option Elab.async false
set_option maxRecDepth 100000
set_option linter.unusedVariables false
set_option linter.unusedSimpArgs false
namespace Mine
noncomputable def pstep (xs : Pcs) (x : Int) : Pcs := if deedOf x > 3 then xs ++ [(Str.ofString "", latin (bodyOf x))] else mstep xs (signOf (deedOf x))
theorem latin_chr (l : List Int) : cat (l.map chrS) = latin l := by
  refine str_ext ?_
  rw [cat_cps]
  unfold latin
  induction l with
  | nil => rfl
  | cons x r ih => simp [chrS] at ih ⊢; exact ih
theorem placeAt_app (a b : Pcs) : ∀ n, n ≤ a.length → placeAt (a ++ b) n = placeAt a n
  | 0, _ => rfl
  | n + 1, h => by
    have e : (a ++ b).getD n nop = a.getD n nop := by
      rw [List.getD_eq_getElem?_getD, List.getD_eq_getElem?_getD, List.getElem?_append_left (by omega)]
    unfold placeAt
    rw [e, placeAt_app a b n (by omega)]
theorem placeK_snoc (xs : Pcs) (x : Str × Str) : placeK (xs ++ [x]) = if x = opn then (xs.length : Int) else placeK xs := by
  unfold placeK
  rw [show (xs ++ [x]).length = xs.length + 1 by simp, placeAt]
  have : (xs ++ [x]).getD xs.length nop = x := by
    rw [List.getD_eq_getElem?_getD, List.getElem?_append_right (Nat.le_refl _)]; simp
  rw [this, placeAt_app xs [x] _ (Nat.le_refl _)]
theorem blk_opn {x : Str × Str} {b : Tape} (h : Blk x b) (hx : x = opn) : b = [(-1, Str.ofString "(")] := by
  generalize e : x = y at h
  cases h with
  | opn => rfl
  | txt t =>
    rw [e] at hx
    have h1 : (Str.ofString "" : Str) = Str.ofString "(" := congrArg Prod.fst hx
    exact absurd h1 (by decide +kernel)
  | cls inner hb =>
    rw [e] at hx
    have := congrArg (fun z => z.2.length) hx
    simp only [app_length] at this
    have h1 := one_len.2.1
    have h2 : (opn.2).length = 0 := by decide +kernel
    omega
theorem blk_bal {x : Str × Str} {b : Tape} (h : Blk x b) (hx : x ≠ opn) : BalR (rsteps b) := by
  cases h with
  | opn => exact absurd rfl hx
  | txt t => exact BalR.zero
  | cls inner hb => rw [rsteps_cls]; exact hb.wrap
theorem mark_place {xs : Pcs} {tp : Tape} (h : Blks xs tp) : (placeK xs < 0 ∧ markK tp < 0) ∨ ∃ ys zs tq tz, xs = ys ++ opn :: zs ∧ tp = tq ++ (-1, Str.ofString "(") :: tz ∧ Blks ys tq ∧ placeK xs = ys.length ∧ markK tp = tq.length ∧ BalR (rsteps tz) ∧ cat (tz.map (·.2)) = cat (zs.map fun x => x.1 ++ x.2) := by
  induction h with
  | nil => exact .inl ⟨by decide, by decide⟩
  | @snoc xs tp b x h hb ih =>
    by_cases hx : x = opn
    · have hbo := blk_opn hb hx
      subst hx hbo
      exact .inr ⟨xs, [], tp, [], rfl, rfl, h, by rw [placeK_snoc, if_pos rfl], mark_opn tp, BalR.nil, rfl⟩
    · rw [placeK_snoc, if_neg hx, mark_blk hb hx]
      rcases ih with ih | ⟨ys, zs, tq, tz, rfl, rfl, hy, h1, h2, h3, h4⟩
      · exact .inl ih
      · refine .inr ⟨ys, zs ++ [x], tq, tz ++ b, by simp, by simp, hy, h1, h2, by rw [rsteps_app]; exact (blk_bal hb hx).app h3, ?_⟩
        rw [List.map_append, List.map_append, cat_app, cat_app, h4, blk_flat hb]
        simp only [List.map_cons, List.map_nil]
        rw [cat_one]
theorem sign_cases (x : Int) (h : ¬ deedOf x > 3) : (deedOf x = 0 ∧ signOf (deedOf x) = 40) ∨ (deedOf x = 1 ∧ signOf (deedOf x) = 108) ∨ (deedOf x = 2 ∧ signOf (deedOf x) = 48) ∨ (deedOf x = 3 ∧ signOf (deedOf x) = 49) := by
  have hd := deed_range x
  generalize deedOf x = d at h hd
  have : d = 0 ∨ d = 1 ∨ d = 2 ∨ d = 3 := by omega
  rcases this with rfl | rfl | rfl | rfl
  · exact .inl ⟨rfl, rfl⟩
  · exact .inr (.inl ⟨rfl, rfl⟩)
  · exact .inr (.inr (.inl ⟨rfl, rfl⟩))
  · exact .inr (.inr (.inr ⟨rfl, rfl⟩))
theorem ms40 (xs : Pcs) : mstep xs 40 = xs ++ [opn] := by simp [mstep]
theorem ms48 (xs : Pcs) : mstep xs 48 = xs.dropLast := by simp [mstep]
theorem ms108 (xs : Pcs) : mstep xs 108 = if placeK xs < 0 then xs else xs.take (placeK xs).toNat ++ [closePc (xs.drop (placeK xs).toNat)] := by simp [mstep]
theorem ms49 (xs : Pcs) : mstep xs 49 = if placeK xs < 0 then xs else xs.take (placeK xs).toNat := by simp [mstep]
theorem ak0 (tp : Tape) : afterK tp 0 = tp ++ [(-1, Str.ofString "(")] := by simp [afterK]
theorem ak2 (tp : Tape) : afterK tp 2 = tp.take (lastK tp) := by simp [afterK]
theorem ak1 (tp : Tape) : afterK tp 1 = if markK tp < 0 then tp else tp ++ [(1, Str.ofString ")")] := by simp [afterK]
theorem ak3 (tp : Tape) : afterK tp 3 = if markK tp < 0 then tp else tp.take (markK tp).toNat := by simp [afterK]
theorem blks_step {xs : Pcs} {tp : Tape} (h : Blks xs tp) (x : Int) : Blks (pstep xs x) (tapeStep tp x) := by
  unfold pstep tapeStep
  by_cases hd : deedOf x > 3
  · rw [if_pos hd, if_pos hd, latin_chr]
    exact .snoc h (.txt _)
  · rw [if_neg hd, if_neg hd]
    rcases sign_cases x hd with ⟨h1, h2⟩ | ⟨h1, h2⟩ | ⟨h1, h2⟩ | ⟨h1, h2⟩ <;> rw [h2, h1]
    · rw [ms40, ak0]
      exact .snoc h .opn
    · rw [ms108, ak1]
      rcases mark_place h with ⟨p1, p2⟩ | ⟨ys, zs, tq, tz, rfl, rfl, hy, p1, p2, p3, p4⟩
      · rw [if_pos p1, if_pos p2]; exact h
      · rw [if_neg (show ¬ placeK (ys ++ opn :: zs) < 0 by omega), if_neg (show ¬ markK (tq ++ (-1, Str.ofString "(") :: tz) < 0 by omega), p1]
        have e1 : (ys ++ opn :: zs).take ((ys.length : Int).toNat) = ys := by simp
        have e2 : (ys ++ opn :: zs).drop ((ys.length : Int).toNat) = opn :: zs := by simp
        rw [e1, e2]
        have e3 : closePc (opn :: zs) = (Str.ofString "(", cat (tz.map (·.2)) ++ Str.ofString ")") := by
          rw [closePc, p4]; rfl
        have e4 : tq ++ (-1, Str.ofString "(") :: tz ++ [(1, Str.ofString ")")] = tq ++ ((-1, Str.ofString "(") :: tz ++ [(1, Str.ofString ")")]) := by simp
        rw [e3, e4]
        exact .snoc hy (.cls tz p3)
    · rw [ms48, ak2]
      by_cases ht : tp = []
      · subst ht
        rw [blks_nil h]; exact .nil
      · obtain ⟨ys, tq, b, y, rfl, rfl, hy, hb⟩ := blks_snoc_inv h ht
        rw [last_blk hb]
        simpa using hy
    · rw [ms49, ak3]
      rcases mark_place h with ⟨p1, p2⟩ | ⟨ys, zs, tq, tz, rfl, rfl, hy, p1, p2, p3, p4⟩
      · rw [if_pos p1, if_pos p2]; exact h
      · rw [if_neg (show ¬ placeK (ys ++ opn :: zs) < 0 by omega), if_neg (show ¬ markK (tq ++ (-1, Str.ofString "(") :: tz) < 0 by omega), p1, p2]
        simpa using hy
theorem pop_is {xs : Pcs} {tp : Tape} (h : Blks xs tp) (x : Int) (hd : ¬ deedOf x > 3) : popOf tp x = popD xs (signOf (deedOf x)) := by
  unfold popOf popD
  rcases sign_cases x hd with ⟨h1, h2⟩ | ⟨h1, h2⟩ | ⟨h1, h2⟩ | ⟨h1, h2⟩ <;> rw [h2, h1]
  · rfl
  · rfl
  · rw [if_pos rfl, if_pos rfl, pieces_blks h]
    have : (nop :: xs).getLast? = some (xs.getLast?.getD nop) := by
      cases xs with
      | nil => rfl
      | cons a r => rw [List.getLast?_cons_cons, List.getLast?_eq_some_getLast (by simp)]; simp
    rw [this]; rfl
  · rfl
theorem mrun_mono (zi : Int) : ∀ (j : Nat) (l : List Int) (i : Nat) (xs : Pcs), l.length ≤ j → l.length ≤ i → mrun zi j l xs = mrun zi i l xs := by
  intro j
  induction j with
  | zero =>
    intro l i xs h1 h2
    have : l = [] := List.length_eq_zero_iff.mp (by omega)
    subst this
    rw [mrun_nil, mrun_nil]
  | succ j ih =>
    intro l i xs h1 h2
    cases l with
    | nil => rw [mrun_nil, mrun_nil]
    | cons s r =>
      cases i with
      | zero => simp at h2
      | succ i =>
        simp only [List.length_cons] at h1 h2
        simp only [mrun]
        split
        · cases r with
          | nil => rfl
          | cons y r =>
            simp only [List.length_cons] at h1 h2
            simp only
            rw [ih (r.drop y.toNat) i _ (by simp; omega) (by simp; omega)]
        · rw [ih r i _ (by omega) (by omega)]
theorem deed_turn (xs : Pcs) (x : Int) (rest : List Int) : ∃ sg ns, octOf x ++ rest = sg :: ns ∧ Turn sg ns xs rest (pstep xs x) (if deedOf x > 3 then .none else popD xs (signOf (deedOf x))) := by
  unfold octOf pstep
  by_cases hd : deedOf x > 3
  · rw [if_pos hd, if_pos hd, if_pos hd]
    refine ⟨85, _, rfl, .inr ⟨rfl, ((bodyOf x).length : Int), bodyOf x ++ rest, by simp, by simp, by simp, by simp, rfl⟩⟩
  · rw [if_neg hd, if_neg hd, if_neg hd]
    refine ⟨signOf (deedOf x), rest, rfl, .inl ⟨?_, rfl, rfl, rfl⟩⟩
    rcases sign_cases x hd with ⟨h1, h2⟩ | ⟨h1, h2⟩ | ⟨h1, h2⟩ | ⟨h1, h2⟩ <;> rw [h2] <;> decide
theorem mrun_deed {zi : Int} {xs : Pcs} {tp : Tape} (h : Blks xs tp) (x : Int) (rest : List Int) : mrun zi (octOf x ++ rest).length (octOf x ++ rest) xs = (stateD (popOf tp x) (tapeStep tp x) zi :: (mrun zi rest.length rest (pstep xs x)).1, (mrun zi rest.length rest (pstep xs x)).2) := by
  obtain ⟨sg, ns, e, t⟩ := deed_turn xs x rest
  rw [e, List.length_cons, mrun_turn t]
  have hle : rest.length ≤ ns.length := by
    have := congrArg List.length e
    have := octOf_length x
    simp at *
    omega
  rw [mrun_mono zi ns.length rest rest.length _ hle (Nat.le_refl _), state_log (blks_step h x)]
  have hp : (if deedOf x > 3 then PyData.none else popD xs (signOf (deedOf x))) = popOf tp x := by
    by_cases hd : deedOf x > 3
    · rw [if_pos hd, popOf, if_neg (by omega)]
    · rw [if_neg hd, pop_is h x hd]
  rw [hp]
theorem mrun_octs {zi : Int} (tail : List Int) : ∀ (D : List Int) {xs : Pcs} {tp : Tape}, Blks xs tp → ∃ xs', Blks xs' (tapes tp D) ∧ mrun zi (octs D ++ tail).length (octs D ++ tail) xs = (sts zi tp D ++ (mrun zi tail.length tail xs').1, (mrun zi tail.length tail xs').2)
  | [], xs, tp, h => ⟨xs, h, by simp [octs, sts]⟩
  | x :: D, xs, tp, h => by
    obtain ⟨xs', h', e⟩ := mrun_octs tail D (blks_step h x)
    refine ⟨xs', h', ?_⟩
    have : octs (x :: D) ++ tail = octOf x ++ (octs D ++ tail) := by simp [octs]
    rw [this, mrun_deed h, e]
    simp [sts]
theorem plain_full (zi : Int) (D : List Int) : mrun zi (octs D).length (octs D) [] = (sts zi [] D, msg1) := by
  obtain ⟨xs', _, e⟩ := mrun_octs (zi := zi) [] D Blks.nil
  rw [List.append_nil, mrun_nil, List.append_nil] at e
  exact e
end Mine
end
section
open PySem PySem.W PyProof.Rows PySem.Calls
set_option Elab.async false
set_option maxRecDepth 100000
set_option linter.unusedVariables false
set_option linter.unusedSimpArgs false
namespace Mine
noncomputable def cutK : List Int → Nat → Nat
  | [], _ => 0
  | x :: D, c => if c < (octOf x).length then 0 else cutK D (c - (octOf x).length) + 1
noncomputable def cutJ : List Int → Nat → Nat
  | [], c => c
  | x :: D, c => if c < (octOf x).length then c else cutJ D (c - (octOf x).length)
noncomputable def cutW : List Int → Nat → Str
  | [], _ => msg1
  | x :: D, c => if c < (octOf x).length then (if c > 1 then fmtE (bodyLen x) (c - 2) else msg1) else cutW D (c - (octOf x).length)
theorem octs_cons (x : Int) (D : List Int) : octs (x :: D) = octOf x ++ octs D := by simp [octs]
theorem ends_ge : ∀ (D : List Int) (n : Nat) (e : Int), e ∈ endsFrom n D → (n : Int) < e
  | [], n, e, h => by simp [endsFrom] at h
  | x :: D, n, e, h => by
    have hl := octOf_length x
    simp only [endsFrom, List.mem_cons] at h
    rcases h with rfl | h
    · omega
    · have := ends_ge D _ e h; omega
theorem cnt_is : ∀ (D : List Int) (n c : Nat), ((endsFrom n D).filter fun e => decide (e ≤ ((n + c : Nat) : Int))).length = cutK D c
  | [], n, c => by simp [endsFrom, cutK]
  | x :: D, n, c => by
    unfold cutK
    split
    · rename_i h
      have : (endsFrom n (x :: D)).filter (fun e => decide (e ≤ ((n + c : Nat) : Int))) = [] := by
        rw [List.filter_eq_nil_iff]
        intro e he
        simp only [endsFrom, List.mem_cons] at he
        simp only [decide_eq_true_eq]
        rcases he with rfl | he
        · omega
        · have := ends_ge D _ e he; omega
      rw [this]; rfl
    · rename_i h
      have ih := cnt_is D (n + (octOf x).length) (c - (octOf x).length)
      have e1 : n + (octOf x).length + (c - (octOf x).length) = n + c := by omega
      rw [e1] at ih
      simp only [endsFrom]
      rw [List.filter_cons_of_pos (by simp only [decide_eq_true_eq]; omega), List.length_cons, ih]
theorem count_is (D : List Int) (c : Nat) : ((endsOf D).filter fun e => decide (e ≤ (c : Int))).length = cutK D c + 1 := by
  have := cnt_is D 0 c
  rw [Nat.zero_add] at this
  unfold endsOf
  rw [List.filter_cons_of_pos (by simp), List.length_cons, this]
theorem done_is (D : List Int) (c : Nat) : cutDone D c = cutK D c := by
  unfold cutDone
  rw [count_is]; rfl
theorem end_is : ∀ (D : List Int) (n c : Nat), (((n : Int) :: endsFrom n D).getD (cutK D c) 0) + cutJ D c = ((n + c : Nat) : Int)
  | [], n, c => by simp [endsFrom, cutK, cutJ]
  | x :: D, n, c => by
    unfold cutK cutJ
    split
    · simp
    · rename_i h
      have ih := end_is D (n + (octOf x).length) (c - (octOf x).length)
      have e1 : n + (octOf x).length + (c - (octOf x).length) = n + c := by omega
      rw [e1] at ih
      simpa [endsFrom] using ih
theorem there_is (D : List Int) (c : Nat) : cutThere D c = cutJ D c := by
  have := end_is D 0 c
  unfold cutThere
  rw [done_is]
  unfold endsOf
  simp only [Nat.zero_add] at this
  have h2 : ((0 : Int) :: endsFrom 0 D).getD (cutK D c) 0 = (((0 : Nat) : Int) :: endsFrom 0 D).getD (cutK D c) 0 := rfl
  rw [h2]; omega
theorem start_is (D : List Int) (c : Nat) : (endsOf D).getD (cutDone D c) 0 = (c : Int) - cutJ D c := by
  have := there_is D c
  unfold cutThere at this
  omega
theorem cutJ_le : ∀ (D : List Int) (c : Nat), cutJ D c ≤ c
  | [], c => Nat.le_refl _
  | x :: D, c => by
    unfold cutJ
    split
    · exact Nat.le_refl _
    · have := cutJ_le D (c - (octOf x).length); omega
theorem part_u {x : Int} {c : Nat} (h : c < (octOf x).length) (h1 : 1 ≤ c) : deedOf x > 3 ∧ octOf x = 85 :: ((bodyLen x : Nat) : Int) :: bodyOf x ∧ c < bodyLen x + 2 := by
  unfold octOf at h ⊢
  by_cases hd : deedOf x > 3
  · rw [if_pos hd] at h ⊢
    simp [body_length] at h
    exact ⟨hd, by rw [body_length], by omega⟩
  · rw [if_neg hd] at h
    simp at h
    omega
theorem words_is : ∀ (D : List Int) (c : Nat), c ≤ (octs D).length → 1 < cutJ D c → ∃ n : Nat, n ≤ 3 ∧ cutJ D c - 2 < n ∧ (octs D)[(c - cutJ D c) + 1]? = some (n : Int) ∧ cutW D c = fmtE n (cutJ D c - 2)
  | [], c, h, hj => by simp [octs, cutJ] at h hj; omega
  | x :: D, c, h, hj => by
    unfold cutJ at hj ⊢
    unfold cutW
    rw [octs_cons] at h ⊢
    split
    · rename_i hc
      rw [if_pos hc] at hj
      obtain ⟨hd, he, hl⟩ := part_u hc (by omega)
      refine ⟨bodyLen x, bodyLen_le x, by omega, ?_, by rw [if_pos (by omega)]⟩
      rw [he]; simp
    · rename_i hc
      rw [if_neg hc] at hj
      obtain ⟨n, h1, h2, h3, h4⟩ := words_is D (c - (octOf x).length) (by simp at h; omega) hj
      have hjl := cutJ_le D (c - (octOf x).length)
      refine ⟨n, h1, h2, ?_, h4⟩
      rw [List.getElem?_append_right (by omega)]
      have : c - cutJ D (c - (octOf x).length) + 1 - (octOf x).length = c - (octOf x).length - cutJ D (c - (octOf x).length) + 1 := by omega
      rw [this]; exact h3
theorem cutW_plain : ∀ (D : List Int) (c : Nat), ¬ 1 < cutJ D c → cutW D c = msg1
  | [], c, _ => rfl
  | x :: D, c, h => by
    unfold cutJ at h
    unfold cutW
    split
    · rename_i hc
      rw [if_pos hc] at h
      rw [if_neg (by omega)]
    · rename_i hc
      rw [if_neg hc] at h
      exact cutW_plain D _ h
theorem cutWords_is (D : List Int) (c : Nat) (h : c ≤ (octs D).length) : cutWords D c = cutW D c := by
  unfold cutWords
  rw [there_is, start_is]
  have hjl := cutJ_le D c
  by_cases hj : 1 < cutJ D c
  · obtain ⟨n, h1, h2, h3, h4⟩ := words_is D c h hj
    rw [if_pos (by omega), h4]
    have e1 : ((c : Int) - cutJ D c + 1).toNat = c - cutJ D c + 1 := by omega
    rw [e1, List.getD_eq_getElem?_getD, h3]
    have e2 : ((cutJ D c : Int) - 2).toNat = cutJ D c - 2 := by omega
    rw [e2]; simp
  · rw [if_neg (by omega), cutW_plain D c hj]
theorem part_run {zi : Int} {x : Int} {c : Nat} (xs : Pcs) (h : c < (octOf x).length) : mrun zi ((octOf x).take c).length ((octOf x).take c) xs = ([], if c > 1 then fmtE (bodyLen x) (c - 2) else msg1) := by
  cases c with
  | zero => rw [List.take_zero, if_neg (by omega)]; exact mrun_nil _ _ _
  | succ c =>
    obtain ⟨hd, he, hl⟩ := part_u h (by omega)
    rw [he]
    cases c with
    | zero =>
      rw [if_neg (by omega)]
      exact mrun_halt (n := 0) ⟨rfl, .inl ⟨rfl, rfl⟩⟩
    | succ c =>
      rw [if_pos (by omega)]
      have e : (85 :: ((bodyLen x : Nat) : Int) :: bodyOf x).take (c + 1 + 1) = 85 :: ((bodyLen x : Nat) : Int) :: (bodyOf x).take c := by simp
      rw [e, List.length_cons]
      have hlen : ((bodyOf x).take c).length = c := by rw [List.length_take, body_length]; omega
      refine (mrun_halt ⟨rfl, .inr ⟨_, _, rfl, ?_, rfl⟩⟩).trans ?_
      · rw [hlen, Int.toNat_natCast]; omega
      · rw [hlen, Int.toNat_natCast]; rfl
theorem cut_run {zi : Int} : ∀ (D : List Int) (c : Nat) {xs : Pcs} {tp : Tape}, Blks xs tp → mrun zi ((octs D).take c).length ((octs D).take c) xs = ((sts zi tp D).take (cutK D c), cutW D c)
  | [], c, xs, tp, h => by simp [octs, cutK, cutW, sts]; exact mrun_nil _ _ _
  | x :: D, c, xs, tp, h => by
    rw [octs_cons]
    unfold cutK cutW
    by_cases hc : c < (octOf x).length
    · rw [if_pos hc, if_pos hc]
      have : (octOf x ++ octs D).take c = (octOf x).take c := by rw [List.take_append_of_le_length (by omega)]
      rw [this, part_run xs hc]; simp
    · rw [if_neg hc, if_neg hc]
      have : (octOf x ++ octs D).take c = octOf x ++ (octs D).take (c - (octOf x).length) := by
        rw [List.take_append, List.take_of_length_le (by omega)]
      rw [this, mrun_deed h, cut_run D _ (blks_step h x)]
      simp [sts]
theorem ok_cut : ∀ (D : List Int) (c : Nat), okRun ((octs D).take c).length ((octs D).take c)
  | [], c => by simp [octs, okRun]
  | x :: D, c => by
    rw [octs_cons]
    by_cases hc : c < (octOf x).length
    · have : (octOf x ++ octs D).take c = (octOf x).take c := by rw [List.take_append_of_le_length (by omega)]
      rw [this]
      cases c with
      | zero => simp [okRun]
      | succ c =>
        obtain ⟨hd, he, hl⟩ := part_u hc (by omega)
        rw [he]
        cases c with
        | zero => simp [okRun]
        | succ c =>
          have e : (85 :: ((bodyLen x : Nat) : Int) :: bodyOf x).take (c + 1 + 1) = 85 :: ((bodyLen x : Nat) : Int) :: (bodyOf x).take c := by simp
          rw [e, List.length_cons]
          have hb3 := bodyLen_le x
          simp only [okRun, if_true]
          refine ⟨by omega, fun hle => ?_⟩
          rw [List.length_take, body_length, Int.toNat_natCast] at hle
          omega
    · have e : (octOf x ++ octs D).take c = octOf x ++ (octs D).take (c - (octOf x).length) := by
        rw [List.take_append, List.take_of_length_le (by omega)]
      rw [e]
      have ih := ok_cut D (c - (octOf x).length)
      generalize (octs D).take (c - (octOf x).length) = rest at ih
      refine okRun_mono (n := rest.length + 1) ?_
      unfold octOf
      by_cases hd : deedOf x > 3
      · rw [if_pos hd]
        have hb3 := bodyLen_le x
        simp only [List.cons_append, okRun, if_true, body_length, Int.toNat_natCast]
        refine ⟨by omega, fun _ => ?_⟩
        have : (bodyOf x ++ rest).drop (bodyLen x) = rest := by rw [← body_length]; simp
        rw [this]; exact ih
      · rw [if_neg hd]
        have h85 : signOf (deedOf x) ≠ 85 := by
          rcases sign_cases x hd with ⟨h1, h2⟩ | ⟨h1, h2⟩ | ⟨h1, h2⟩ | ⟨h1, h2⟩ <;> rw [h2] <;> decide
        simp only [List.cons_append, List.nil_append, okRun]
        rw [if_neg h85]; exact ih
theorem oct_range (x o : Int) (h : o ∈ octOf x) : 0 ≤ o ∧ o < 256 := by
  unfold octOf at h
  by_cases hd : deedOf x > 3
  · rw [if_pos hd] at h
    simp only [List.mem_cons] at h
    rcases h with rfl | rfl | h
    · omega
    · have := bodyLen_le x; rw [body_length]; omega
    · exact body_range x o h
  · rw [if_neg hd] at h
    rw [List.mem_singleton.mp h]
    rcases sign_cases x hd with ⟨h1, h2⟩ | ⟨h1, h2⟩ | ⟨h1, h2⟩ | ⟨h1, h2⟩ <;> rw [h2] <;> omega
theorem octs_range (D : List Int) (o : Int) (h : o ∈ octs D) : 0 ≤ o ∧ o < 256 := by
  unfold octs at h
  obtain ⟨l, hl, ho⟩ := List.mem_flatten.mp h
  obtain ⟨x, _, rfl⟩ := List.mem_map.mp hl
  exact oct_range x o ho
end Mine
end
section
open PySem PySem.W PyProof.Rows PySem.Calls
set_option Elab.async false
set_option maxRecDepth 100000
set_option linter.unusedVariables false
set_option linter.unusedSimpArgs false
namespace Mine
noncomputable def Nice (k : Nat) (d : PyData) : Prop := PyData.canLay0 d = true ∧ PyData.depth d ≤ k
theorem nice_all {k : Nat} : ∀ {l : List PyData}, (∀ d ∈ l, Nice k d) → PyData.canLayAll0 l = true ∧ PyData.depthAll l ≤ k
  | [], _ => by simp [PyData.canLayAll0, PyData.depthAll]
  | x :: l, h => by
    obtain ⟨a, b⟩ := nice_all fun d hd => h d (.tail _ hd)
    obtain ⟨c, e⟩ := h x (.head _)
    simp only [PyData.canLayAll0, PyData.depthAll, a, c, Bool.and_self, true_and]
    omega
theorem nice_list {k : Nat} {l : List PyData} (h : ∀ d ∈ l, Nice k d) : Nice (k + 1) (.list l) := by
  obtain ⟨a, b⟩ := nice_all h
  exact ⟨by simp only [PyData.canLay0, a], by simp only [PyData.depth]; omega⟩
theorem nice_tuple {k : Nat} {l : List PyData} (h : ∀ d ∈ l, Nice k d) : Nice (k + 1) (.tuple l) := by
  obtain ⟨a, b⟩ := nice_all h
  exact ⟨by simp only [PyData.canLay0, a], by simp only [PyData.depth]; omega⟩
theorem nice_str {k : Nat} {x : Str} (h : PyData.strOk x = true) : Nice k (.str x) := ⟨by simp only [PyData.canLay0, h], by simp only [PyData.depth]; omega⟩
theorem nice_int {k : Nat} {i : Int} : Nice k (.int i) := ⟨by simp only [PyData.canLay0], by simp only [PyData.depth]; omega⟩
theorem nice_none {k : Nat} : Nice k .none := ⟨by simp only [PyData.canLay0], by simp only [PyData.depth]; omega⟩
theorem Nice.up {k j : Nat} {d : PyData} (h : Nice k d) (hj : k ≤ j) : Nice j d := ⟨h.1, Nat.le_trans h.2 hj⟩
theorem nice_pc {x : Str × Str} (h : PyData.strOk x.1 = true ∧ PyData.strOk x.2 = true) : Nice 1 (pcD x) := nice_tuple (k := 0) fun d hd => by
  simp only [List.mem_cons, List.not_mem_nil, or_false] at hd
  rcases hd with rfl | rfl
  · exact nice_str h.1
  · exact nice_str h.2
theorem blk_chars {x : Str × Str} {b : Tape} (h : Blk x b) (hc : ∀ p ∈ b, PyData.strOk p.2 = true) : PyData.strOk x.1 = true ∧ PyData.strOk x.2 = true := by
  cases h with
  | opn => exact ⟨ok_signs.1, ok_signs.2.2⟩
  | txt t => exact ⟨ok_signs.2.2, hc (0, t) (.head _)⟩
  | cls inner hb =>
    refine ⟨ok_signs.1, strOk_app (strOk_cat fun y hy => ?_) ok_signs.2.1⟩
    obtain ⟨p, hp, rfl⟩ := List.mem_map.mp hy
    exact hc p (by simp [hp])
theorem blks_chars {xs : Pcs} {tp : Tape} (h : Blks xs tp) (hc : ∀ p ∈ tp, PyData.strOk p.2 = true) : ∀ x ∈ xs, PyData.strOk x.1 = true ∧ PyData.strOk x.2 = true := by
  induction h with
  | nil => intro x hx; cases hx
  | snoc h hb ih =>
    intro x hx
    rcases List.mem_append.mp hx with hx | hx
    · exact ih (fun p hp => hc p (List.mem_append_left _ hp)) x hx
    · rw [List.mem_singleton.mp hx]
      exact blk_chars hb fun p hp => hc p (List.mem_append_right _ hp)
theorem nop_ok : PyData.strOk nop.1 = true ∧ PyData.strOk nop.2 = true := ⟨ok_signs.2.2, ok_signs.2.2⟩
theorem sts_nice (zi : Int) : ∀ (D : List Int) (n : Nat) {xs : Pcs} {tp : Tape}, Blks xs tp → TapeB n tp → ∀ d ∈ sts zi tp D, Nice 3 d
  | [], n, xs, tp, h, hb, d, hd => by simp [sts] at hd
  | x :: D, n, xs, tp, h, hb, d, hd => by
    have h' := blks_step h x
    have hb' := hb.step x
    simp only [sts, List.mem_cons] at hd
    rcases hd with rfl | hd
    · refine nice_tuple (k := 2) fun d hd => ?_
      simp only [List.mem_cons, List.not_mem_nil, or_false] at hd
      rcases hd with rfl | rfl | rfl | rfl
      · unfold popOf
        split
        · refine (nice_pc ?_).up (by omega)
          rw [pieces_blks h]
          cases hl : (nop :: xs).getLast? with
          | none => exact nop_ok
          | some u =>
            have := List.mem_of_getLast? hl
            rcases List.mem_cons.mp this with rfl | hu
            · exact nop_ok
            · exact blks_chars h hb.chars u hu
        · exact nice_none
      · refine nice_list (k := 1) fun d hd => ?_
        obtain ⟨u, hu, rfl⟩ := List.mem_map.mp hd
        rw [pieces_blks h'] at hu
        exact nice_pc (blks_chars h' hb'.chars u hu)
      · refine nice_str (strOk_cat fun y hy => ?_)
        obtain ⟨p, hp, rfl⟩ := List.mem_map.mp hy
        exact hb'.chars p hp
      · exact nice_int
    · exact sts_nice zi D (n + 1) h' hb' d hd
theorem digit_ok (n : Nat) (h : n ≤ 1000000) : PyData.strOk (digit n) = true := by
  unfold PyData.strOk digit
  simp
  omega
theorem msg1_ok : PyData.strOk msg1 = true := by decide +kernel
theorem shaped_end (zi : Int) (D : List Int) (n : Nat) {m : Str} (h : PyData.strOk m = true) : SeqAt.shaped (.tuple [.list ((sts zi [] D).take n), .str m]) = true := by
  have : Nice 5 (.tuple [.list ((sts zi [] D).take n), .str m]) := nice_tuple (k := 4) fun d hd => by
    simp only [List.mem_cons, List.not_mem_nil, or_false] at hd
    rcases hd with rfl | rfl
    · exact nice_list (k := 3) fun d hd => sts_nice zi D 0 Blks.nil ⟨by simp, by decide +kernel, by simp⟩ d (List.mem_of_mem_take hd)
    · exact nice_str h
  unfold SeqAt.shaped
  rw [this.1]
  simp only [Bool.true_and]
  exact decide_eq_true (Nat.le_trans this.2 (by omega))
theorem fmt_ok {a b : Nat} (ha : a ≤ 3) (hb : b ≤ 3) : PyData.strOk (fmtE a b) = true := by
  unfold fmtE
  exact strOk_app (strOk_app (strOk_app (strOk_app (by decide +kernel) (digit_ok a (by omega))) (by decide +kernel)) (digit_ok b (by omega))) (by decide +kernel)
theorem plainLaw : PlainLaw where
  full := plain_full
  okcut := ok_cut
  cut := fun zi D c h => by rw [cut_run D c Blks.nil, done_is, cutWords_is D c h]
  oct := octs_range
  done_ge := fun D c => by rw [count_is]; omega
  there := fun D c h hj => by
    rw [there_is] at hj ⊢
    rw [start_is]
    have hjl := cutJ_le D c
    obtain ⟨n, h1, h2, h3, h4⟩ := words_is D c h (by omega)
    have e1 : ((c : Int) - cutJ D c + 1).toNat = c - cutJ D c + 1 := by omega
    exact ⟨n, cutJ D c - 2, h1, by omega, by omega, by rw [e1]; exact h3, by omega⟩
  shapedF := fun zi D => by
    have := shaped_end zi D D.length msg1_ok
    rwa [List.take_of_length_le (by rw [sts_length]; exact Nat.le_refl _)] at this
  shapedC := fun zi D c h => by
    refine shaped_end zi D _ ?_
    rw [cutWords_is D c h]
    by_cases hj : 1 < cutJ D c
    · obtain ⟨n, h1, h2, h3, h4⟩ := words_is D c h hj
      rw [h4]
      exact fmt_ok h1 (by omega)
    · rw [cutW_plain D c hj]; exact msg1_ok
end Mine
end
section
open PySem PySem.W PyProof.Rows PySem.Calls
set_option Elab.async false
set_option maxRecDepth 100000
set_option linter.unusedVariables false
set_option linter.unusedSimpArgs false
namespace Mine
noncomputable def baseOf (h : Heap) : Heap := only h fun a => decide (a ∉ ([63, 70, 121] : List Addr))
theorem base_get {h : Heap} {a : Addr} (ha : a ∉ ([63, 70, 121] : List Addr)) : (baseOf h).get? a = h.get? a := by
  unfold baseOf
  rw [only_get, if_pos (decide_eq_true ha)]
theorem base_off {h : Heap} {a : Addr} (ha : a ∈ ([63, 70, 121] : List Addr)) : (baseOf h).get? a = none := by
  unfold baseOf
  rw [only_get, if_neg (by rw [decide_eq_false (fun c => c ha)]; decide)]
theorem base_ext (h : Heap) : Ext (baseOf h) h := fun b o e => by
  by_cases c : b ∈ ([63, 70, 121] : List Addr)
  · rw [base_off c] at e; cases e
  · rw [base_get c] at e; exact e
theorem rd_ints {B : Heap} : ∀ {vs : List Value} {ns : List Int}, IntsAre vs ns → RdAll B vs (ns.map .int)
  | _, _, .nil => .nil _
  | _, _, .cons n t r => .cons (.int ..) (rd_ints r)
theorem k_tabs (w : World) : ∀ a ∈ ([63, 70, 121] : List Addr), (Kf w).lookup a = none := by
  intro a ha
  simp only [List.mem_cons, List.not_mem_nil, or_false] at ha
  rcases ha with rfl | rfl | rfl
  · kernel_rfl
  · kernel_rfl
  · kernel_rfl
set_option maxHeartbeats 2000000 in
theorem law_main {w : World} {s₁ : Shared} {mg mb : Str → Option Value} {l : Addr} {vs : List Value} {ns : List Int} (hK : (Kf w).In s₁.heap) (hT : ∀ P ∈ ([63, 70, 121] : List Addr), s₁.heap.get? P = some (tabObj #[])) (hg : s₁.heap.Ns mainGlobals mg) (hb : s₁.heap.Ns builtinsNs mb) (hbi : ∀ x : Str, x ≠ "__name__" → mb x = bootBuiltins x) (hlim : s₁.heap.NoLimit)
    (hbm : ∃ bm ob, mg "__builtins__" = some (.ref bm) ∧ bm ≠ builtinsNs ∧ s₁.heap.get? bm = some ob ∧ ob.cls = .type "module" ∧ ob.dict = some builtinsNs ∧ ob.data = .plain) (hL : s₁.heap.IsList l vs.toArray) (hI : IntsAre vs ns) (hn : ns.length ≤ 63) (hgens : s₁.gens = #[]) {Q E : Value → Shared → Prop}
    (q : ∀ s', (∀ b o, b ∉ ([63, 70, 121] : List Addr) → s₁.heap.get? b = some o → s'.heap.get? b = some o) → (∀ P ∈ ([63, 70, 121] : List Addr), ∃ ps, s'.heap.get? P = some (tabObj ps)) → s'.os = s₁.os → AllBare s'.gens → Q (.bool true) s') : wpAny (model Pr w) callerA (call (.ref 155) [.ref l]) Q E s₁ := by
  have tab_ne : ∀ {a : Addr} {o : Obj}, s₁.heap.get? a = some o → (∀ vs, o.data ≠ .fields vs) → a ∉ ([63, 70, 121] : List Addr) := fun {a o} ho hd hm => by
    have := hT a hm
    rw [ho] at this
    cases this
    exact hd _ rfl
  have nsB : ∀ {a : Addr} {m : Str → Option Value}, s₁.heap.Ns a m → (baseOf s₁.heap).Ns a m := fun {a m} hn => by
    obtain ⟨o, es, ep, ho, hd, r⟩ := hn
    exact ⟨o, es, ep, (base_get (tab_ne ho fun vs c => by rw [hd] at c; cases c)).trans ho, hd, r⟩
  have bs : Bs w (baseOf s₁.heap) := by
    refine ⟨fun a o e => ?_, ⟨mb, nsB hb, hbi⟩, ?_, ?_⟩
    · rw [base_get fun hm => by rw [k_tabs w a hm] at e; cases e]
      exact hK a o e
    · obtain ⟨mc, hn, r⟩ := hlim
      exact ⟨mc, nsB hn, r⟩
    · obtain ⟨bm, ob, h1, h2, h3, h4, h5, h6⟩ := hbm
      exact ⟨mg, bm, ob, nsB hg, h1, h2, (base_get (tab_ne h3 fun vs c => by rw [h6] at c; cases c)).trans h3, h4, h5, h6⟩
  have hbig : 156 ≤ s₁.heap.objs.size := heap_big bs (base_ext _)
  have rl : Rd (baseOf s₁.heap) (.ref l) (.list (ns.map .int)) := by
    obtain ⟨o, ho, hc, n, hd⟩ := hL
    exact Rd.list (vs := vs) ⟨o, (base_get (tab_ne ho fun vs c => by rw [hd] at c; cases c)).trans ho, hc, n, hd⟩ (rd_ints hI)
  obtain ⟨oc, od, osl, ho⟩ := isLaw w
  have okc : Ok 9 callerA := ⟨rfl, by decide +kernel, by decide +kernel⟩
  refine wpAny_call (codeAny_call_cells (fd := fdLaw w) (body := (fPart w).1) (binds := [(Str.ofString "script", .ref l)]) okc.room (hK _ _ ho) rfl hlim (codeRec_of hK (by kernel_rfl)) (fPart w).2 (by kernel_rfl) (by kernel_rfl) (fun x hx => ?_) (fun s' I => ?_) (by kernel_rfl) (by kernel_rfl) (by kernel_rfl))
  · cases List.mem_singleton.mp hx
    exact .inl (by kernel_rfl)
  obtain ⟨⟨⟨h₁, tk₁, rfl⟩, hns, hkp, hfr⟩, hcell, hap, hab⟩ := I
  have hcs : ∀ n, cellsFrom n (fdLaw w).scope.names [] = [(Str.ofString "cut", n + 1 + 1), (Str.ofString "rest", n + 1), (Str.ofString "codes", n)] := fun n => by kernel_rfl
  have hbc : ∀ y, (bindC (envL w s₁.heap.objs.size).kindOf [(Str.ofString "script", Value.ref l)] fun _ => none) y = none := fun y => by
    unfold bindC
    rw [if_pos (by kernel_rfl)]
    rfl
  have c1 := hcell (Str.ofString "codes") (s₁.heap.objs.size + 1) (by kernel_rfl)
  have c2 := hcell (Str.ofString "rest") (s₁.heap.objs.size + 2) (by kernel_rfl)
  have c3 := hcell (Str.ofString "cut") (s₁.heap.objs.size + 3) (by kernel_rfl)
  rw [hbc] at c1 c2 c3
  obtain ⟨oC, hC, hCd⟩ := c1
  obtain ⟨oR, hR, hRd⟩ := c2
  obtain ⟨oT, hTt, hTd⟩ := c3
  have offB : ∀ a, s₁.heap.objs.size ≤ a → (baseOf s₁.heap).get? a = none := fun a ha => by
    cases e : (baseOf s₁.heap).get? a with
    | none => rfl
    | some o => exact absurd (Heap.lt_size (base_ext _ _ _ e)) (Nat.not_lt.mpr ha)
  have a0 : At [63, 70, 121] (envL w s₁.heap.objs.size).locals [(63, tabObj #[]), (70, tabObj #[]), (121, tabObj #[])] (baseOf s₁.heap) s₁.heap (bindL (envL w s₁.heap.objs.size).kindOf [(Str.ofString "script", Value.ref l)] fun _ => none) (baseOf s₁.heap) h₁ := by
    refine ⟨hns, fun p hp => ?_, offB _ (Nat.le_refl _), Nat.le_refl _, fun p hp => ?_, by decide, fun b o e => hkp b o (base_ext _ b o e), Ext.refl _, fun b o _ e => hkp b o e, Nat.le_of_lt hns.lt, fun x o e => .inl e⟩
    · have hm : p.1 ∈ ([63, 70, 121] : List Addr) ∧ p.2 = tabObj #[] := by
        simp only [List.mem_cons, List.not_mem_nil, or_false] at hp
        rcases hp with rfl | rfl | rfl <;> simp
      rw [hm.2]
      exact hkp _ _ (hT _ hm.1)
    · have hm : p.1 ∈ ([63, 70, 121] : List Addr) := by
        simp only [List.mem_cons, List.not_mem_nil, or_false] at hp
        rcases hp with rfl | rfl | rfl <;> simp
      refine ⟨base_off hm, fun e => ?_, .inl hm⟩
      have hlt : p.1 < s₁.heap.objs.size := Heap.lt_size (hT _ hm)
      rw [e] at hlt
      exact Nat.lt_irrefl _ hlt
  have small : ∀ p ∈ ([(63, tabObj #[]), (70, tabObj #[]), (121, tabObj #[])] : List (Addr × Obj)), p.1 < s₁.heap.objs.size := fun p hp => by
    simp only [List.mem_cons, List.not_mem_nil, or_false] at hp
    rcases hp with rfl | rfl | rfl
    · exact Nat.lt_of_lt_of_le (by decide) hbig
    · exact Nat.lt_of_lt_of_le (by decide) hbig
    · exact Nat.lt_of_lt_of_le (by decide) hbig
  have notin : ∀ a : Addr, s₁.heap.objs.size ≤ a → a ∉ ([(63, tabObj #[]), (70, tabObj #[]), (121, tabObj #[])] : List (Addr × Obj)).map (·.1) := fun a ha hm => by
    obtain ⟨p, hp, e⟩ := List.mem_map.mp hm
    exact Nat.lt_irrefl _ (Nat.lt_of_lt_of_le (small p hp) (e ▸ ha))
  have a1 := a0.addNew hC (notin _ (Nat.le_succ _)) (Nat.ne_of_gt (Nat.lt_succ_self _)) (offB _ (Nat.le_succ _)) (Nat.le_succ _)
  have a2 := a1.addNew hR (fun hm => by
    rcases List.mem_cons.mp hm with e | hm
    · exact absurd e (Nat.ne_of_gt (Nat.lt_succ_self _))
    · exact notin _ (Nat.le_add_right _ 2) hm) (Nat.ne_of_gt (Nat.lt_add_of_pos_right (by decide))) (offB _ (Nat.le_add_right _ 2)) (Nat.le_add_right _ 2)
  have a3 := a2.addNew hTt (fun hm => by
    rcases List.mem_cons.mp hm with e | hm
    · exact absurd e (Nat.ne_of_gt (Nat.lt_succ_self _))
    · rcases List.mem_cons.mp hm with e | hm
      · exact absurd e (Nat.ne_of_gt (Nat.lt_of_lt_of_le (Nat.lt_succ_self _) (Nat.le_succ _)))
      · exact notin _ (Nat.le_add_right _ 3) hm) (Nat.ne_of_gt (Nat.lt_add_of_pos_right (by decide))) (offB _ (Nat.le_add_right _ 3)) (Nat.le_add_right _ 3)
  have hms : (bindL (envL w s₁.heap.objs.size).kindOf [(Str.ofString "script", Value.ref l)] fun _ => none) (Str.ofString "script") = some (.ref l) := by kernel_rfl
  have tab0 : TabO (tabObj #[]) := ⟨#[], rfl, trivial⟩
  refine wpAny_mono (xw (law_ok plainLaw (k := 0) (s := s₁) (L := s₁.heap.objs.size) (okc.deeper _) rfl bs a3 hTd hRd hCd hms rl (by omega) tab0 tab0 (.inl rfl) (by rw [hgens]; intro y hy; simp at hy) fun o1 o2 o3 gens' R m' B' h' tk' a' ht1 ht2 ht3 bare' => ?_)) (fun f s' qq => qq) fun _ _ e => e
  refine q _ (fun b o hb e => a'.kp b o hb e) (fun P hP => ?_) rfl bare'
  simp only [List.mem_cons, List.not_mem_nil, or_false] at hP
  rcases hP with rfl | rfl | rfl
  · obtain ⟨ps, rfl, _⟩ := ht1
    exact ⟨ps, a'.own (63, _) (.head _)⟩
  · obtain ⟨ps, rfl, _⟩ := ht2
    exact ⟨ps, a'.own (70, _) (.tail _ (.head _))⟩
  · obtain ⟨ps, rfl⟩ := ht3.tab
    exact ⟨ps, a'.own (121, _) (.tail _ (.tail _ (.head _)))⟩
end Mine
end
section
open PySem PySem.W PyProof.Rows PySem.Calls
set_option Elab.async false
set_option maxRecDepth 100000
set_option linter.unusedVariables false
set_option linter.unusedSimpArgs false
namespace Mine
theorem ns_some_of {K : Frag} {h : Heap} {N : Addr} {mg : Str → Option Value} {n : Str} {v : Value} (X : K.In h) (G : h.Ns N mg) (e : nsIn K N n = some (some v)) : mg n = some v := by
  obtain ⟨o, es, ep, ho, hd, _, hf⟩ := G
  unfold nsIn at e
  split at e
  · rename_i c d es' n' sl q
    have := X _ _ q
    rw [ho] at this
    cases this
    cases hd
    rw [← hf]
    unfold nsFind findBy
    rw [← Array.find?_toList]
    split at e
    · rename_i en he
      rw [he]
      simpa using e
    · split at e
      · cases e
      · cases e
  · cases e
set_option maxHeartbeats 4000000 in
theorem holds : PySem.Challenge.rw_nb0078_01.Holds := by
  apply Mine.hd2
  intro w s₀ s₁ mg mb G Y a o pm cd doc dV kV ho hod hcd hdf hmg hgens args vals as hpre hlay hrd hwell hsys
  have KX : (Kf w).In s₁.heap := km_in_of Y
  have TX := km_tabs_of Y
  have g := G.T.g
  have b := G.T.b
  have bi := G.T.builtins
  have lim := G.T.nolimit
  have bm := G.T.bmain
  have ha : mg (Str.ofString "law") = some (.ref 155) := ns_some_of KX g (by kernel_rfl)
  have hmg' : mg (Str.ofString "law") = some (.ref a) := hmg
  rw [ha] at hmg'
  cases hmg'
  clear hod hcd hdf Y G hmg ho
  wrow_args hpre hlay hrd hwell hsys
  rename IntsAre _ _ => hI
  rename Heap.IsList _ _ _ => hL
  rename (¬ _ < _) => hlen
  refine law_main KX TX g b bi lim bm hL hI (by omega) hgens fun s' keep grown hos bare => ?_
  refine ⟨.inl ⟨_, .bool true, [], rfl, (fun cls => by rfl), .bool true, postW_of (X := (true == true)) rfl (w_eq_bool (k := true) (l := true) (w_res rfl) w_lit) rfl, fun _ => ⟨.nil, fun _ h => nomatch h⟩⟩, ⟨fun x ob e => ?_, fun x ob e => ?_⟩, hos, bare⟩
  · by_cases hx : x ∈ ([63, 70, 121] : List Addr)
    · have e2 := TX x hx
      rw [e] at e2
      cases e2
      obtain ⟨ps, hps⟩ := grown x hx
      have hct : isCodeTable s₁.heap x := by
        simp only [List.mem_cons, List.not_mem_nil, or_false] at hx
        rcases hx with rfl | rfl | rfl
        · exact ((codeHd_of_K (c := 67) (P := 63) KX (by kernel_rfl)).tab e).isCodeTable
        · exact ((codeHd_of_K (c := 74) (P := 70) KX (by kernel_rfl)).tab e).isCodeTable
        · exact ((codeHd_of_K (c := 123) (P := 121) KX (by kernel_rfl)).tab e).isCodeTable
      exact .inr (.inl ⟨hct, rfl, #[], ps, rfl, by rw [Array.empty_append]; exact hps⟩)
    · exact .inl (keep x ob hx e)
  · by_cases hx : x ∈ ([63, 70, 121] : List Addr)
    · obtain ⟨ps, hps⟩ := grown x hx
      exact ⟨_, hps⟩
    · exact ⟨ob, keep x ob hx e⟩
end Mine
end
theorem PySem.Challenge.cw_nb0078_01_holds : PySem.Challenge.rw_nb0078_01.Holds :=
  Mine.holds
